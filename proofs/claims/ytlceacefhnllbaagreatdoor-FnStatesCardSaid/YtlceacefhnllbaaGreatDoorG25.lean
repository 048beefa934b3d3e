/- A part of the proof of the statement on the law FnStates, which the last text proves: part G25. -/
import Derived.Test.YtlceacefhnllbaaGreatDoorG24
set_option linter.all false
section
namespace Go.Proofs
open Go.RowKit
open Pl
theorem RowAt.news {w : World} {g : Nat} {xs : List Value} (h : RowAt w g xs) : ∀ j u, xs[j]? = some u → w.cell? ((⟨g, 0, none⟩ : Addr).add j) = some u := fun j u hu => by
  have h0 := h j u hu
  have e : (⟨g, 0, none⟩ : Addr).add j = ⟨g, j, none⟩ := by
    by_cases hj : j = 0
    · rw [hj]; rfl
    · simp only [Addr.add, hj]; simp
  rw [e]; exact h0
theorem flN_one (l : List Nat) : ∀ u ∈ flN l, u.oneCell' = true := by
  intro u hu; simp [flN] at hu; obtain ⟨z, _, rfl⟩ := hu; rfl
theorem RowAt.upB {w W : World} {g : Nat} {xs : List Value} (h : RowAt w g xs) (k : Kp (fun j => j < w.heap.size) w W) : RowAt W g xs := fun i u hu => by
  have h0 := h i u hu
  exact (World.cell?_of_block (k.blk g (cell_lt h0) (cell_lt h0))).trans h0
def mtOf (l : List Nat) : Nat := l.foldl max 0
theorem mtOf_snoc (l : List Nat) (x : Nat) : mtOf (l ++ [x]) = max (mtOf l) x := by simp [mtOf]
theorem rs3 (w : World) (gb : Nat) (mt M D : Value) (hb : Blk w gb 95 (c3 mt (.slice none 0 0) (.slice none 0 0) M (.slice none 0 0) D)) : RS ty3 sz3 I3 w.heap.size w gb 95 (c3 mt (.slice none 0 0) (.slice none 0 0) M (.slice none 0 0) D) (g3 [] [] []) where
  blk := hb
  row := fun i hi => by
    rcases hi with rfl | rfl | rfl <;> exact ⟨_, rfl, ⟨rfl, .inl ⟨rfl, rfl⟩⟩⟩
  ne := fun i i' v v' j hi _ _ h1 _ h2 => by
    have : v = .slice none 0 0 := by rcases hi with rfl | rfl | rfl <;> simpa [c3] using h1.symm
    subst this; simp [Value.ownBlock] at h2
  nb := by
    rintro ⟨i, v, hi, h1, h2⟩
    have : v = .slice none 0 0 := by rcases hi with rfl | rfl | rfl <;> simpa [c3] using h1.symm
    subst this; simp [Value.ownBlock] at h2
theorem GR.setMt {w0 w : World} {base gb : Nat} {M D mt s2 s5 s8 : Value} {c0 : Array Value} {l : List LS} {rs : List (Nat × Nat)} {m : List LE} (h : GR w0 base gb M D c0 w mt s2 s5 s8 l rs m) (u : Value) :
    GR w0 base gb M D c0 (w.setCell ⟨gb, 1, none⟩ u) u s2 s5 s8 l rs m := by
  obtain ⟨p1, p2⟩ := RS.setCell h.rs (i := 1) (by simp [I3]) u
  exact ⟨p1, h.fr.trans p2⟩
theorem GR.drew {w0 w : World} {base gb : Nat} {M D mt s2 s5 s8 : Value} {c0 : Array Value} {l : List LS} {rs : List (Nat × Nat)} {m : List LE} (h : GR w0 base gb M D c0 w mt s2 s5 s8 l rs m) : GR w0 base gb M D c0 w.drew mt s2 s5 s8 l rs m :=
  ⟨h.rs.kept (Kp.drew _), h.fr.trans ⟨⟨rfl, rfl⟩, Nat.le_refl _, fun _ _ _ ho => ⟨rfl, ho⟩⟩⟩
theorem mtOf_lt (B : Nat) (hB : 0 < B) : ∀ (l : List Nat) (a : Nat), a < B → (∀ y ∈ l, y < B) → l.foldl max a < B
  | [], a, ha, _ => ha
  | x :: l, a, ha, h => mtOf_lt B hB l (max a x) (by have := h x (by simp); omega) (fun y hy => h y (by simp [hy]))
theorem flN_serN (l : List Nat) : flN l = flJ (serN l) := by simp [flN, flJ, serN]
theorem NtRet.pre {N : Bd} {w w1 : World} {e : Ending} {w' : World} (k : Kp (fun _ => True) w w1) (h : NtRet N w1 e w') : NtRet N w e w' := by
  obtain ⟨ab, tt, nr, nd, v, h1, h2, h3, h4, h5⟩ := h
  exact ⟨ab, tt, nr, nd, v, h1, h2, h3, h4, k.trans h5⟩
def LpX (wG : World) (base gb : Nat) (M D : Value) (c0 : Array Value) (ss ks : List Nat) (t15 : Value) (wr : World) : Prop := ∃ (k : Nat) (s5 : Value), t15 = .int .i64 k ∧ k ≤ ss.length ∧ GR wG base gb M D c0 wr (.int .i64 (mtOf (ks.take k) : Nat)) (.slice none 0 0) s5 (.slice none 0 0) [] ((ss.zip ks).take k) []

set_option maxRecDepth 100000 in
set_option maxHeartbeats 2000000 in
theorem lexer_any {w : World} {x : NetV} {N : Bd} {ss ks : List Nat} (hm : NetM w x N ss ks) (hsk : ss.length = ks.length) (hss : ss.length ≤ 1000) (hks : ∀ y ∈ ks, y < 2147483648) (sm : Sml N (ss.zip ks)) (hde : 1 ≤ N.de.length) (hst : 1 ≤ N.st.length) (hed : 1 ≤ N.ed.length) (hs1 : 1 ≤ ss.length)
    (HZ : ∀ W g c, Kp (fun _ => True) w W → RowAt W g (flI (serL N (ss.zip ks) (mtOf ks : Nat))) → (serL N (ss.zip ks) (mtOf ks : Nat)).length ≤ c → Calls Tryz.prog 30 #[.slice (some ⟨g, 0, none⟩) (serL N (ss.zip ks) (mtOf ks : Nat)).length c] W fun e w' => NtRet N W e w') :
    Calls Tryz.prog 19 #[x.val] w fun e w' => NtRet N w e w' := by
  obtain ⟨xmt, sB, sn, sc, aB, an, ac, kB, kn, kc, eB, en, ec, dB, dn, dc⟩ := x
  have q1 : sn = N.st.length := hm.s.2.1
  have q2 : an = ss.length := hm.a.2.1
  have q3 : kn = ks.length := hm.k.2.1
  have q4 : en = N.ed.length := hm.e.2.1
  have q5 : dn = N.de.length := hm.d.2.1
  subst q1 q2 q3 q4 q5
  have cA : ss.length ≤ ac := hm.a.2.2
  have cK : ks.length ≤ kc := hm.k.2.2
  have cD : N.de.length ≤ dc := hm.d.2.2
  have htD : N.de.length ≤ 1000 := by have := sm.t; unfold tot at this; omega
  have HM := Lib.hid hm
  have SM := Lib.hid sm
  have HZZ := Lib.hid HZ
  have HKS := Lib.hid hks
  have HSK := Lib.hid hsk
  have HDE := Lib.hid hde
  have HST := Lib.hid hst
  have HED := Lib.hid hed
  have HS1 := Lib.hid hs1
  have hde0 : 0 < N.de.length := hde
  unfold NetV.val
  have bX0 := Blk.new w 32 #[.int .i64 xmt, .slice (some ⟨sB, 0, none⟩) N.st.length sc, .slice (some ⟨aB, 0, none⟩) ss.length ac, .slice (some ⟨kB, 0, none⟩) ks.length kc, .slice (some ⟨eB, 0, none⟩) N.ed.length ec, .slice (some ⟨dB, 0, none⟩) N.de.length dc]
  have kX : Kp (fun _ => True) w (w.alloc (.cells #[.int .i64 xmt, .slice (some ⟨sB, 0, none⟩) N.st.length sc, .slice (some ⟨aB, 0, none⟩) ss.length ac, .slice (some ⟨kB, 0, none⟩) ks.length kc, .slice (some ⟨eB, 0, none⟩) N.ed.length ec, .slice (some ⟨dB, 0, none⟩) N.de.length dc] 32)) := Kp.alloc _ _
  obtain ⟨i3, hi3, hy0, hy1, hy2⟩ := info_parts info3
  clear hm sm HZ hks hsk hde hst hed hs1
  go_enter Tryz.func19, Tryz.ntmps19
  go_upto_region 1 with fail
  obtain ⟨xb, hxb⟩ : ∃ xb, xb = w.heap.size := ⟨_, rfl⟩
  rw [← hxb] at bX0 ⊢
  generalize w.alloc (.cells #[.int .i64 xmt, .slice (some ⟨sB, 0, none⟩) N.st.length sc, .slice (some ⟨aB, 0, none⟩) ss.length ac, .slice (some ⟨kB, 0, none⟩) ks.length kc, .slice (some ⟨eB, 0, none⟩) N.ed.length ec, .slice (some ⟨dB, 0, none⟩) N.de.length dc] 32) = wA at bX0 kX ⊢
  have KX := Lib.hid kX
  have BX := Lib.hid bX0
  have x5 : wA.cell? ⟨xb, 5, none⟩ = some (.slice (some ⟨dB, 0, none⟩) N.de.length dc) := bX0.cell 5
  have lxb := bX0.lt
  have DN : Hid (RowAt wA dB (flN N.de)) := Lib.hid (HM.out.d.1.up kX)
  have HXB := Lib.hid hxb
  clear kX bX0 hxb
  go_upto_region 2 with (first | (at_builtin; refine wpList_append_lies _ rfl _ _ 29 rfl wA.heap.size 3 i3 _ 1 8 Tryz.underlying29 hi3 hy0 hy1 hy2 rfl (by omega) (.slice (some ⟨wA.heap.size, 0, none⟩) 0 0) 0 [] rfl ⟨by simp, .inr ⟨wA.heap.size, 0, #[], rfl, Nat.le_refl _, heap_alloc_new wA _, Nat.le_refl _, by simp [maxLen], by simp, by simp⟩⟩ ⟨dB, 0, none⟩ N.de.length dc (flN N.de) rfl (by simp [flN]) ((DN.out.up (Kp.alloc wA (.cells #[] 3))).news) (flN_one N.de) hde0 (by simp [maxLen]; omega) (by omega) (by simp) (wA.heap.size + 1) (by simp) ?_; intro g1 cap1 w1; rw [Nat.zero_add, List.nil_append]; intro hown1 hgrow1 hat1 hlt1; have k61 : Kp (fun k => k < wA.heap.size) wA w1 := (Kp.alloc _ _).trans (Kp.grown hgrow1 (fun k hk e => by simp [Value.ownBlock] at e; omega)); have O1 := Lib.hid hown1; have K61 := Lib.hid k61; clear hown1 hgrow1 hat1 hlt1 k61))
  have r1 : Kp (fun _ => True) w w1 := ⟨SO.trans (KX.out.so) (K61.out.so), Nat.le_trans KX.out.size K61.out.size, fun j hj _ => (K61.out.blk j (Nat.lt_of_lt_of_le hj KX.out.size) (Nat.lt_of_lt_of_le hj KX.out.size)).trans (KX.out.blk j hj trivial)⟩
  have k1G : Kp (fun _ => True) w1 ((w1.alloc (.cells #[.int .i64 0] 3)).alloc (.cells #[.bool true, .int .i64 0, .slice none 0 0, .slice none 0 0, .slice none 0 0, .slice none 0 0, .slice (some ⟨w1.heap.size, 0, none⟩) 1 1, .slice none 0 0, .slice none 0 0, .slice (some ⟨g1, 0, none⟩) N.de.length cap1, .slice none 0 0] 95)) := (Kp.alloc _ _).trans (Kp.alloc _ _)
  have bM : Blk ((w1.alloc (.cells #[.int .i64 0] 3)).alloc (.cells #[.bool true, .int .i64 0, .slice none 0 0, .slice none 0 0, .slice none 0 0, .slice none 0 0, .slice (some ⟨w1.heap.size, 0, none⟩) 1 1, .slice none 0 0, .slice none 0 0, .slice (some ⟨g1, 0, none⟩) N.de.length cap1, .slice none 0 0] 95)) w1.heap.size 3 #[.int .i64 0] := Blk.kept (Blk.new w1 3 _) (Below.heap_alloc _ _ _ (by simp))
  have bG : Blk ((w1.alloc (.cells #[.int .i64 0] 3)).alloc (.cells #[.bool true, .int .i64 0, .slice none 0 0, .slice none 0 0, .slice none 0 0, .slice none 0 0, .slice (some ⟨w1.heap.size, 0, none⟩) 1 1, .slice none 0 0, .slice none 0 0, .slice (some ⟨g1, 0, none⟩) N.de.length cap1, .slice none 0 0] 95)) (w1.heap.size + 1) 95 #[.bool true, .int .i64 0, .slice none 0 0, .slice none 0 0, .slice none 0 0, .slice none 0 0, .slice (some ⟨w1.heap.size, 0, none⟩) 1 1, .slice none 0 0, .slice none 0 0, .slice (some ⟨g1, 0, none⟩) N.de.length cap1, .slice none 0 0] := heap_new2 w1 _ _
  obtain ⟨m1, hm1⟩ : ∃ m1, m1 = w1.heap.size := ⟨_, rfl⟩
  obtain ⟨gb, hgb⟩ : ∃ gb, gb = w1.heap.size + 1 := ⟨_, rfl⟩
  rw [← hgb] at bG ⊢
  rw [← hm1] at bM bG k1G ⊢
  obtain ⟨M, hM⟩ : ∃ M : Value, M = .slice (some ⟨m1, 0, none⟩) 1 1 := ⟨_, rfl⟩
  obtain ⟨D, hD⟩ : ∃ D : Value, D = .slice (some ⟨g1, 0, none⟩) N.de.length cap1 := ⟨_, rfl⟩
  rw [← hM, ← hD] at bM bG k1G ⊢
  generalize ((w1.alloc (.cells #[.int .i64 0] 3)).alloc (.cells #[.bool true, .int .i64 0, .slice none 0 0, .slice none 0 0, .slice none 0 0, .slice none 0 0, M, .slice none 0 0, .slice none 0 0, D, .slice none 0 0] 95)) = wG at bM bG k1G ⊢
  obtain ⟨base, hbase⟩ : ∃ base, base = wG.heap.size := ⟨_, rfl⟩
  have r0 := rs3 wG gb (.int .i64 0) M D bG
  rw [← hbase] at r0
  obtain ⟨c0, hc0⟩ : ∃ c0, c0 = c3 (.int .i64 0) (.slice none 0 0) (.slice none 0 0) M (.slice none 0 0) D := ⟨_, rfl⟩
  have g0 : GR wG base gb M D c0 wG (.int .i64 0) (.slice none 0 0) (.slice none 0 0) (.slice none 0 0) [] [] [] := ⟨r0, by rw [hc0]; exact BFr.refl⟩
  rw [← hc0] at r0
  have lG1 : w1.heap.size ≤ wG.heap.size := k1G.size
  have lgb := bG.lt
  have LB : Hid (base ≤ wG.heap.size ∧ w1.heap.size ≤ base ∧ w1.heap.size ≤ gb) := Lib.hid ⟨by omega, by omega, by omega⟩
  have K1W : Hid (∀ W mt s2 s5 s8 l rs m, GR wG base gb M D c0 W mt s2 s5 s8 l rs m → Kp (fun j => j < w1.heap.size) w1 W) := Lib.hid (fun W mt s2 s5 s8 l rs m h => ⟨SO.trans k1G.so h.fr.so, Nat.le_trans lG1 h.fr.size, fun j hj _ => (h.fr.far j (Nat.lt_of_lt_of_le hj lG1) (by omega) (r0.far (by omega))).1.trans (k1G.blk j hj trivial)⟩)
  have BXW := Lib.hid (BX.out.kept (K61.out.blk xb lxb lxb))
  have XB : Hid (∀ W, Kp (fun j => j < w1.heap.size) w1 W → W.cell? ⟨xb, 2, none⟩ = some (.slice (some ⟨aB, 0, none⟩) ss.length ac) ∧ W.cell? ⟨xb, 3, none⟩ = some (.slice (some ⟨kB, 0, none⟩) ks.length kc)) := Lib.hid (fun W k => by
    have b := (BXW.out.kept (k.blk xb BXW.out.lt BXW.out.lt)).cell
    exact ⟨b 2, b 3⟩)
  have RA : Hid (RowAt w1 aB (flN ss)) := Lib.hid (HM.out.a.1.up r1)
  have RK : Hid (RowAt w1 kB (flN ks)) := Lib.hid (HM.out.k.1.up r1)
  have G0 := Lib.hid g0
  have R0 := Lib.hid r0
  have KW1 := Lib.hid r1
  have K1G := Lib.hid k1G
  have BMM := Lib.hid bM
  have HMV := Lib.hid hM
  have HDV := Lib.hid hD
  have HC0 := Lib.hid hc0
  have HM1 := Lib.hid hm1
  have HGB := Lib.hid hgb
  have HBA := Lib.hid hbase
  obtain ⟨d2, d3⟩ := XB.out wG (k1G.weak (fun _ _ => trivial))
  clear g0 r0 r1 k1G bM bG hM hD hc0 hm1 hgb hbase DN x5
  go_wp2_with fail
  clear d2 d3
  go_loopw [15] (fun t15 wr => LpX wG base gb M D c0 ss ks t15 wr) (fun t15 _ => ss.length - (intOf t15).toNat)
  case atStart => exact ⟨0, _, rfl, Nat.zero_le _, by simpa [mtOf] using G0.out⟩
  case round =>
    obtain ⟨k, s5, rfl, hk, hg⟩ := hrel
    have kw := K1W.out _ _ _ _ _ _ _ _ hg
    by_cases hkn : k < ss.length
    · have hkn' : (k : Int) < (ss.length : Int) := by omega
      have hkk : (k : Int) < (ks.length : Int) := by have := HSK.out; omega
      obtain ⟨y, hy⟩ : ∃ y, ss[k]? = some y := ⟨ss[k]'hkn, by simp⟩
      obtain ⟨z, hz⟩ : ∃ z, ks[k]? = some z := ⟨ks[k]'(by have := HSK.out; omega), by simp⟩
      have ea : wr.cell? ⟨aB, k, none⟩ = some (.int .i64 y) := (RA.out.upB kw) k _ (by simp [flN, hy])
      have ek : wr.cell? ⟨kB, k, none⟩ = some (.int .i64 z) := (RK.out.upB kw) k _ (by simp [flN, hz])
      obtain ⟨d2, d3⟩ := XB.out wr kw
      have hcA : (k : Int) ≤ (ac : Int) := by omega
      have hcK : (k : Int) ≤ (kc : Int) := by have := HSK.out; omega
      have HY := Lib.hid hy
      have HZ := Lib.hid hz
      have KW := Lib.hid kw
      have hb1 := hg.rs.blk
      have hlb := hb1.lt
      have y1 : wr.cell? ⟨gb, 5, none⟩ = some s5 := hb1.cell 5
      have z1 : wr.frozen? ⟨gb, 5, none⟩ = false := hb1.free 5
      have HO : Hid (wr.ownsRow base 97 2 s5 ((ss.zip ks).take k).length (flR ((ss.zip ks).take k))) := Lib.hid (hg.row (i := 5) (by simp [I3]) rfl)
      have hlz : ((ss.zip ks).take k).length = k := by have := HSK.out; simp; omega
      have HG := Lib.hid hg
      have hbw : base ≤ wr.heap.size := Nat.le_trans LB.out.1 hg.fr.size
      obtain ⟨i6, hi6, hv0, hv1, hv2⟩ := info_parts info97
      have lkB := cell_lt ek
      have SE : Hid (∀ W, Kp (fun j => j < w1.heap.size) wr W → W.cell? ⟨xb, 3, none⟩ = some (.slice (some ⟨kB, 0, none⟩) ks.length kc) ∧ W.cell? ⟨kB, k, none⟩ = some (.int .i64 z)) := Lib.hid (fun W k2 => by
        have kk := KW.out.trans k2
        exact ⟨(XB.out W kk).2, (RK.out.upB kk) k _ (by simp [flN, HZ.out])⟩)
      clear hy hz kw hg hb1
      go_upto_region 5 with fail
      clear ea d2 d3 ek
      refine wp_region_x (fun W => (W.cell? ⟨xb, 3, none⟩ = some (.slice (some ⟨kB, 0, none⟩) ks.length kc) ∧ W.cell? ⟨kB, k, none⟩ = some (.int .i64 z)) ∧ W.cell? ⟨gb, 5, none⟩ = some s5) 12 (by kernel_rfl) ?_
      have hSd := show (fun W => (W.cell? ⟨xb, 3, none⟩ = some (.slice (some ⟨kB, 0, none⟩) ks.length kc) ∧ W.cell? ⟨kB, k, none⟩ = some (.int .i64 z)) ∧ W.cell? ⟨gb, 5, none⟩ = some s5) wr.drew from ⟨SE.out _ (Kp.drew _), y1⟩
      refine takeX (v := ?v31) 0 rfl (by kernel_rfl) (by kernel_rfl) (by kernel_rfl) (by kernel_rfl) (fun _ _ _ h => h) hSd (by rfl) ?hy31 ?r31
      case hy31 => (intro w hSw; (try dsimp only at hSw); go_simp) <;> with_reducible rfl
      try simp only [Act.put, List.setIfInBounds_toArray, List.set_cons_zero, List.set_cons_succ]
      refine takeX (v := ?v32) 1 rfl (by kernel_rfl) (by kernel_rfl) (by kernel_rfl) (by kernel_rfl) (fun _ _ _ h => h) hSd (by rfl) ?hy32 ?r32
      case hy32 => (intro w hSw; (try dsimp only at hSw); go_simp) <;> with_reducible rfl
      try simp only [Act.put, List.setIfInBounds_toArray, List.set_cons_zero, List.set_cons_succ]
      refine takeX (v := ?v33) 2 rfl (by kernel_rfl) (by kernel_rfl) (by kernel_rfl) (by kernel_rfl) (fun _ _ _ h => h) hSd (by rfl) ?hy33 ?r33
      case hy33 => (intro w hSw; (try dsimp only at hSw); go_simp) <;> with_reducible rfl
      try simp only [Act.put, List.setIfInBounds_toArray, List.set_cons_zero, List.set_cons_succ]
      refine takeX (v := ?v34) 3 rfl (by kernel_rfl) (by kernel_rfl) (by kernel_rfl) (by kernel_rfl) (fun _ _ _ h => h) hSd (by rfl) ?hy34 ?r34
      case hy34 => (intro w hSw; (try dsimp only at hSw); go_simp) <;> with_reducible rfl
      try simp only [Act.put, List.setIfInBounds_toArray, List.set_cons_zero, List.set_cons_succ]
      refine takeX (v := ?v35) 4 rfl (by kernel_rfl) (by kernel_rfl) (by kernel_rfl) (by kernel_rfl) (fun _ _ _ h => h) hSd (by rfl) ?hy35 ?r35
      case hy35 => (intro w hSw; (try dsimp only at hSw); go_simp) <;> with_reducible rfl
      try simp only [Act.put, List.setIfInBounds_toArray, List.set_cons_zero, List.set_cons_succ]
      refine takeX (v := ?v36) 5 rfl (by kernel_rfl) (by kernel_rfl) (by kernel_rfl) (by kernel_rfl) (fun _ _ _ h => h) hSd (by rfl) ?hy36 ?r36
      case hy36 => (intro w hSw; (try dsimp only at hSw); go_simp) <;> with_reducible rfl
      try simp only [Act.put, List.setIfInBounds_toArray, List.set_cons_zero, List.set_cons_succ]
      refine takeX (v := ?v37) 6 rfl (by kernel_rfl) (by kernel_rfl) (by kernel_rfl) (by kernel_rfl) (fun _ _ _ h => h) hSd (by rfl) ?hy37 ?r37
      case hy37 => (intro w hSw; (try dsimp only at hSw); go_simp) <;> with_reducible rfl
      try simp only [Act.put, List.setIfInBounds_toArray, List.set_cons_zero, List.set_cons_succ]
      refine takeX (v := ?v38) 7 rfl (by kernel_rfl) (by kernel_rfl) (by kernel_rfl) (by kernel_rfl) (fun _ _ _ h => h) hSd (by rfl) ?hy38 ?r38
      case hy38 => (intro w hSw; (try dsimp only at hSw); go_simp) <;> with_reducible rfl
      try simp only [Act.put, List.setIfInBounds_toArray, List.set_cons_zero, List.set_cons_succ]
      refine takeX (v := ?v39) 8 rfl (by kernel_rfl) (by kernel_rfl) (by kernel_rfl) (by kernel_rfl) (fun _ _ _ h => h) hSd (by rfl) ?hy39 ?r39
      case hy39 => (intro w hSw; (try dsimp only at hSw); go_simp) <;> with_reducible rfl
      try simp only [Act.put, List.setIfInBounds_toArray, List.set_cons_zero, List.set_cons_succ]
      refine oneX 9 (by kernel_rfl) rfl (fun K hK => ?_)
      go_simp
      refine hK.out _ _ (fun _ => ⟨SE.out _ ((Kp.drew _).trans (Kp.alloc _ _)), (World.cell?_of_block (((Kp.drew (P := fun _ => True) _).trans (Kp.alloc _ _)).blk gb HG.out.rs.blk.lt trivial)).trans y1⟩) ?_
      clear hK K
      try simp only [Act.put, List.setIfInBounds_toArray, List.set_cons_zero, List.set_cons_succ]
      refine oneX 10 (by kernel_rfl) rfl (fun K hK => ?_)
      refine step_append_lies _ (by rfl) _ _ _ (by rfl) base 97 i6 _ 2 16 Tryz.underlying90 hi6 hv0 hv1 hv2 rfl (by omega) s5 ((ss.zip ks).take k).length (flR ((ss.zip ks).take k)) (by rfl) (by first | exact (HO.out.alloc _).drew | exact (HO.out.drew).alloc _) ⟨wr.heap.size, 0, none⟩ 1 1 (ruC (y, z)) (by rfl) (by rfl) (World.news_of_block (cs := #[.int .i64 y, .int .i64 z]) (t := 97) (fr := (0, 0)) (heap_alloc_new wr _)) (by simp [Value.oneCell', ruC]) (by omega) (by simp [maxLen]; omega) (by omega) (by simp; omega) (wr.heap.size + 1) (by simp) ?_
      intro gg cap w2 hown2 hgrow2 hat2 hlt2
      have k2 : Kp (fun k => some k ≠ s5.ownBlock) wr w2 := (by first | exact ((Kp.drew _).trans (Kp.alloc _ _)).trans (Kp.grown hgrow2 (fun k hk => hk)) | exact ((Kp.alloc _ _).trans (Kp.drew _)).trans (Kp.grown hgrow2 (fun k hk => hk)))
      have k1e : Kp (fun j => j < w1.heap.size) wr w2 := k2.weak (fun j hj e => by have := (own_blk HO.out e.symm).1; have := LB.out; omega)
      have hneG : ¬ gb < w1.heap.size := (by have := LB.out; omega)
      have B1 := HG.out.far (i := 5) (v := s5) (by simp [I3]) rfl k2
      have c01 : w2.cell? ⟨gb, 5, none⟩ = some s5 := B1.cell 5
      have f01 : w2.frozen? ⟨gb, 5, none⟩ = false := B1.free 5
      have PU := Lib.hid (HG.out.put5 (x := (y, z)) rfl hown2 k2 (hat2.imp id (fun e => by omega)))
      clear hown2 hgrow2 hat2 hlt2 k2 B1
      refine hK.out _ _ (fun _ => ⟨SE.out _ k1e, c01⟩) ?_
      clear hK K
      try simp only [Act.put, List.setIfInBounds_toArray, List.set_cons_zero, List.set_cons_succ]
      have hS1 := show (fun W => (W.cell? ⟨xb, 3, none⟩ = some (.slice (some ⟨kB, 0, none⟩) ks.length kc) ∧ W.cell? ⟨kB, k, none⟩ = some (.int .i64 z)) ∧ W.cell? ⟨gb, 5, none⟩ = some s5) w2 from ⟨SE.out _ k1e, c01⟩
      refine oneX 11 (by kernel_rfl) rfl (fun K hK => ?_)
      go_simp
      refine hK.out _ _ (fun _ => hS1) ?_
      clear hK K
      try simp only [Act.put, List.setIfInBounds_toArray, List.set_cons_zero, List.set_cons_succ]
      refine oneX 12 (by kernel_rfl) rfl (fun K hK => ?_)
      go_simp
      refine hK.out _ _ (fun h => absurd rfl h) ?_
      refine wpAnyX_done (by kernel_rfl) ?_
      clear hK K hSd hS1
      try simp only [Act.put, List.setIfInBounds_toArray, List.set_cons_zero, List.set_cons_succ]
      all_goals
        have et : (ss.zip ks).take (k + 1) = (ss.zip ks).take k ++ [(y, z)] := by
          rw [List.take_add_one, (List.getElem?_zip_eq_some (z := (y, z))).2 ⟨HY.out, HZ.out⟩]; rfl
        have FIN : Hid (GR wG base gb M D c0 (w2.setCell ⟨gb, 5, none⟩ (.slice (some ⟨gg, 0, none⟩) (k + 1) cap)) (.int .i64 (mtOf (ks.take k) : Nat)) (.slice none 0 0) (.slice (some ⟨gg, 0, none⟩) (k + 1) cap) (.slice none 0 0) [] ((ss.zip ks).take (k + 1)) []) := by
          have := PU.out
          rw [hlz] at this
          rw [et]
          exact Lib.hid this
        clear PU c01 f01 et k1e SE y1 z1 HO
        generalize w2.setCell ⟨gb, 5, none⟩ (.slice (some ⟨gg, 0, none⟩) (k + 1) cap) = w3 at FIN ⊢
        have kw3 := K1W.out _ _ _ _ _ _ _ _ FIN.out
        have KW3 := Lib.hid kw3
        obtain ⟨d2, d3⟩ := XB.out w3 kw3
        have ek : w3.cell? ⟨kB, k, none⟩ = some (.int .i64 z) := (RK.out.upB kw3) k _ (by simp [flN, HZ.out])
        have y1 : w3.cell? ⟨gb, 1, none⟩ = some (.int .i64 (mtOf (ks.take k) : Nat)) := FIN.out.rs.blk.cell 1
        have z1 : w3.frozen? ⟨gb, 1, none⟩ = false := FIN.out.rs.blk.free 1
        have SE : Hid (∀ W, Kp (fun j => j < w1.heap.size) w3 W → W.cell? ⟨xb, 3, none⟩ = some (.slice (some ⟨kB, 0, none⟩) ks.length kc) ∧ W.cell? ⟨kB, k, none⟩ = some (.int .i64 z)) := Lib.hid (fun W k2 => by
          have kk := KW3.out.trans k2
          exact ⟨(XB.out W kk).2, (RK.out.upB kk) k _ (by simp [flN, HZ.out])⟩)
        have hneG : ¬ gb < w1.heap.size := by have := LB.out; omega
        have hem : mtOf (ks.take (k + 1)) = max (mtOf (ks.take k)) z := by rw [List.take_add_one, HZ.out]; exact mtOf_snoc _ _
        have HEM := Lib.hid hem
        clear kw3 d2 d3 ek hem
        go_upto_region 6 with fail
        refine wp_region_x (fun W => (W.cell? ⟨xb, 3, none⟩ = some (.slice (some ⟨kB, 0, none⟩) ks.length kc) ∧ W.cell? ⟨kB, k, none⟩ = some (.int .i64 z)) ∧ W.cell? ⟨gb, 1, none⟩ = some (.int .i64 (mtOf (ks.take k) : Nat))) 9 (by kernel_rfl) ?_
        have hSd := show (fun W => (W.cell? ⟨xb, 3, none⟩ = some (.slice (some ⟨kB, 0, none⟩) ks.length kc) ∧ W.cell? ⟨kB, k, none⟩ = some (.int .i64 z)) ∧ W.cell? ⟨gb, 1, none⟩ = some (.int .i64 (mtOf (ks.take k) : Nat))) w3.drew from ⟨SE.out _ (Kp.drew _), y1⟩
        refine takeX (v := ?v40) 0 rfl (by kernel_rfl) (by kernel_rfl) (by kernel_rfl) (by kernel_rfl) (fun _ _ _ h => h) hSd (by rfl) ?hy40 ?r40
        case hy40 => (intro w hSw; (try dsimp only at hSw); go_simp) <;> with_reducible rfl
        try simp only [Act.put, List.setIfInBounds_toArray, List.set_cons_zero, List.set_cons_succ]
        refine takeX (v := ?v41) 1 rfl (by kernel_rfl) (by kernel_rfl) (by kernel_rfl) (by kernel_rfl) (fun _ _ _ h => h) hSd (by rfl) ?hy41 ?r41
        case hy41 => (intro w hSw; (try dsimp only at hSw); go_simp) <;> with_reducible rfl
        try simp only [Act.put, List.setIfInBounds_toArray, List.set_cons_zero, List.set_cons_succ]
        refine takeX (v := ?v42) 2 rfl (by kernel_rfl) (by kernel_rfl) (by kernel_rfl) (by kernel_rfl) (fun _ _ _ h => h) hSd (by rfl) ?hy42 ?r42
        case hy42 => (intro w hSw; (try dsimp only at hSw); go_simp) <;> with_reducible rfl
        try simp only [Act.put, List.setIfInBounds_toArray, List.set_cons_zero, List.set_cons_succ]
        refine takeX (v := ?v43) 3 rfl (by kernel_rfl) (by kernel_rfl) (by kernel_rfl) (by kernel_rfl) (fun _ _ _ h => h) hSd (by rfl) ?hy43 ?r43
        case hy43 => (intro w hSw; (try dsimp only at hSw); go_simp) <;> with_reducible rfl
        try simp only [Act.put, List.setIfInBounds_toArray, List.set_cons_zero, List.set_cons_succ]
        refine takeX (v := ?v44) 4 rfl (by kernel_rfl) (by kernel_rfl) (by kernel_rfl) (by kernel_rfl) (fun _ _ _ h => h) hSd (by rfl) ?hy44 ?r44
        case hy44 => (intro w hSw; (try dsimp only at hSw); go_simp) <;> with_reducible rfl
        try simp only [Act.put, List.setIfInBounds_toArray, List.set_cons_zero, List.set_cons_succ]
        refine takeX (v := ?v45) 5 rfl (by kernel_rfl) (by kernel_rfl) (by kernel_rfl) (by kernel_rfl) (fun _ _ _ h => h) hSd (by rfl) ?hy45 ?r45
        case hy45 => (intro w hSw; (try dsimp only at hSw); go_simp) <;> with_reducible rfl
        try simp only [Act.put, List.setIfInBounds_toArray, List.set_cons_zero, List.set_cons_succ]
        refine takeX (v := ?v46) 6 rfl (by kernel_rfl) (by kernel_rfl) (by kernel_rfl) (by kernel_rfl) (fun _ _ _ h => h) hSd (by rfl) ?hy46 ?r46
        case hy46 => (intro w hSw; (try dsimp only at hSw); go_simp) <;> with_reducible rfl
        try simp only [Act.put, List.setIfInBounds_toArray, List.set_cons_zero, List.set_cons_succ]
        refine oneX 7 (by kernel_rfl) rfl (fun K hK => ?_)
        go_simp
        refine hK.out _ _ (fun _ => hSd) ?_
        clear hK K
        try simp only [Act.put, List.setIfInBounds_toArray, List.set_cons_zero, List.set_cons_succ]
        refine oneX 8 (by kernel_rfl) rfl (fun K hK => ?_)
        go_simp
        refine hK.out _ _ (fun _ => hSd) ?_
        clear hK K
        try simp only [Act.put, List.setIfInBounds_toArray, List.set_cons_zero, List.set_cons_succ]
        refine oneX 9 (by kernel_rfl) rfl (fun K hK => ?_)
        go_simp
        refine hK.out _ _ (fun h => absurd rfl h) ?_
        refine wpAnyX_done (by kernel_rfl) ?_
        clear hK K hSd
        try simp only [Act.put, List.setIfInBounds_toArray, List.set_cons_zero, List.set_cons_succ]
      all_goals
        have ev : (if mtOf (ks.take k) < z then (z : Int) else (mtOf (ks.take k) : Int)) = ((mtOf (ks.take (k + 1)) : Nat) : Int) := by
          rw [HEM.out]; split <;> omega
        have EV := Lib.hid ev
        clear ev SE
        go_wp2_with fail
        refine ⟨⟨k + 1, .slice (some ⟨gg, 0, none⟩) (k + 1) cap, by simp, by omega, ?_⟩, by simp [intOf]; omega⟩
        simp only [EV.out]
        exact (FIN.out.setMt (.int .i64 (mtOf (ks.take (k + 1)) : Nat))).drew
    · have hkn' : ¬ (k : Int) < (ss.length : Int) := by omega
      have hke : k = ss.length := by omega
      subst hke
      have e1 : ks.take ss.length = ks := by rw [HSK.out, List.take_length]
      have e2 : (ss.zip ks).take ss.length = ss.zip ks := List.take_of_length_le (by simp; omega)
      rw [e1, e2] at hg
      have kww : Kp (fun _ => True) w wr := ⟨SO.trans (KW1.out.so) (kw.so), Nat.le_trans KW1.out.size kw.size, fun j hj _ => (kw.blk j (Nat.lt_of_lt_of_le hj KW1.out.size) (Nat.lt_of_lt_of_le hj KW1.out.size)).trans (KW1.out.blk j hj trivial)⟩
      have nl : NetL w wr ⟨xmt, sB, N.st.length, sc, aB, ss.length, ac, kB, ks.length, kc, eB, N.ed.length, ec, dB, N.de.length, dc⟩ N ss ks base gb := ⟨HM.out, kww, Nat.le_trans KW1.out.size LB.out.2.1, Nat.le_trans KW1.out.size LB.out.2.2⟩
      have bx := (BXW.out.kept (kw.blk xb BXW.out.lt BXW.out.lt)).cell
      have x0 := bx 0
      have x1 := bx 1
      have x2 := bx 2
      have x3 := bx 3
      have x4 := bx 4
      have x5 := bx 5
      simp at x0 x1 x2 x3 x4 x5
      have hbw : base ≤ wr.heap.size := Nat.le_trans LB.out.1 hg.fr.size
      have FL := Lib.hid (fill_any hg.rs nl hbw SM.out.t)
      have HG := Lib.hid hg
      have KWR := Lib.hid kww
      unfold NetV.val at FL
      clear hg kww nl bx kw e1 e2
      go_upto_region 9 with (first | (go_at_call 29; refine FL.out.mono ?_; rintro e w5 ⟨rfl, s2, s8, hgf⟩; have GF : Hid (GR wG base gb M D c0 w5 (.int .i64 (mtOf ks : Nat)) s2 s5 s8 N.st (ss.zip ks) N.ed) := Lib.hid ⟨hgf.rs, HG.out.fr.trans hgf.fr⟩; clear hgf))
      clear x0 x1 x2 x3 x4 x5 FL
      have lz : (ss.zip ks).length = ss.length := by have := HSK.out; simp; omega
      have o2 : w5.ownsRow base 162 3 s2 N.st.length (flS N.st) := GF.out.row (i := 2) (by simp [I3]) rfl
      have o5 : w5.ownsRow base 97 2 s5 (ss.zip ks).length (flR (ss.zip ks)) := GF.out.row (i := 5) (by simp [I3]) rfl
      have o8 : w5.ownsRow base 163 6 s8 N.ed.length (flE N.ed) := GF.out.row (i := 8) (by simp [I3]) rfl
      obtain ⟨gS, cS, rfl, _⟩ := own_form o2 (by have := HST.out; omega)
      obtain ⟨gR, cR, rfl, _⟩ := own_form o5 (by have := HS1.out; omega)
      obtain ⟨gE, cE, rfl, _⟩ := own_form o8 (by have := HED.out; omega)
      have hM := HMV.out
      have hD := HDV.out
      subst hM hD
      have kw5 := K1W.out _ _ _ _ _ _ _ _ GF.out
      have KW5 : Hid (Kp (fun _ => True) w w5) := Lib.hid ⟨SO.trans (KW1.out.so) (kw5.so), Nat.le_trans KW1.out.size kw5.size, fun j hj _ => (kw5.blk j (Nat.lt_of_lt_of_le hj KW1.out.size) (Nat.lt_of_lt_of_le hj KW1.out.size)).trans (KW1.out.blk j hj trivial)⟩
      have hb := GF.out.rs.blk
      have y0 := hb.cell 0
      have y1 := hb.cell 1
      have y2 := hb.cell 2
      have y3 := hb.cell 3
      have y4 := hb.cell 4
      have y5 : w5.cell? ⟨gb, 5, none⟩ = some (.slice (some ⟨gR, 0, none⟩) (ss.zip ks).length cR) := hb.cell 5
      have y6 := hb.cell 6
      have y7 := hb.cell 7
      have y8 := hb.cell 8
      have y9 := hb.cell 9
      have y10 := hb.cell 10
      simp [c3] at y0 y1 y2 y3 y4 y6 y7 y8 y9 y10
      have hm1 : m1 < wG.heap.size := BMM.out.lt
      have bm5 := BMM.out.kept (GF.out.fr.far m1 hm1 (by have := HM1.out; have := HGB.out; omega) (R0.out.far (by have := HBA.out; omega))).1
      have gm : GrM w5 N (ss.zip ks) gS cS gR cR m1 1 gE cE g1 cap1 := ⟨⟨RowAt.of o2, own_cap o2⟩, ⟨RowAt.of o5, own_cap o5⟩, ⟨fun i u hu => by rw [bm5.cell i]; simpa [flJ] using hu, Nat.le_refl _⟩, ⟨RowAt.of o8, own_cap o8⟩, ⟨by rw [← flN_serN]; exact (RowAt.of O1.out).upB kw5, own_cap O1.out, Nat.lt_of_lt_of_le (own_blk O1.out (k := g1) rfl).2.1 kw5.size, bm5.lt⟩⟩
      have SR := Lib.hid (ser_any gm SM.out (mtOf_lt 2147483648 (by omega) ks 0 (by omega) HKS.out))
      rw [lz] at SR
      rw [lz] at y5
      have HZ := HZZ
      clear o2 o5 o8 kw5 hb bm5 gm hm1
      go_wp2_with (first | (go_at_call 30; refine (HZ.out w6 g c ((KW5.out.trans K6.out)) RS6.out hc6).mono ?_; rintro e w7 hnt; have KW6 : Hid (Kp (fun _ => True) w w6) := Lib.hid (KW5.out.trans K6.out); have hp := NtRet.pre KW6.out hnt; obtain ⟨ab, tt, nr, nd, v, rfl, hn1, hn2, hn3, hn4⟩ := hp; have N1 := Lib.hid hn1; have N2 := Lib.hid hn2; have N3 := Lib.hid hn3; have N4 := Lib.hid hn4; clear hnt hn1 hn2 hn3 hn4) | (go_at_call 31; refine SR.out.mono ?_; rintro e w6 ⟨g, c, rfl, hr6, hc6, k6⟩; have RS6 := Lib.hid hr6; have K6 := Lib.hid k6; clear hr6 k6))
      go_ret
      exact ⟨ab, tt, nr, nd, v, rfl, N1.out, N2.out, N3.out, N4.out⟩
end Go.Proofs
end
section
namespace Go.Proofs
open Go.RowKit
open Pl
/-! ## the numbers are read -/
/-- The reader: what is left to read. -/
structure Rd (w : World) (db dg dc : Nat) (op : Value) (L rest : List Int) : Prop where
  pos : ∃ p : Nat, Blk w db 214 #[op, .slice (some ⟨dg, 0, none⟩) L.length dc, .int .i64 p] ∧ L.drop p = rest
  row : RowAt w dg (flI L)
  cap : L.length ≤ dc
  few : L.length ≤ 1000000
  ne : dg ≠ db
  rng : Rng L
theorem Rd.kept {w w' : World} {db dg dc : Nat} {op : Value} {L rest : List Int} (h : Rd w db dg dc op L rest) (k : Kp (fun j => j = db ∨ j = dg) w w') : Rd w' db dg dc op L rest where
  pos := by
    obtain ⟨p, h1, h2⟩ := h.pos
    exact ⟨p, h1.kept (k.blk _ h1.lt (.inl rfl)), h2⟩
  row := fun i u hu => by
    have h0 := h.row i u hu
    exact (World.cell?_of_block (k.blk dg (cell_lt h0) (.inr rfl))).trans h0
  cap := h.cap
  few := h.few
  ne := h.ne
  rng := h.rng

set_option maxRecDepth 100000 in
set_option maxHeartbeats 1000000 in
theorem rd_any {w : World} {db dg dc : Nat} {op : Value} {L rest : List Int} {x : Int} (h : Rd w db dg dc op L (x :: rest)) :
    Calls Tryz.prog 92 #[.pointer (some ⟨db, 0, none⟩)] w fun e w' => e = .returned (.int .i64 x) ∧ Rd w' db dg dc op L rest ∧ Kp (fun j => j ≠ db) w w' := by
  obtain ⟨p, hb, hp⟩ := h.pos
  have hpl : p < L.length := by
    apply Nat.lt_of_not_le
    intro hh
    rw [List.drop_of_length_le hh] at hp
    cases hp
  have hx : L[p]? = some x := by
    have := congrArg (fun l => l[0]?) hp
    simpa using this
  have hr : L.drop (p + 1) = rest := by
    have := congrArg (fun l => l.drop 1) hp
    simpa [List.drop_drop, Nat.add_comm] using this
  have c1 : w.cell? ⟨db, 1, none⟩ = some (.slice (some ⟨dg, 0, none⟩) L.length dc) := hb.cell 1
  have c2 : w.cell? ⟨db, 2, none⟩ = some (.int .i64 p) := hb.cell 2
  have f2 : w.frozen? ⟨db, 2, none⟩ = false := hb.free 2
  have e0 : w.cell? ⟨dg, p, none⟩ = some (.int .i32 x) := h.row p _ (by simp [flI, hx])
  have hpi : (p : Int) < (L.length : Int) := by omega
  have hpc : (p : Int) ≤ (dc : Int) := by have := h.cap; omega
  have hfew := h.few
  obtain ⟨hx0, hx1⟩ := h.rng x (List.mem_of_getElem? hx)
  have hw64 : wrap64 x = x := by unfold wrap64; omega
  have H := Lib.hid h
  have HB := Lib.hid hb
  have HR := Lib.hid hr
  clear h hb hr hp hx
  go_enter Tryz.func92, Tryz.ntmps92
  go_wp2_with fail
  go_region
  go_wp2_with fail
  go_ret
  have hb' := HB.out.set 2 (.int .i64 ((p : Int) + 1)) _ rfl
  have hk : Kp (fun j => j ≠ db) w (w.setCell ⟨db, 2, none⟩ (.int .i64 ((p : Int) + 1))).drew := ⟨⟨rfl, rfl⟩, by simp, fun j hj hne => heap_setCell_other w ⟨db, 2, none⟩ j _ hne⟩
  refine ⟨rfl, ⟨⟨p + 1, ?_, HR.out⟩, ?_, H.out.cap, H.out.few, H.out.ne, H.out.rng⟩, hk⟩
  · have h2 : Blk (w.setCell ⟨db, 2, none⟩ (.int .i64 ((p : Int) + 1))) db 214 #[op, .slice (some ⟨dg, 0, none⟩) L.length dc, .int .i64 ((p + 1 : Nat) : Int)] := by simpa using hb'
    exact h2
  · exact fun i u hu => by
      have h0 := H.out.row i u hu
      exact (World.cell?_of_block (hk.blk dg (cell_lt h0) H.out.ne)).trans h0
end Go.Proofs
end
section
namespace Go.Proofs
open Go.RowKit
open Pl
/-! ## a heap by names -/
inductive Tg
  | no | des
  | bl (i : Nat)
  | row (i : Nat)
structure NmB where
  «at» : Nat
  ty : TypeId
  c : Array Value
structure NmR where
  e : TypeId
  sz : Nat
  v : Value
  n : Nat
  xs : List Value
structure DG where
  tg : Nat → Tg
  bl : Nat → Option NmB
  rw : Nat → Option NmR
/-- What stands fast while a network is read. -/
structure DK where
  base : Nat
  w0 : World
  db : Nat
  dg : Nat
  dc : Nat
  op : Value
  L : List Int
structure DM (k : DK) (g : DG) (w : World) (rest : List Int) : Prop where
  lo : ∀ j, g.tg j ≠ .no → k.base ≤ j ∧ j < w.heap.size
  bl : ∀ i b, g.bl i = some b → Blk w b.at b.ty b.c ∧ g.tg b.at = .bl i
  rw : ∀ i r, g.rw i = some r → w.ownsRow k.base r.e r.sz r.v r.n r.xs ∧ ∀ j, r.v.ownBlock = some j → g.tg j = .row i
  kp : Kp (fun j => j < k.base) k.w0 w
  rd : Rd w k.db k.dg k.dc k.op k.L rest
  ds : g.tg k.db = .des
  dg : k.dg < k.base
  bs : k.base ≤ w.heap.size
def upO {α : Type} (f : Nat → Option α) (i : Nat) (x : α) : Nat → Option α := fun j => if j = i then some x else f j
def upT (f : Nat → Tg) (i : Nat) (x : Tg) : Nat → Tg := fun j => if j = i then x else f j
@[simp] theorem upO_self {α : Type} (f : Nat → Option α) (i : Nat) (x : α) : upO f i x i = some x := by simp [upO]
theorem upO_ne {α : Type} (f : Nat → Option α) {i j : Nat} (x : α) (h : j ≠ i) : upO f i x j = f j := by simp [upO, h]
def DG.setB (g : DG) (i : Nat) (b : NmB) : DG := { g with bl := upO g.bl i b }
def DG.setR (g : DG) (i : Nat) (r : NmR) : DG := { g with rw := upO g.rw i r }
def DG.tag (g : DG) (j : Nat) (t : Tg) : DG := { g with tg := upT g.tg j t }
@[simp] theorem DG.setB_bl (g : DG) (i : Nat) (b : NmB) : (g.setB i b).bl = upO g.bl i b := rfl
@[simp] theorem DG.setB_rw (g : DG) (i : Nat) (b : NmB) : (g.setB i b).rw = g.rw := rfl
@[simp] theorem DG.setB_tg (g : DG) (i : Nat) (b : NmB) : (g.setB i b).tg = g.tg := rfl
@[simp] theorem DG.setR_bl (g : DG) (i : Nat) (b : NmR) : (g.setR i b).bl = g.bl := rfl
@[simp] theorem DG.setR_rw (g : DG) (i : Nat) (b : NmR) : (g.setR i b).rw = upO g.rw i b := rfl
@[simp] theorem DG.setR_tg (g : DG) (i : Nat) (b : NmR) : (g.setR i b).tg = g.tg := rfl
@[simp] theorem DG.tag_bl (g : DG) (i : Nat) (b : Tg) : (g.tag i b).bl = g.bl := rfl
@[simp] theorem DG.tag_rw (g : DG) (i : Nat) (b : Tg) : (g.tag i b).rw = g.rw := rfl
@[simp] theorem DG.tag_tg (g : DG) (i : Nat) (b : Tg) : (g.tag i b).tg = upT g.tg i b := rfl

/-- What is kept under a change of what is named otherwise. -/
theorem DM.keep {k : DK} {g : DG} {w w' : World} {rest : List Int} (h : DM k g w rest) (kk : Kp (fun j => j < k.base ∨ g.tg j ≠ .no) w w') : DM k g w' rest where
  lo := fun j hj => ⟨(h.lo j hj).1, Nat.lt_of_lt_of_le (h.lo j hj).2 kk.size⟩
  bl := fun i b hb => by
    obtain ⟨h1, h2⟩ := h.bl i b hb
    exact ⟨h1.kept (kk.blk _ h1.lt (.inr (by rw [h2]; nofun))), h2⟩
  rw := fun i r hr => by
    obtain ⟨h1, h2⟩ := h.rw i r hr
    exact ⟨own_kept' h1 (fun j hj => kk.blk j (own_blk h1 hj).2.1 (.inr (by rw [h2 j hj]; nofun))), h2⟩
  kp := h.kp.trans (kk.weak (fun _ hj => .inl hj))
  rd := h.rd.kept (kk.weak (fun j hj => by
    rcases hj with rfl | rfl
    · exact .inr (by rw [h.ds]; nofun)
    · exact .inl h.dg))
  ds := h.ds
  dg := h.dg
  bs := Nat.le_trans h.bs kk.size
theorem DM.drewN {k : DK} {g : DG} {w : World} {rest : List Int} (h : DM k g w rest) (n : Nat) : DM k g (w.drewN n) rest := h.keep (Kp.drewN _ _)
theorem DM.drew {k : DK} {g : DG} {w : World} {rest : List Int} (h : DM k g w rest) : DM k g w.drew rest := h.keep (Kp.drew _)
theorem DM.alloc {k : DK} {g : DG} {w : World} {rest : List Int} (h : DM k g w rest) (o : Obj) : DM k g (w.alloc o) rest := h.keep (Kp.alloc _ _)

/-- A number is read. -/
theorem rdd_any {k : DK} {g : DG} {w : World} {x : Int} {rest : List Int} (h : DM k g w (x :: rest)) :
    Calls Tryz.prog 92 #[.pointer (some ⟨k.db, 0, none⟩)] w fun e w' => e = .returned (.int .i64 x) ∧ DM k g w' rest := by
  refine (rd_any h.rd).mono ?_
  rintro e w' ⟨he, hr, kk⟩
  have hbd : k.base ≤ k.db := (h.lo k.db (by rw [h.ds]; nofun)).1
  refine ⟨he, ?_, ?_, ?_, ?_, hr, h.ds, h.dg, Nat.le_trans h.bs kk.size⟩
  · exact fun j hj => ⟨(h.lo j hj).1, Nat.lt_of_lt_of_le (h.lo j hj).2 kk.size⟩
  · intro i b hb
    obtain ⟨h1, h2⟩ := h.bl i b hb
    exact ⟨h1.kept (kk.blk _ h1.lt (fun e => by rw [e, h.ds] at h2; cases h2)), h2⟩
  · intro i r hr'
    obtain ⟨h1, h2⟩ := h.rw i r hr'
    exact ⟨own_kept' h1 (fun j hj => kk.blk j (own_blk h1 hj).2.1 (fun e => by have := h2 j hj; rw [e, h.ds] at this; cases this)), h2⟩
  · exact h.kp.trans (kk.weak (fun j hj e => by have hj' : j < k.base := hj; omega))

theorem DM.nos {k : DK} {g : DG} {w : World} {rest : List Int} (h : DM k g w rest) {j : Nat} (hj : w.heap.size ≤ j) : g.tg j = .no := by
  apply Classical.byContradiction
  intro hh
  have := (h.lo j hh).2
  omega
/-- A cell of a named block is set. -/
theorem DM.set {k : DK} {g : DG} {w : World} {rest : List Int} (h : DM k g w rest) {i : Nat} {b : NmB} (hb : g.bl i = some b) (j : Nat) (v : Value) :
    DM k (g.setB i { b with c := b.c.setIfInBounds j v }) (w.setCell ⟨b.at, j, none⟩ v) rest := by
  obtain ⟨b1, b2⟩ := h.bl i b hb
  have hbb : k.base ≤ b.at := (h.lo b.at (by rw [b2]; nofun)).1
  have kk : Kp (fun j => j ≠ b.at) w (w.setCell ⟨b.at, j, none⟩ v) := ⟨⟨rfl, rfl⟩, by simp, fun q _ hq => heap_setCell_other _ _ _ _ hq⟩
  refine ⟨fun q hq => ⟨(h.lo q hq).1, by simpa using (h.lo q hq).2⟩, ?_, ?_, h.kp.trans (kk.weak (fun q hq e => by have hq' : q < k.base := hq; omega)), h.rd.kept (kk.weak ?_), h.ds, h.dg, by simpa using h.bs⟩
  · intro i' c hc
    simp only [DG.setB_bl, DG.setB_tg] at hc ⊢
    by_cases e : i' = i
    · subst e
      rw [upO_self] at hc
      cases hc
      exact ⟨b1.set j v _ rfl, b2⟩
    · rw [upO_ne _ _ e] at hc
      obtain ⟨h1, h2⟩ := h.bl i' c hc
      exact ⟨h1.kept (kk.blk _ h1.lt (fun e2 => by rw [e2, b2] at h2; cases h2; exact e rfl)), h2⟩
  · intro i' r hr
    obtain ⟨h1, h2⟩ := h.rw i' r hr
    exact ⟨own_kept' h1 (fun q hq => kk.blk q (own_blk h1 hq).2.1 (fun e => by have := h2 q hq; rw [e, b2] at this; cases this)), h2⟩
  · rintro q (rfl | rfl) e
    · rw [← e, h.ds] at b2; cases b2
    · have := h.dg; omega
/-- A cell of a named row is set. -/
theorem DM.rset {k : DK} {g : DG} {w : World} {rest : List Int} (h : DM k g w rest) {i : Nat} {r : NmR} (hr : g.rw i = some r) {q cap : Nat} (hv : r.v = .slice (some ⟨q, 0, none⟩) r.n cap) {j : Nat} (hj : j < r.n * r.sz) (u : Value) :
    DM k (g.setR i { r with xs := r.xs.set j u }) (w.setCell ⟨q, j, none⟩ u) rest := by
  obtain ⟨b1, b2⟩ := h.rw i r hr
  have hq2 := b2 q (by rw [hv]; rfl)
  have hbb : k.base ≤ q := (h.lo q (by rw [hq2]; nofun)).1
  have kk : Kp (fun j => j ≠ q) w (w.setCell ⟨q, j, none⟩ u) := ⟨⟨rfl, rfl⟩, by simp, fun q _ hq => heap_setCell_other _ _ _ _ hq⟩
  refine ⟨fun q hq => ⟨(h.lo q hq).1, by simpa using (h.lo q hq).2⟩, ?_, ?_, h.kp.trans (kk.weak (fun q hq e => by have hq' : q < k.base := hq; omega)), h.rd.kept (kk.weak ?_), h.ds, h.dg, by simpa using h.bs⟩
  · intro i' c hc
    obtain ⟨h1, h2⟩ := h.bl i' c hc
    exact ⟨h1.kept (kk.blk _ h1.lt (fun e2 => by rw [e2, hq2] at h2; cases h2)), h2⟩
  · intro i' c hc
    simp only [DG.setR_rw, DG.setR_tg] at hc ⊢
    by_cases e : i' = i
    · subst e
      rw [upO_self] at hc
      cases hc
      simp only
      rw [hv] at b1 b2 ⊢
      exact ⟨own_set b1 hj, b2⟩
    · rw [upO_ne _ _ e] at hc
      obtain ⟨h1, h2⟩ := h.rw i' c hc
      exact ⟨own_kept' h1 (fun x hx => kk.blk x (own_blk h1 hx).2.1 (fun e2 => by have := h2 x hx; rw [e2, hq2] at this; cases this; exact e rfl)), h2⟩
  · rintro x (rfl | rfl) e
    · rw [← e, h.ds] at hq2; cases hq2
    · have := h.dg; omega
theorem upT_ext {k : DK} {g : DG} {w : World} {rest : List Int} (h : DM k g w rest) {q : Nat} (hq : w.heap.size ≤ q) (t : Tg) (j : Nat) (hj : g.tg j ≠ .no) : upT g.tg q t j = g.tg j := by
  unfold upT
  rw [if_neg]
  rintro rfl
  exact hj (h.nos hq)
/-- A fresh block is named. -/
theorem DM.newB {k : DK} {g : DG} {w : World} {rest : List Int} (h : DM k g w rest) (i : Nat) (T : TypeId) (c : Array Value) :
    DM k ((g.tag w.heap.size (.bl i)).setB i ⟨w.heap.size, T, c⟩) (w.alloc (.cells c T)) rest := by
  have hx := upT_ext h (Nat.le_refl _) (.bl i)
  have ha := h.alloc (.cells c T)
  refine ⟨fun j hj => ?_, ?_, ?_, ha.kp, ha.rd, ?_, h.dg, ha.bs⟩
  · simp only [DG.setB_tg, DG.tag_tg] at hj
    by_cases e : j = w.heap.size
    · subst e
      exact ⟨h.bs, by simp⟩
    · refine ⟨(ha.lo j ?_).1, (ha.lo j ?_).2⟩ <;> simpa [upT, e] using hj
  · intro i' b hb
    simp only [DG.setB_bl, DG.setB_tg, DG.tag_tg, DG.tag_bl] at hb ⊢
    by_cases e : i' = i
    · subst e
      rw [upO_self] at hb
      cases hb
      exact ⟨Blk.new w T c, by simp [upT]⟩
    · rw [upO_ne _ _ e] at hb
      obtain ⟨h1, h2⟩ := ha.bl i' b hb
      exact ⟨h1, by rw [hx _ (by rw [h2]; nofun), h2]⟩
  · intro i' r hr
    obtain ⟨h1, h2⟩ := ha.rw i' r hr
    exact ⟨h1, fun j hj => by
      have := h2 j hj
      show upT g.tg _ _ j = _
      rw [hx _ (by rw [this]; nofun), this]⟩
  · show upT g.tg _ _ k.db = _
    rw [hx _ (by rw [h.ds]; nofun), h.ds]
/-- A row takes a new value: it was made, or appended to. -/
theorem DM.putR {k : DK} {g : DG} {w w1 : World} {rest : List Int} (h : DM k g w rest) {i : Nat} {e : TypeId} {sz n gg cap : Nat} {xs : List Value} {v : Option Nat}
    (own1 : w1.ownsRow k.base e sz (.slice (some ⟨gg, 0, none⟩) n cap) n xs) (k1 : Kp (fun j => some j ≠ v) w w1) (hv : ∀ j, v = some j → g.tg j = .row i) (hat : v = some gg ∨ w.heap.size ≤ gg) :
    DM k ((g.tag gg (.row i)).setR i ⟨e, sz, .slice (some ⟨gg, 0, none⟩) n cap, n, xs⟩) w1 rest := by
  have hx : ∀ j, g.tg j ≠ .no → upT g.tg gg (.row i) j = g.tg j := by
    intro j hj
    rcases hat with hat | hat
    · unfold upT
      by_cases ej : j = gg
      · rw [if_pos ej, ej, hv gg hat]
      · rw [if_neg ej]
    · exact upT_ext h hat (.row i) j hj
  have hgg := own_blk own1 (show (Value.slice (some ⟨gg, 0, none⟩) n cap).ownBlock = some gg from rfl)
  have hvb : ∀ j, v = some j → k.base ≤ j := fun j hj => (h.lo j (by rw [hv j hj]; nofun)).1
  refine ⟨fun j hj => ?_, ?_, ?_, h.kp.trans (k1.weak (fun j hj ej => by have := hvb j ej.symm; have hj' : j < k.base := hj; omega)), h.rd.kept (k1.weak ?_), ?_, h.dg, Nat.le_trans h.bs k1.size⟩
  · simp only [DG.setR_tg, DG.tag_tg] at hj
    by_cases ej : j = gg
    · subst ej
      exact ⟨hgg.1, hgg.2.1⟩
    · have : g.tg j ≠ .no := by simpa [upT, ej] using hj
      exact ⟨(h.lo j this).1, Nat.lt_of_lt_of_le (h.lo j this).2 k1.size⟩
  · intro i' b hb
    obtain ⟨h1, h2⟩ := h.bl i' b hb
    refine ⟨h1.kept (k1.blk _ h1.lt (fun ej => ?_)), ?_⟩
    · rw [hv _ ej.symm] at h2; cases h2
    · show upT g.tg _ _ b.at = _
      rw [hx _ (by rw [h2]; nofun), h2]
  · intro i' r hr
    simp only [DG.setR_rw, DG.tag_rw, DG.setR_tg, DG.tag_tg] at hr ⊢
    by_cases ei : i' = i
    · subst ei
      rw [upO_self] at hr
      cases hr
      refine ⟨own1, fun j hj => ?_⟩
      cases hj
      simp [upT]
    · rw [upO_ne _ _ ei] at hr
      obtain ⟨h1, h2⟩ := h.rw i' r hr
      refine ⟨own_kept' h1 (fun j hj => k1.blk j (own_blk h1 hj).2.1 (fun ej => ?_)), fun j hj => ?_⟩
      · have := h2 j hj
        rw [hv j ej.symm] at this; cases this; exact ei rfl
      · have := h2 j hj
        rw [hx _ (by rw [this]; nofun), this]
  · rintro j (rfl | rfl) ej
    · have := hv _ ej.symm
      rw [h.ds] at this; cases this
    · have := hvb _ ej.symm
      have := h.dg
      omega
  · show upT g.tg _ _ k.db = _
    rw [hx _ (by rw [h.ds]; nofun), h.ds]
/-- A row of a name, empty, without a block. -/
theorem DM.nilR {k : DK} {g : DG} {w : World} {rest : List Int} (h : DM k g w rest) (i : Nat) (e : TypeId) (sz : Nat) : DM k (g.setR i ⟨e, sz, .slice none 0 0, 0, []⟩) w rest where
  lo := h.lo
  bl := h.bl
  rw := fun i' r hr => by
    simp only [DG.setR_rw, DG.setR_tg] at hr ⊢
    by_cases ei : i' = i
    · subst ei
      rw [upO_self] at hr
      cases hr
      exact ⟨⟨by simp, .inl ⟨rfl, rfl⟩⟩, fun j hj => by cases hj⟩
    · rw [upO_ne _ _ ei] at hr
      exact h.rw i' r hr
  kp := h.kp
  rd := h.rd
  ds := h.ds
  dg := h.dg
  bs := h.bs
end Go.Proofs
end
