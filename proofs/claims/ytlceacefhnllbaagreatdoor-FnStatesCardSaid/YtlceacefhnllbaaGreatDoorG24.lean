/- A part of the proof of the statement on the law FnStates, which the last text proves: part G24. -/
import Derived.Test.YtlceacefhnllbaaGreatDoorG23
set_option linter.all false
section
namespace Go.Proofs
open Go.RowKit
open Pl
/-! ## the grammar is filled -/
def ty3 : Nat → TypeId | 2 => 162 | 5 => 97 | _ => 163
def sz3 : Nat → Nat | 2 => 3 | 5 => 2 | _ => 6
def I3 : Nat → Prop := fun i => i = 2 ∨ i = 5 ∨ i = 8
def g3 (l : List LS) (rs : List (Nat × Nat)) (m : List LE) : Nat → Nat × List Value | 2 => (l.length, flS l) | 5 => (rs.length, flR rs) | _ => (m.length, flE m)
def c3 (mt s2 s5 M s8 D : Value) : Array Value := #[.bool true, mt, s2, .slice none 0 0, .slice none 0 0, s5, M, .slice none 0 0, s8, D, .slice none 0 0]
theorem info162 : (Tryz.prog.info? 162).map (fun i => (i.zero, i.size, i.bytes)) = some (some (.agg #[.int .i64 0, .int .i64 0, .int .i64 0]), 3, 24) := by kernel_rfl
theorem info163 : (Tryz.prog.info? 163).map (fun i => (i.zero, i.size, i.bytes)) = some (some (.agg #[.int .i64 0, .int .i64 0, .int .i64 0, .int .i64 0, .int .i64 0, .int .i64 0]), 6, 48) := by kernel_rfl
theorem info97 : (Tryz.prog.info? 97).map (fun i => (i.zero, i.size, i.bytes)) = some (some (.agg #[.int .i64 0, .int .i64 0]), 2, 16) := by kernel_rfl
theorem RowAt.fr {ty : Nat → TypeId} {sz : Nat → Nat} {I : Nat → Prop} {base gb g : Nat} {T : TypeId} {c c' : Array Value} {G : Nat → Nat × List Value} {wS w wr : World} {xs : List Value} (h : RowAt wS g xs) (k : Kp (fun _ => True) wS w) (hr : RS ty sz I base w gb T c G) (hb : wS.heap.size ≤ base) (hg : wS.heap.size ≤ gb) (f : BFr I w gb c wr c') : RowAt wr g xs := fun i u hu => by
  have h0 := h i u hu
  have h1 := cell_lt h0
  have h2 := (World.cell?_of_block (k.blk g h1 trivial)).trans h0
  exact (World.cell?_of_block (f.far g (Nat.lt_of_lt_of_le h1 k.size) (by omega) (hr.far (by omega))).1).trans h2
/-- The grammar under construction. -/
structure GR (w0 : World) (base gb : Nat) (M D : Value) (c0 : Array Value) (w : World) (mt s2 s5 s8 : Value) (l : List LS) (rs : List (Nat × Nat)) (m : List LE) : Prop where
  rs : RS ty3 sz3 I3 base w gb 95 (c3 mt s2 s5 M s8 D) (g3 l rs m)
  fr : BFr I3 w0 gb c0 w (c3 mt s2 s5 M s8 D)
theorem GR.alloc {w0 w : World} {base gb : Nat} {M D mt s2 s5 s8 : Value} {c0 : Array Value} {l : List LS} {rs : List (Nat × Nat)} {m : List LE} (h : GR w0 base gb M D c0 w mt s2 s5 s8 l rs m) (o : Obj) : GR w0 base gb M D c0 (w.alloc o) mt s2 s5 s8 l rs m :=
  ⟨h.rs.kept (Kp.alloc _ _), h.fr.trans ⟨⟨rfl, rfl⟩, by simp, fun j hj _ ho => ⟨(Kp.alloc (P := fun _ => True) w o).blk j hj trivial, ho⟩⟩⟩
theorem GR.put2 {w0 w w1 : World} {base gb gg cap n : Nat} {M D mt s2 s5 s8 : Value} {c0 : Array Value} {l : List LS} {rs : List (Nat × Nat)} {m : List LE} {x : LS} (h : GR w0 base gb M D c0 w mt s2 s5 s8 l rs m) (hn : l.length = n) (own1 : w1.ownsRow base 162 3 (.slice (some ⟨gg, 0, none⟩) (n + 1) cap) (n + 1) (flS l ++ stC x)) (k1 : Kp (fun k => some k ≠ s2.ownBlock) w w1) (hat : s2.ownBlock = some gg ∨ w.heap.size ≤ gg) :
    GR w0 base gb M D c0 (w1.setCell ⟨gb, 2, none⟩ (.slice (some ⟨gg, 0, none⟩) (n + 1) cap)) mt (.slice (some ⟨gg, 0, none⟩) (n + 1) cap) s5 s8 (l ++ [x]) rs m := by
  subst hn
  obtain ⟨p1, p2⟩ := h.rs.put (i := 2) (by simp [I3]) (v := s2) rfl own1 k1 hat
  exact ⟨p1.congr rfl (fun i hi => by rcases hi with rfl | rfl | rfl <;> simp [updG, g3, flS]), h.fr.trans p2⟩
theorem GR.put5 {w0 w w1 : World} {base gb gg cap n : Nat} {M D mt s2 s5 s8 : Value} {c0 : Array Value} {l : List LS} {rs : List (Nat × Nat)} {m : List LE} {x : Nat × Nat} (h : GR w0 base gb M D c0 w mt s2 s5 s8 l rs m) (hn : rs.length = n) (own1 : w1.ownsRow base 97 2 (.slice (some ⟨gg, 0, none⟩) (n + 1) cap) (n + 1) (flR rs ++ ruC x)) (k1 : Kp (fun k => some k ≠ s5.ownBlock) w w1) (hat : s5.ownBlock = some gg ∨ w.heap.size ≤ gg) :
    GR w0 base gb M D c0 (w1.setCell ⟨gb, 5, none⟩ (.slice (some ⟨gg, 0, none⟩) (n + 1) cap)) mt s2 (.slice (some ⟨gg, 0, none⟩) (n + 1) cap) s8 l (rs ++ [x]) m := by
  subst hn
  obtain ⟨p1, p2⟩ := h.rs.put (i := 5) (by simp [I3]) (v := s5) rfl own1 k1 hat
  exact ⟨p1.congr rfl (fun i hi => by rcases hi with rfl | rfl | rfl <;> simp [updG, g3, flR]), h.fr.trans p2⟩
theorem GR.put8 {w0 w w1 : World} {base gb gg cap n : Nat} {M D mt s2 s5 s8 : Value} {c0 : Array Value} {l : List LS} {rs : List (Nat × Nat)} {m : List LE} {x : LE} (h : GR w0 base gb M D c0 w mt s2 s5 s8 l rs m) (hn : m.length = n) (own1 : w1.ownsRow base 163 6 (.slice (some ⟨gg, 0, none⟩) (n + 1) cap) (n + 1) (flE m ++ edC x)) (k1 : Kp (fun k => some k ≠ s8.ownBlock) w w1) (hat : s8.ownBlock = some gg ∨ w.heap.size ≤ gg) :
    GR w0 base gb M D c0 (w1.setCell ⟨gb, 8, none⟩ (.slice (some ⟨gg, 0, none⟩) (n + 1) cap)) mt s2 s5 (.slice (some ⟨gg, 0, none⟩) (n + 1) cap) l rs (m ++ [x]) := by
  subst hn
  obtain ⟨p1, p2⟩ := h.rs.put (i := 8) (by simp [I3]) (v := s8) rfl own1 k1 hat
  exact ⟨p1.congr rfl (fun i hi => by rcases hi with rfl | rfl | rfl <;> simp [updG, g3, flE]), h.fr.trans p2⟩
theorem GR.far {w0 w w1 : World} {base gb i : Nat} {M D mt s2 s5 s8 v : Value} {c0 : Array Value} {l : List LS} {rs : List (Nat × Nat)} {m : List LE} (h : GR w0 base gb M D c0 w mt s2 s5 s8 l rs m) (hi : I3 i) (hv : (c3 mt s2 s5 M s8 D)[i]? = some v) (k1 : Kp (fun k => some k ≠ v.ownBlock) w w1) : Blk w1 gb 95 (c3 mt s2 s5 M s8 D) :=
  h.rs.blk.kept (k1.blk gb h.rs.blk.lt (fun e => h.rs.nb ⟨i, v, hi, hv, e.symm⟩))
theorem GR.row {w0 w : World} {base gb i : Nat} {M D mt s2 s5 s8 v : Value} {c0 : Array Value} {l : List LS} {rs : List (Nat × Nat)} {m : List LE} (h : GR w0 base gb M D c0 w mt s2 s5 s8 l rs m) (hi : I3 i) (hv : (c3 mt s2 s5 M s8 D)[i]? = some v) : w.ownsRow base (ty3 i) (sz3 i) v (g3 l rs m i).1 (g3 l rs m i).2 := by
  obtain ⟨u, hu, ho⟩ := h.rs.row i hi
  rw [hv] at hu; cases hu; exact ho
/-- The parts of a network that are read. -/
structure NetL (wS w : World) (x : NetV) (N : Bd) (ss ks : List Nat) (base gb : Nat) : Prop where
  m : NetM wS x N ss ks
  k : Kp (fun _ => True) wS w
  b : wS.heap.size ≤ base
  g : wS.heap.size ≤ gb

set_option maxRecDepth 100000 in
set_option maxHeartbeats 8000000 in
theorem fill_any {wS w : World} {x : NetV} {N : Bd} {ss ks : List Nat} {base gb : Nat} {M D mt s5 : Value} {rs : List (Nat × Nat)} (r : RS ty3 sz3 I3 base w gb 95 (c3 mt (.slice none 0 0) s5 M (.slice none 0 0) D) (g3 [] rs [])) (nl : NetL wS w x N ss ks base gb) (hb : base ≤ w.heap.size) (ht : tot N ≤ 1000) :
    Calls Tryz.prog 29 #[.pointer (some ⟨gb, 0, none⟩), x.val] w fun e w' => e = .returned (.tuple #[]) ∧ ∃ s2 s8, GR w base gb M D (c3 mt (.slice none 0 0) s5 M (.slice none 0 0) D) w' mt s2 s5 s8 N.st rs N.ed := by
  obtain ⟨xmt, sB, sn, sc, aB, an, ac, kB, kn, kc, eB, en, ec, dB, dn, dc⟩ := x
  have hsn : sn = N.st.length := nl.m.s.2.1
  have hen : en = N.ed.length := nl.m.e.2.1
  subst hsn hen
  unfold NetV.val
  have htS : N.st.length ≤ 1000 := by unfold tot at ht; omega
  have htE : N.ed.length ≤ 1000 := by unfold tot at ht; omega
  have r1 := r.kept (Kp.alloc w (.cells #[.int .i64 xmt, .slice (some ⟨sB, 0, none⟩) N.st.length sc, .slice (some ⟨aB, 0, none⟩) an ac, .slice (some ⟨kB, 0, none⟩) kn kc, .slice (some ⟨eB, 0, none⟩) N.ed.length ec, .slice (some ⟨dB, 0, none⟩) dn dc] 32))
  have nl1 : NetL wS (w.alloc (.cells #[.int .i64 xmt, .slice (some ⟨sB, 0, none⟩) N.st.length sc, .slice (some ⟨aB, 0, none⟩) an ac, .slice (some ⟨kB, 0, none⟩) kn kc, .slice (some ⟨eB, 0, none⟩) N.ed.length ec, .slice (some ⟨dB, 0, none⟩) dn dc] 32)) ⟨xmt, sB, N.st.length, sc, aB, an, ac, kB, kn, kc, eB, N.ed.length, ec, dB, dn, dc⟩ N ss ks base gb := ⟨nl.m, nl.k.trans (Kp.alloc _ _), nl.b, nl.g⟩
  have hb1 : base ≤ (w.alloc (.cells #[.int .i64 xmt, .slice (some ⟨sB, 0, none⟩) N.st.length sc, .slice (some ⟨aB, 0, none⟩) an ac, .slice (some ⟨kB, 0, none⟩) kn kc, .slice (some ⟨eB, 0, none⟩) N.ed.length ec, .slice (some ⟨dB, 0, none⟩) dn dc] 32)).heap.size := Nat.le_trans hb (by simp)
  have bX := Blk.new w 32 #[.int .i64 xmt, .slice (some ⟨sB, 0, none⟩) N.st.length sc, .slice (some ⟨aB, 0, none⟩) an ac, .slice (some ⟨kB, 0, none⟩) kn kc, .slice (some ⟨eB, 0, none⟩) N.ed.length ec, .slice (some ⟨dB, 0, none⟩) dn dc]
  have kA : Kp (fun _ => True) w (w.alloc (.cells #[.int .i64 xmt, .slice (some ⟨sB, 0, none⟩) N.st.length sc, .slice (some ⟨aB, 0, none⟩) an ac, .slice (some ⟨kB, 0, none⟩) kn kc, .slice (some ⟨eB, 0, none⟩) N.ed.length ec, .slice (some ⟨dB, 0, none⟩) dn dc] 32)) := Kp.alloc _ _
  have hnO := r.new (Nat.le_refl w.heap.size)
  have hnE : w.heap.size ≠ gb := Nat.ne_of_gt r.blk.lt
  clear nl r ht hb
  go_enter Tryz.func29, Tryz.ntmps29
  go_upto_region 1 with fail
  obtain ⟨xb, hxb⟩ : ∃ xb, xb = w.heap.size := ⟨_, rfl⟩
  rw [← hxb] at bX hnO hnE ⊢
  generalize w.alloc (.cells #[.int .i64 xmt, .slice (some ⟨sB, 0, none⟩) N.st.length sc, .slice (some ⟨aB, 0, none⟩) an ac, .slice (some ⟨kB, 0, none⟩) kn kc, .slice (some ⟨eB, 0, none⟩) N.ed.length ec, .slice (some ⟨dB, 0, none⟩) dn dc] 32) = wA at bX r1 nl1 hb1 kA ⊢
  obtain ⟨c0, hc0⟩ : ∃ c0, c0 = c3 mt (.slice none 0 0) s5 M (.slice none 0 0) D := ⟨_, rfl⟩
  have g1 : GR wA base gb M D c0 wA mt (.slice none 0 0) s5 (.slice none 0 0) [] rs [] := ⟨r1, by rw [hc0]; exact BFr.refl⟩
  rw [← hc0] at r1 hnO
  have HC0 := Lib.hid hc0
  have R0 := Lib.hid r1
  have NL := Lib.hid nl1
  have LBW : Hid (base ≤ wA.heap.size) := Lib.hid hb1
  have KA := Lib.hid kA
  have XB : Hid (∀ W c, BFr I3 wA gb c0 W c → W.cell? ⟨xb, 1, none⟩ = some (.slice (some ⟨sB, 0, none⟩) N.st.length sc) ∧ W.cell? ⟨xb, 4, none⟩ = some (.slice (some ⟨eB, 0, none⟩) N.ed.length ec)) := Lib.hid (fun W c f => by
    have b := (bX.kept (f.far xb bX.lt hnE hnO).1).cell
    exact ⟨b 1, b 4⟩)
  have G1 := Lib.hid g1
  obtain ⟨d1, d4⟩ := XB.out wA _ BFr.refl
  clear g1 r1 nl1 hb1 bX hnO hnE hxb hc0 kA
  go_wp2_with fail
  clear d1 d4
  go_loopw [11] (fun t11 wr => ∃ (k : Nat) (s2 : Value), t11 = .int .i64 k ∧ k ≤ N.st.length ∧ GR wA base gb M D c0 wr mt s2 s5 (.slice none 0 0) (N.st.take k) rs []) (fun t11 _ => N.st.length - (intOf t11).toNat)
  case atStart => exact ⟨0, _, rfl, Nat.zero_le _, by simpa using G1.out⟩
  case round =>
    obtain ⟨k, s2, rfl, hk, hg⟩ := hrel
    by_cases hkn : k < N.st.length
    · have hkn' : (k : Int) < (N.st.length : Int) := by omega
      obtain ⟨y, hx⟩ : ∃ y, N.st[k]? = some y := ⟨N.st[k]'hkn, by simp⟩
      have hra := NL.out.m.s.1.fr NL.out.k R0.out NL.out.b NL.out.g hg.fr
      have hcap : N.st.length ≤ sc := NL.out.m.s.2.2
      have e0' : wr.cell? ⟨sB, k * 3, none⟩ = some (.int .i64 y.kind) := hra (k * 3 + 0) _ (by rw [flS_at _ _ _ hx 0 (by omega)]; rfl)
      have e1' : wr.cell? ⟨sB, k * 3 + 1, none⟩ = some (.int .i64 y.rule) := hra (k * 3 + 1) _ (by rw [flS_at _ _ _ hx 1 (by omega)]; rfl)
      have e2' : wr.cell? ⟨sB, k * 3 + 2, none⟩ = some (.int .i64 y.arg) := hra (k * 3 + 2) _ (by rw [flS_at _ _ _ hx 2 (by omega)]; rfl)
      have HX := Lib.hid hx
      have hb1 := hg.rs.blk
      have hlb := hb1.lt
      have HO : Hid (wr.ownsRow base 162 3 s2 (N.st.take k).length (flS (N.st.take k))) := Lib.hid (hg.row (i := 2) (by simp [I3]) rfl)
      have y1 : wr.cell? ⟨gb, 2, none⟩ = some s2 := hb1.cell 2
      have z1 : wr.frozen? ⟨gb, 2, none⟩ = false := hb1.free 2
      have hlen : (N.st.take k).length = k := by simp; omega
      have hcc : (k : Int) ≤ (sc : Int) := by omega
      have HG := Lib.hid hg
      have hbw : base ≤ wr.heap.size := Nat.le_trans LBW.out hg.fr.size
      have hnoE := HG.out.rs.new (Nat.le_refl wr.heap.size)
      have hneE : wr.heap.size ≠ gb := Nat.ne_of_gt hlb
      obtain ⟨i6, hi6, hy0, hy1, hy2⟩ := info_parts info162
      clear hra hx hb1 hg hcap
      go_upto_region 4 with fail
      have bE := Blk.new wr 60 #[.int .i64 y.kind, .int .i64 y.rule, .int .i64 y.arg]
      have kE : Kp (fun _ => True) wr (wr.alloc (.cells #[.int .i64 y.kind, .int .i64 y.rule, .int .i64 y.arg] 60)) := Kp.alloc _ _
      have NE := Lib.hid (HG.out.alloc (.cells #[.int .i64 y.kind, .int .i64 y.rule, .int .i64 y.arg] 60))
      have HOE : Hid ((wr.alloc (.cells #[.int .i64 y.kind, .int .i64 y.rule, .int .i64 y.arg] 60)).ownsRow base 162 3 s2 (N.st.take k).length (flS (N.st.take k))) := Lib.hid (HO.out.alloc _)
      have y2 : (wr.alloc (.cells #[.int .i64 y.kind, .int .i64 y.rule, .int .i64 y.arg] 60)).cell? ⟨gb, 2, none⟩ = some s2 := (World.cell?_of_block (kE.blk gb hlb trivial)).trans y1
      have z2 : (wr.alloc (.cells #[.int .i64 y.kind, .int .i64 y.rule, .int .i64 y.arg] 60)).frozen? ⟨gb, 2, none⟩ = false := NE.out.rs.blk.free 2
      obtain ⟨eb, heb⟩ : ∃ eb, eb = wr.heap.size := ⟨_, rfl⟩
      rw [← heb] at bE hnoE hneE ⊢
      have hbE : base ≤ (wr.alloc (.cells #[.int .i64 y.kind, .int .i64 y.rule, .int .i64 y.arg] 60)).heap.size := Nat.le_trans hbw kE.size
      generalize wr.alloc (.cells #[.int .i64 y.kind, .int .i64 y.rule, .int .i64 y.arg] 60) = wE at bE kE NE HOE y2 z2 hbE ⊢
      have w0' : wE.cell? ⟨eb, 0, none⟩ = some (.int .i64 y.kind) := bE.cell 0
      have w1' : wE.cell? ⟨eb, 1, none⟩ = some (.int .i64 y.rule) := bE.cell 1
      have w2' : wE.cell? ⟨eb, 2, none⟩ = some (.int .i64 y.arg) := bE.cell 2
      have hlE := NE.out.rs.blk.lt
      have leb := bE.lt
      have hnoB : some eb ≠ s2.ownBlock := fun e => hnoE ⟨2, s2, by simp [I3], rfl, e.symm⟩
      have BE := Lib.hid bE
      have SE : Hid (∀ W, Kp (fun j => j = eb) wE W → W.cell? ⟨eb, 0, none⟩ = some (.int .i64 y.kind) ∧ W.cell? ⟨eb, 1, none⟩ = some (.int .i64 y.rule) ∧ W.cell? ⟨eb, 2, none⟩ = some (.int .i64 y.arg)) := Lib.hid (fun W k => by
        have b := (BE.out.kept (k.blk eb BE.out.lt rfl)).cell
        exact ⟨b 0, b 1, b 2⟩)
      clear bE kE heb y1 z1 HO hbw hnoE e0' e1' e2'
      refine wp_region_x (fun W => (W.cell? ⟨eb, 0, none⟩ = some (.int .i64 y.kind) ∧ W.cell? ⟨eb, 1, none⟩ = some (.int .i64 y.rule) ∧ W.cell? ⟨eb, 2, none⟩ = some (.int .i64 y.arg)) ∧ W.cell? ⟨gb, 2, none⟩ = some s2) 16 (by kernel_rfl) ?_
      have hSd := show (fun W => (W.cell? ⟨eb, 0, none⟩ = some (.int .i64 y.kind) ∧ W.cell? ⟨eb, 1, none⟩ = some (.int .i64 y.rule) ∧ W.cell? ⟨eb, 2, none⟩ = some (.int .i64 y.arg)) ∧ W.cell? ⟨gb, 2, none⟩ = some s2) wE.drew from ⟨SE.out _ (Kp.drew _), y2⟩
      refine takeX (v := ?v1) 0 rfl (by kernel_rfl) (by kernel_rfl) (by kernel_rfl) (by kernel_rfl) (fun _ _ _ h => h) hSd (by rfl) ?hy1 ?r1
      case hy1 => (intro w hSw; (try dsimp only at hSw); go_simp) <;> with_reducible rfl
      try simp only [Act.put, List.setIfInBounds_toArray, List.set_cons_zero, List.set_cons_succ]
      refine takeX (v := ?v2) 1 rfl (by kernel_rfl) (by kernel_rfl) (by kernel_rfl) (by kernel_rfl) (fun _ _ _ h => h) hSd (by rfl) ?hy2 ?r2
      case hy2 => (intro w hSw; (try dsimp only at hSw); go_simp) <;> with_reducible rfl
      try simp only [Act.put, List.setIfInBounds_toArray, List.set_cons_zero, List.set_cons_succ]
      refine takeX (v := ?v3) 2 rfl (by kernel_rfl) (by kernel_rfl) (by kernel_rfl) (by kernel_rfl) (fun _ _ _ h => h) hSd (by rfl) ?hy3 ?r3
      case hy3 => (intro w hSw; (try dsimp only at hSw); go_simp) <;> with_reducible rfl
      try simp only [Act.put, List.setIfInBounds_toArray, List.set_cons_zero, List.set_cons_succ]
      refine takeX (v := ?v4) 3 rfl (by kernel_rfl) (by kernel_rfl) (by kernel_rfl) (by kernel_rfl) (fun _ _ _ h => h) hSd (by rfl) ?hy4 ?r4
      case hy4 => (intro w hSw; (try dsimp only at hSw); go_simp) <;> with_reducible rfl
      try simp only [Act.put, List.setIfInBounds_toArray, List.set_cons_zero, List.set_cons_succ]
      refine takeX (v := ?v5) 4 rfl (by kernel_rfl) (by kernel_rfl) (by kernel_rfl) (by kernel_rfl) (fun _ _ _ h => h) hSd (by rfl) ?hy5 ?r5
      case hy5 => (intro w hSw; (try dsimp only at hSw); go_simp) <;> with_reducible rfl
      try simp only [Act.put, List.setIfInBounds_toArray, List.set_cons_zero, List.set_cons_succ]
      refine takeX (v := ?v6) 5 rfl (by kernel_rfl) (by kernel_rfl) (by kernel_rfl) (by kernel_rfl) (fun _ _ _ h => h) hSd (by rfl) ?hy6 ?r6
      case hy6 => (intro w hSw; (try dsimp only at hSw); go_simp) <;> with_reducible rfl
      try simp only [Act.put, List.setIfInBounds_toArray, List.set_cons_zero, List.set_cons_succ]
      refine takeX (v := ?v7) 6 rfl (by kernel_rfl) (by kernel_rfl) (by kernel_rfl) (by kernel_rfl) (fun _ _ _ h => h) hSd (by rfl) ?hy7 ?r7
      case hy7 => (intro w hSw; (try dsimp only at hSw); go_simp) <;> with_reducible rfl
      try simp only [Act.put, List.setIfInBounds_toArray, List.set_cons_zero, List.set_cons_succ]
      refine takeX (v := ?v8) 7 rfl (by kernel_rfl) (by kernel_rfl) (by kernel_rfl) (by kernel_rfl) (fun _ _ _ h => h) hSd (by rfl) ?hy8 ?r8
      case hy8 => (intro w hSw; (try dsimp only at hSw); go_simp) <;> with_reducible rfl
      try simp only [Act.put, List.setIfInBounds_toArray, List.set_cons_zero, List.set_cons_succ]
      refine takeX (v := ?v9) 8 rfl (by kernel_rfl) (by kernel_rfl) (by kernel_rfl) (by kernel_rfl) (fun _ _ _ h => h) hSd (by rfl) ?hy9 ?r9
      case hy9 => (intro w hSw; (try dsimp only at hSw); go_simp) <;> with_reducible rfl
      try simp only [Act.put, List.setIfInBounds_toArray, List.set_cons_zero, List.set_cons_succ]
      refine takeX (v := ?v10) 9 rfl (by kernel_rfl) (by kernel_rfl) (by kernel_rfl) (by kernel_rfl) (fun _ _ _ h => h) hSd (by rfl) ?hy10 ?r10
      case hy10 => (intro w hSw; (try dsimp only at hSw); go_simp) <;> with_reducible rfl
      try simp only [Act.put, List.setIfInBounds_toArray, List.set_cons_zero, List.set_cons_succ]
      refine takeX (v := ?v11) 10 rfl (by kernel_rfl) (by kernel_rfl) (by kernel_rfl) (by kernel_rfl) (fun _ _ _ h => h) hSd (by rfl) ?hy11 ?r11
      case hy11 => (intro w hSw; (try dsimp only at hSw); go_simp) <;> with_reducible rfl
      try simp only [Act.put, List.setIfInBounds_toArray, List.set_cons_zero, List.set_cons_succ]
      refine takeX (v := ?v12) 11 rfl (by kernel_rfl) (by kernel_rfl) (by kernel_rfl) (by kernel_rfl) (fun _ _ _ h => h) hSd (by rfl) ?hy12 ?r12
      case hy12 => (intro w hSw; (try dsimp only at hSw); go_simp) <;> with_reducible rfl
      try simp only [Act.put, List.setIfInBounds_toArray, List.set_cons_zero, List.set_cons_succ]
      refine oneX 12 (by kernel_rfl) rfl (fun K hK => ?_)
      go_simp
      refine hK.out _ _ (fun _ => ⟨SE.out _ ((Kp.drew _).trans (Kp.alloc _ _)), (World.cell?_of_block (((Kp.drew (P := fun _ => True) _).trans (Kp.alloc _ _)).blk gb hlE trivial)).trans y2⟩) ?_
      clear hK K
      try simp only [Act.put, List.setIfInBounds_toArray, List.set_cons_zero, List.set_cons_succ]
      refine oneX 13 (by kernel_rfl) rfl (fun K hK => ?_)
      refine step_append_lies _ (by rfl) _ _ _ (by rfl) base 162 i6 _ 3 24 Tryz.underlying89 hi6 hy0 hy1 hy2 rfl (by omega) s2 (N.st.take k).length (flS (N.st.take k)) (by rfl) (by first | exact (HOE.out.alloc _).drew | exact (HOE.out.drew).alloc _) ⟨wE.heap.size, 0, none⟩ 1 1 (stC y) (by rfl) (by rfl) (World.news_of_block (cs := #[.int .i64 y.kind, .int .i64 y.rule, .int .i64 y.arg]) (t := 162) (fr := (0, 0)) (heap_alloc_new wE _)) (by simp [Value.oneCell', stC]) (by omega) (by simp [maxLen]; omega) (by omega) (by simp; omega) (wE.heap.size + 1) (by simp) ?_
      intro gg cap w1 hown1 hgrow hat hlt
      have k1 : Kp (fun k => some k ≠ s2.ownBlock) wE w1 := (by first | exact ((Kp.drew _).trans (Kp.alloc _ _)).trans (Kp.grown hgrow (fun k hk => hk)) | exact ((Kp.alloc _ _).trans (Kp.drew _)).trans (Kp.grown hgrow (fun k hk => hk)))
      have k1e : Kp (fun j => j = eb) wE w1 := k1.weak (fun j hj => by rw [hj]; exact hnoB)
      have hneG : ¬ gb = eb := (fun e => hneE e.symm)
      have B1 := NE.out.far (i := 2) (v := s2) (by simp [I3]) rfl k1
      have c01 : w1.cell? ⟨gb, 2, none⟩ = some s2 := B1.cell 2
      have f01 : w1.frozen? ⟨gb, 2, none⟩ = false := B1.free 2
      have PU := Lib.hid (NE.out.put2 (x := y) rfl hown1 k1 (hat.imp id (fun e => by omega)))
      clear hown1 hgrow hat hlt k1 B1
      refine hK.out _ _ (fun _ => ⟨SE.out _ k1e, c01⟩) ?_
      clear hK K
      try simp only [Act.put, List.setIfInBounds_toArray, List.set_cons_zero, List.set_cons_succ]
      have hS1 := show (fun W => (W.cell? ⟨eb, 0, none⟩ = some (.int .i64 y.kind) ∧ W.cell? ⟨eb, 1, none⟩ = some (.int .i64 y.rule) ∧ W.cell? ⟨eb, 2, none⟩ = some (.int .i64 y.arg)) ∧ W.cell? ⟨gb, 2, none⟩ = some s2) w1 from ⟨SE.out _ k1e, c01⟩
      refine oneX 14 (by kernel_rfl) rfl (fun K hK => ?_)
      go_simp
      refine hK.out _ _ (fun _ => hS1) ?_
      clear hK K
      try simp only [Act.put, List.setIfInBounds_toArray, List.set_cons_zero, List.set_cons_succ]
      refine oneX 15 (by kernel_rfl) rfl (fun K hK => ?_)
      go_simp
      refine hK.out _ _ (fun _ => hS1) ?_
      clear hK K
      try simp only [Act.put, List.setIfInBounds_toArray, List.set_cons_zero, List.set_cons_succ]
      refine oneX 16 (by kernel_rfl) rfl (fun K hK => ?_)
      go_simp
      refine hK.out _ _ (fun h => absurd rfl h) ?_
      refine wpAnyX_done (by kernel_rfl) ?_
      clear hK K hSd hS1
      try simp only [Act.put, List.setIfInBounds_toArray, List.set_cons_zero, List.set_cons_succ]
      all_goals
        have et : N.st.take (k + 1) = N.st.take k ++ [y] := by rw [List.take_add_one, HX.out]; rfl
        have FIN : Hid (GR wA base gb M D c0 (w1.setCell ⟨gb, 2, none⟩ (.slice (some ⟨gg, 0, none⟩) (k + 1) cap)) mt (.slice (some ⟨gg, 0, none⟩) (k + 1) cap) s5 (.slice none 0 0) (N.st.take (k + 1)) rs []) := by
          have := PU.out
          rw [hlen] at this
          rw [et]
          exact Lib.hid this
        clear PU c01 f01 et
        go_wp2_with fail
        exact ⟨⟨k + 1, _, by simp, by omega, FIN.out⟩, by simp [intOf]; omega⟩
    · have hkn' : ¬ (k : Int) < (N.st.length : Int) := by omega
      have hke : k = N.st.length := by omega
      subst hke
      rw [List.take_of_length_le (Nat.le_refl _)] at hg
      obtain ⟨d1, d4⟩ := XB.out _ _ hg.fr
      have G2 := Lib.hid hg
      obtain ⟨s2', rfl⟩ : ∃ s2', s2' = s2 := ⟨_, rfl⟩
      clear hg
      obtain ⟨wM, rfl⟩ : ∃ wM, wM = wr := ⟨_, rfl⟩
      go_wp2_with fail
      clear d1 d4
      go_loopw [35] (fun t35 wr => ∃ (k : Nat) (s8 : Value), t35 = .int .i64 k ∧ k ≤ N.ed.length ∧ GR wA base gb M D c0 wr mt s2' s5 s8 N.st rs (N.ed.take k)) (fun t35 _ => N.ed.length - (intOf t35).toNat)
      case atStart => exact ⟨0, _, rfl, Nat.zero_le _, by simpa using G2.out⟩
      case round =>
        obtain ⟨k, s8, rfl, hk, hg⟩ := hrel
        by_cases hkn : k < N.ed.length
        · have hkn' : (k : Int) < (N.ed.length : Int) := by omega
          obtain ⟨y, hx⟩ : ∃ y, N.ed[k]? = some y := ⟨N.ed[k]'hkn, by simp⟩
          have hra := NL.out.m.e.1.fr NL.out.k R0.out NL.out.b NL.out.g hg.fr
          have hcap : N.ed.length ≤ ec := NL.out.m.e.2.2
          have e0' : wr.cell? ⟨eB, k * 6, none⟩ = some (.int .i64 y.src) := hra (k * 6 + 0) _ (by rw [flE_at _ _ _ hx 0 (by omega)]; rfl)
          have e1' : wr.cell? ⟨eB, k * 6 + 1, none⟩ = some (.int .i64 y.dst) := hra (k * 6 + 1) _ (by rw [flE_at _ _ _ hx 1 (by omega)]; rfl)
          have e2' : wr.cell? ⟨eB, k * 6 + 2, none⟩ = some (.int .i64 y.kind) := hra (k * 6 + 2) _ (by rw [flE_at _ _ _ hx 2 (by omega)]; rfl)
          have e3' : wr.cell? ⟨eB, k * 6 + 3, none⟩ = some (.int .i64 y.a1) := hra (k * 6 + 3) _ (by rw [flE_at _ _ _ hx 3 (by omega)]; rfl)
          have e4' : wr.cell? ⟨eB, k * 6 + 4, none⟩ = some (.int .i64 y.a2) := hra (k * 6 + 4) _ (by rw [flE_at _ _ _ hx 4 (by omega)]; rfl)
          have e5' : wr.cell? ⟨eB, k * 6 + 5, none⟩ = some (.int .i64 0) := hra (k * 6 + 5) _ (by rw [flE_at _ _ _ hx 5 (by omega)]; rfl)
          have HX := Lib.hid hx
          have hb1 := hg.rs.blk
          have hlb := hb1.lt
          have HO : Hid (wr.ownsRow base 163 6 s8 (N.ed.take k).length (flE (N.ed.take k))) := Lib.hid (hg.row (i := 8) (by simp [I3]) rfl)
          have y1 : wr.cell? ⟨gb, 8, none⟩ = some s8 := hb1.cell 8
          have z1 : wr.frozen? ⟨gb, 8, none⟩ = false := hb1.free 8
          have hlen : (N.ed.take k).length = k := by simp; omega
          have hcc : (k : Int) ≤ (ec : Int) := by omega
          have HG := Lib.hid hg
          have hbw : base ≤ wr.heap.size := Nat.le_trans LBW.out hg.fr.size
          have hnoE := HG.out.rs.new (Nat.le_refl wr.heap.size)
          have hneE : wr.heap.size ≠ gb := Nat.ne_of_gt hlb
          obtain ⟨i6, hi6, hy0, hy1, hy2⟩ := info_parts info163
          clear hra hx hb1 hg hcap
          go_upto_region 9 with fail
          have bE := Blk.new wr 63 #[.int .i64 y.src, .int .i64 y.dst, .int .i64 y.kind, .int .i64 y.a1, .int .i64 y.a2, .int .i64 0]
          have kE : Kp (fun _ => True) wr (wr.alloc (.cells #[.int .i64 y.src, .int .i64 y.dst, .int .i64 y.kind, .int .i64 y.a1, .int .i64 y.a2, .int .i64 0] 63)) := Kp.alloc _ _
          have NE := Lib.hid (HG.out.alloc (.cells #[.int .i64 y.src, .int .i64 y.dst, .int .i64 y.kind, .int .i64 y.a1, .int .i64 y.a2, .int .i64 0] 63))
          have HOE : Hid ((wr.alloc (.cells #[.int .i64 y.src, .int .i64 y.dst, .int .i64 y.kind, .int .i64 y.a1, .int .i64 y.a2, .int .i64 0] 63)).ownsRow base 163 6 s8 (N.ed.take k).length (flE (N.ed.take k))) := Lib.hid (HO.out.alloc _)
          have y2 : (wr.alloc (.cells #[.int .i64 y.src, .int .i64 y.dst, .int .i64 y.kind, .int .i64 y.a1, .int .i64 y.a2, .int .i64 0] 63)).cell? ⟨gb, 8, none⟩ = some s8 := (World.cell?_of_block (kE.blk gb hlb trivial)).trans y1
          have z2 : (wr.alloc (.cells #[.int .i64 y.src, .int .i64 y.dst, .int .i64 y.kind, .int .i64 y.a1, .int .i64 y.a2, .int .i64 0] 63)).frozen? ⟨gb, 8, none⟩ = false := NE.out.rs.blk.free 8
          obtain ⟨eb, heb⟩ : ∃ eb, eb = wr.heap.size := ⟨_, rfl⟩
          rw [← heb] at bE hnoE hneE ⊢
          have hbE : base ≤ (wr.alloc (.cells #[.int .i64 y.src, .int .i64 y.dst, .int .i64 y.kind, .int .i64 y.a1, .int .i64 y.a2, .int .i64 0] 63)).heap.size := Nat.le_trans hbw kE.size
          generalize wr.alloc (.cells #[.int .i64 y.src, .int .i64 y.dst, .int .i64 y.kind, .int .i64 y.a1, .int .i64 y.a2, .int .i64 0] 63) = wE at bE kE NE HOE y2 z2 hbE ⊢
          have w0' : wE.cell? ⟨eb, 0, none⟩ = some (.int .i64 y.src) := bE.cell 0
          have w1' : wE.cell? ⟨eb, 1, none⟩ = some (.int .i64 y.dst) := bE.cell 1
          have w2' : wE.cell? ⟨eb, 2, none⟩ = some (.int .i64 y.kind) := bE.cell 2
          have w3' : wE.cell? ⟨eb, 3, none⟩ = some (.int .i64 y.a1) := bE.cell 3
          have w4' : wE.cell? ⟨eb, 4, none⟩ = some (.int .i64 y.a2) := bE.cell 4
          have w5' : wE.cell? ⟨eb, 5, none⟩ = some (.int .i64 0) := bE.cell 5
          have hlE := NE.out.rs.blk.lt
          have leb := bE.lt
          have hnoB : some eb ≠ s8.ownBlock := fun e => hnoE ⟨8, s8, by simp [I3], rfl, e.symm⟩
          have BE := Lib.hid bE
          have SE : Hid (∀ W, Kp (fun j => j = eb) wE W → W.cell? ⟨eb, 0, none⟩ = some (.int .i64 y.src) ∧ W.cell? ⟨eb, 1, none⟩ = some (.int .i64 y.dst) ∧ W.cell? ⟨eb, 2, none⟩ = some (.int .i64 y.kind) ∧ W.cell? ⟨eb, 3, none⟩ = some (.int .i64 y.a1) ∧ W.cell? ⟨eb, 4, none⟩ = some (.int .i64 y.a2) ∧ W.cell? ⟨eb, 5, none⟩ = some (.int .i64 0)) := Lib.hid (fun W k => by
            have b := (BE.out.kept (k.blk eb BE.out.lt rfl)).cell
            exact ⟨b 0, b 1, b 2, b 3, b 4, b 5⟩)
          clear bE kE heb y1 z1 HO hbw hnoE e0' e1' e2' e3' e4' e5'
          refine wp_region_x (fun W => (W.cell? ⟨eb, 0, none⟩ = some (.int .i64 y.src) ∧ W.cell? ⟨eb, 1, none⟩ = some (.int .i64 y.dst) ∧ W.cell? ⟨eb, 2, none⟩ = some (.int .i64 y.kind) ∧ W.cell? ⟨eb, 3, none⟩ = some (.int .i64 y.a1) ∧ W.cell? ⟨eb, 4, none⟩ = some (.int .i64 y.a2) ∧ W.cell? ⟨eb, 5, none⟩ = some (.int .i64 0)) ∧ W.cell? ⟨gb, 8, none⟩ = some s8) 22 (by kernel_rfl) ?_
          have hSd := show (fun W => (W.cell? ⟨eb, 0, none⟩ = some (.int .i64 y.src) ∧ W.cell? ⟨eb, 1, none⟩ = some (.int .i64 y.dst) ∧ W.cell? ⟨eb, 2, none⟩ = some (.int .i64 y.kind) ∧ W.cell? ⟨eb, 3, none⟩ = some (.int .i64 y.a1) ∧ W.cell? ⟨eb, 4, none⟩ = some (.int .i64 y.a2) ∧ W.cell? ⟨eb, 5, none⟩ = some (.int .i64 0)) ∧ W.cell? ⟨gb, 8, none⟩ = some s8) wE.drew from ⟨SE.out _ (Kp.drew _), y2⟩
          refine takeX (v := ?v13) 0 rfl (by kernel_rfl) (by kernel_rfl) (by kernel_rfl) (by kernel_rfl) (fun _ _ _ h => h) hSd (by rfl) ?hy13 ?r13
          case hy13 => (intro w hSw; (try dsimp only at hSw); go_simp) <;> with_reducible rfl
          try simp only [Act.put, List.setIfInBounds_toArray, List.set_cons_zero, List.set_cons_succ]
          refine takeX (v := ?v14) 1 rfl (by kernel_rfl) (by kernel_rfl) (by kernel_rfl) (by kernel_rfl) (fun _ _ _ h => h) hSd (by rfl) ?hy14 ?r14
          case hy14 => (intro w hSw; (try dsimp only at hSw); go_simp) <;> with_reducible rfl
          try simp only [Act.put, List.setIfInBounds_toArray, List.set_cons_zero, List.set_cons_succ]
          refine takeX (v := ?v15) 2 rfl (by kernel_rfl) (by kernel_rfl) (by kernel_rfl) (by kernel_rfl) (fun _ _ _ h => h) hSd (by rfl) ?hy15 ?r15
          case hy15 => (intro w hSw; (try dsimp only at hSw); go_simp) <;> with_reducible rfl
          try simp only [Act.put, List.setIfInBounds_toArray, List.set_cons_zero, List.set_cons_succ]
          refine takeX (v := ?v16) 3 rfl (by kernel_rfl) (by kernel_rfl) (by kernel_rfl) (by kernel_rfl) (fun _ _ _ h => h) hSd (by rfl) ?hy16 ?r16
          case hy16 => (intro w hSw; (try dsimp only at hSw); go_simp) <;> with_reducible rfl
          try simp only [Act.put, List.setIfInBounds_toArray, List.set_cons_zero, List.set_cons_succ]
          refine takeX (v := ?v17) 4 rfl (by kernel_rfl) (by kernel_rfl) (by kernel_rfl) (by kernel_rfl) (fun _ _ _ h => h) hSd (by rfl) ?hy17 ?r17
          case hy17 => (intro w hSw; (try dsimp only at hSw); go_simp) <;> with_reducible rfl
          try simp only [Act.put, List.setIfInBounds_toArray, List.set_cons_zero, List.set_cons_succ]
          refine takeX (v := ?v18) 5 rfl (by kernel_rfl) (by kernel_rfl) (by kernel_rfl) (by kernel_rfl) (fun _ _ _ h => h) hSd (by rfl) ?hy18 ?r18
          case hy18 => (intro w hSw; (try dsimp only at hSw); go_simp) <;> with_reducible rfl
          try simp only [Act.put, List.setIfInBounds_toArray, List.set_cons_zero, List.set_cons_succ]
          refine takeX (v := ?v19) 6 rfl (by kernel_rfl) (by kernel_rfl) (by kernel_rfl) (by kernel_rfl) (fun _ _ _ h => h) hSd (by rfl) ?hy19 ?r19
          case hy19 => (intro w hSw; (try dsimp only at hSw); go_simp) <;> with_reducible rfl
          try simp only [Act.put, List.setIfInBounds_toArray, List.set_cons_zero, List.set_cons_succ]
          refine takeX (v := ?v20) 7 rfl (by kernel_rfl) (by kernel_rfl) (by kernel_rfl) (by kernel_rfl) (fun _ _ _ h => h) hSd (by rfl) ?hy20 ?r20
          case hy20 => (intro w hSw; (try dsimp only at hSw); go_simp) <;> with_reducible rfl
          try simp only [Act.put, List.setIfInBounds_toArray, List.set_cons_zero, List.set_cons_succ]
          refine takeX (v := ?v21) 8 rfl (by kernel_rfl) (by kernel_rfl) (by kernel_rfl) (by kernel_rfl) (fun _ _ _ h => h) hSd (by rfl) ?hy21 ?r21
          case hy21 => (intro w hSw; (try dsimp only at hSw); go_simp) <;> with_reducible rfl
          try simp only [Act.put, List.setIfInBounds_toArray, List.set_cons_zero, List.set_cons_succ]
          refine takeX (v := ?v22) 9 rfl (by kernel_rfl) (by kernel_rfl) (by kernel_rfl) (by kernel_rfl) (fun _ _ _ h => h) hSd (by rfl) ?hy22 ?r22
          case hy22 => (intro w hSw; (try dsimp only at hSw); go_simp) <;> with_reducible rfl
          try simp only [Act.put, List.setIfInBounds_toArray, List.set_cons_zero, List.set_cons_succ]
          refine takeX (v := ?v23) 10 rfl (by kernel_rfl) (by kernel_rfl) (by kernel_rfl) (by kernel_rfl) (fun _ _ _ h => h) hSd (by rfl) ?hy23 ?r23
          case hy23 => (intro w hSw; (try dsimp only at hSw); go_simp) <;> with_reducible rfl
          try simp only [Act.put, List.setIfInBounds_toArray, List.set_cons_zero, List.set_cons_succ]
          refine takeX (v := ?v24) 11 rfl (by kernel_rfl) (by kernel_rfl) (by kernel_rfl) (by kernel_rfl) (fun _ _ _ h => h) hSd (by rfl) ?hy24 ?r24
          case hy24 => (intro w hSw; (try dsimp only at hSw); go_simp) <;> with_reducible rfl
          try simp only [Act.put, List.setIfInBounds_toArray, List.set_cons_zero, List.set_cons_succ]
          refine takeX (v := ?v25) 12 rfl (by kernel_rfl) (by kernel_rfl) (by kernel_rfl) (by kernel_rfl) (fun _ _ _ h => h) hSd (by rfl) ?hy25 ?r25
          case hy25 => (intro w hSw; (try dsimp only at hSw); go_simp) <;> with_reducible rfl
          try simp only [Act.put, List.setIfInBounds_toArray, List.set_cons_zero, List.set_cons_succ]
          refine takeX (v := ?v26) 13 rfl (by kernel_rfl) (by kernel_rfl) (by kernel_rfl) (by kernel_rfl) (fun _ _ _ h => h) hSd (by rfl) ?hy26 ?r26
          case hy26 => (intro w hSw; (try dsimp only at hSw); go_simp) <;> with_reducible rfl
          try simp only [Act.put, List.setIfInBounds_toArray, List.set_cons_zero, List.set_cons_succ]
          refine takeX (v := ?v27) 14 rfl (by kernel_rfl) (by kernel_rfl) (by kernel_rfl) (by kernel_rfl) (fun _ _ _ h => h) hSd (by rfl) ?hy27 ?r27
          case hy27 => (intro w hSw; (try dsimp only at hSw); go_simp) <;> with_reducible rfl
          try simp only [Act.put, List.setIfInBounds_toArray, List.set_cons_zero, List.set_cons_succ]
          refine takeX (v := ?v28) 15 rfl (by kernel_rfl) (by kernel_rfl) (by kernel_rfl) (by kernel_rfl) (fun _ _ _ h => h) hSd (by rfl) ?hy28 ?r28
          case hy28 => (intro w hSw; (try dsimp only at hSw); go_simp) <;> with_reducible rfl
          try simp only [Act.put, List.setIfInBounds_toArray, List.set_cons_zero, List.set_cons_succ]
          refine takeX (v := ?v29) 16 rfl (by kernel_rfl) (by kernel_rfl) (by kernel_rfl) (by kernel_rfl) (fun _ _ _ h => h) hSd (by rfl) ?hy29 ?r29
          case hy29 => (intro w hSw; (try dsimp only at hSw); go_simp) <;> with_reducible rfl
          try simp only [Act.put, List.setIfInBounds_toArray, List.set_cons_zero, List.set_cons_succ]
          refine takeX (v := ?v30) 17 rfl (by kernel_rfl) (by kernel_rfl) (by kernel_rfl) (by kernel_rfl) (fun _ _ _ h => h) hSd (by rfl) ?hy30 ?r30
          case hy30 => (intro w hSw; (try dsimp only at hSw); go_simp) <;> with_reducible rfl
          try simp only [Act.put, List.setIfInBounds_toArray, List.set_cons_zero, List.set_cons_succ]
          refine oneX 18 (by kernel_rfl) rfl (fun K hK => ?_)
          go_simp
          refine hK.out _ _ (fun _ => ⟨SE.out _ ((Kp.drew _).trans (Kp.alloc _ _)), (World.cell?_of_block (((Kp.drew (P := fun _ => True) _).trans (Kp.alloc _ _)).blk gb hlE trivial)).trans y2⟩) ?_
          clear hK K
          try simp only [Act.put, List.setIfInBounds_toArray, List.set_cons_zero, List.set_cons_succ]
          refine oneX 19 (by kernel_rfl) rfl (fun K hK => ?_)
          refine step_append_lies _ (by rfl) _ _ _ (by rfl) base 163 i6 _ 6 48 Tryz.underlying92 hi6 hy0 hy1 hy2 rfl (by omega) s8 (N.ed.take k).length (flE (N.ed.take k)) (by rfl) (by first | exact (HOE.out.alloc _).drew | exact (HOE.out.drew).alloc _) ⟨wE.heap.size, 0, none⟩ 1 1 (edC y) (by rfl) (by rfl) (World.news_of_block (cs := #[.int .i64 y.src, .int .i64 y.dst, .int .i64 y.kind, .int .i64 y.a1, .int .i64 y.a2, .int .i64 0]) (t := 163) (fr := (0, 0)) (heap_alloc_new wE _)) (by simp [Value.oneCell', edC]) (by omega) (by simp [maxLen]; omega) (by omega) (by simp; omega) (wE.heap.size + 1) (by simp) ?_
          intro gg cap w1 hown1 hgrow hat hlt
          have k1 : Kp (fun k => some k ≠ s8.ownBlock) wE w1 := (by first | exact ((Kp.drew _).trans (Kp.alloc _ _)).trans (Kp.grown hgrow (fun k hk => hk)) | exact ((Kp.alloc _ _).trans (Kp.drew _)).trans (Kp.grown hgrow (fun k hk => hk)))
          have k1e : Kp (fun j => j = eb) wE w1 := k1.weak (fun j hj => by rw [hj]; exact hnoB)
          have hneG : ¬ gb = eb := (fun e => hneE e.symm)
          have B1 := NE.out.far (i := 8) (v := s8) (by simp [I3]) rfl k1
          have c01 : w1.cell? ⟨gb, 8, none⟩ = some s8 := B1.cell 8
          have f01 : w1.frozen? ⟨gb, 8, none⟩ = false := B1.free 8
          have PU := Lib.hid (NE.out.put8 (x := y) rfl hown1 k1 (hat.imp id (fun e => by omega)))
          clear hown1 hgrow hat hlt k1 B1
          refine hK.out _ _ (fun _ => ⟨SE.out _ k1e, c01⟩) ?_
          clear hK K
          try simp only [Act.put, List.setIfInBounds_toArray, List.set_cons_zero, List.set_cons_succ]
          have hS1 := show (fun W => (W.cell? ⟨eb, 0, none⟩ = some (.int .i64 y.src) ∧ W.cell? ⟨eb, 1, none⟩ = some (.int .i64 y.dst) ∧ W.cell? ⟨eb, 2, none⟩ = some (.int .i64 y.kind) ∧ W.cell? ⟨eb, 3, none⟩ = some (.int .i64 y.a1) ∧ W.cell? ⟨eb, 4, none⟩ = some (.int .i64 y.a2) ∧ W.cell? ⟨eb, 5, none⟩ = some (.int .i64 0)) ∧ W.cell? ⟨gb, 8, none⟩ = some s8) w1 from ⟨SE.out _ k1e, c01⟩
          refine oneX 20 (by kernel_rfl) rfl (fun K hK => ?_)
          go_simp
          refine hK.out _ _ (fun _ => hS1) ?_
          clear hK K
          try simp only [Act.put, List.setIfInBounds_toArray, List.set_cons_zero, List.set_cons_succ]
          refine oneX 21 (by kernel_rfl) rfl (fun K hK => ?_)
          go_simp
          refine hK.out _ _ (fun _ => hS1) ?_
          clear hK K
          try simp only [Act.put, List.setIfInBounds_toArray, List.set_cons_zero, List.set_cons_succ]
          refine oneX 22 (by kernel_rfl) rfl (fun K hK => ?_)
          go_simp
          refine hK.out _ _ (fun h => absurd rfl h) ?_
          refine wpAnyX_done (by kernel_rfl) ?_
          clear hK K hSd hS1
          try simp only [Act.put, List.setIfInBounds_toArray, List.set_cons_zero, List.set_cons_succ]
          all_goals
            have et : N.ed.take (k + 1) = N.ed.take k ++ [y] := by rw [List.take_add_one, HX.out]; rfl
            have FIN : Hid (GR wA base gb M D c0 (w1.setCell ⟨gb, 8, none⟩ (.slice (some ⟨gg, 0, none⟩) (k + 1) cap)) mt s2' s5 (.slice (some ⟨gg, 0, none⟩) (k + 1) cap) N.st rs (N.ed.take (k + 1))) := by
              have := PU.out
              rw [hlen] at this
              rw [et]
              exact Lib.hid this
            clear PU c01 f01 et
            go_wp2_with fail
            exact ⟨⟨k + 1, _, by simp, by omega, FIN.out⟩, by simp [intOf]; omega⟩
        · have hkn' : ¬ (k : Int) < (N.ed.length : Int) := by omega
          have hke : k = N.ed.length := by omega
          subst hke
          rw [List.take_of_length_le (Nat.le_refl _)] at hg
          have GF := Lib.hid hg
          clear hg
          go_wp2_with fail
          go_end0
          refine ⟨rfl, s2', s8, GF.out.rs, ?_⟩
          rw [← HC0.out]
          exact BFr.pre KA.out GF.out.fr
end Go.Proofs
end
