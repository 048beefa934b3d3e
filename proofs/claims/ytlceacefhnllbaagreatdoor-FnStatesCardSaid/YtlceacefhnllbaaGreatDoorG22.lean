/- A part of the proof of the statement on the law FnStates, which the last text proves: part G22. -/
import Derived.Test.YtlceacefhnllbaaGreatDoorG21
set_option linter.all false
section
namespace Go.Proofs
open Go.RowKit
open Pl
/-! ## the package's own network -/
def ty2 : Nat → TypeId | 1 => 60 | _ => 63
def sz2 : Nat → Nat | 1 => 3 | _ => 6
def I2 : Nat → Prop := fun i => i = 1 ∨ i = 4
def gN (l : List LS) (m : List LE) : Nat → Nat × List Value | 1 => (l.length, flS l) | _ => (m.length, flE m)
theorem info60 : (Tryz.prog.info? 60).map (fun i => (i.zero, i.size, i.bytes)) = some (some (.agg #[.int .i64 0, .int .i64 0, .int .i64 0]), 3, 24) := by kernel_rfl
theorem info63 : (Tryz.prog.info? 63).map (fun i => (i.zero, i.size, i.bytes)) = some (some (.agg #[.int .i64 0, .int .i64 0, .int .i64 0, .int .i64 0, .int .i64 0, .int .i64 0]), 6, 48) := by kernel_rfl
theorem flE_at : ∀ (l : List LE) (s : Nat) (x : LE), l[s]? = some x → ∀ i, i < 6 → (flE l)[s * 6 + i]? = (edC x)[i]?
  | [], _, _, h, _, _ => by simp at h
  | y :: l, 0, x, h, i, hi => by
    simp at h; subst h
    unfold flE
    rw [List.flatMap_cons, List.getElem?_append_left (by simp [edC]; omega)]
    simp
  | y :: l, s + 1, x, h, i, hi => by
    have := flE_at l s x (by simpa using h) i hi
    unfold flE at this ⊢
    have hl : (edC y).length = 6 := rfl
    rw [List.flatMap_cons, List.getElem?_append_right (by rw [hl]; omega), hl, ← this]
    congr 1; omega
/-- A row that can be read. -/
def RowAt (w : World) (g : Nat) (xs : List Value) : Prop := ∀ i u, xs[i]? = some u → w.cell? ⟨g, i, none⟩ = some u
theorem RowAt.up {w W : World} {g : Nat} {xs : List Value} (h : RowAt w g xs) (k : Kp (fun _ => True) w W) : RowAt W g xs := fun i u hu => by
  have h0 := h i u hu
  exact (World.cell?_of_block (k.blk g (cell_lt h0) trivial)).trans h0
theorem RowAt.of {w : World} {B : Nat} {e : TypeId} {sz n g cap : Nat} {xs : List Value} (h : w.ownsRow B e sz (.slice (some ⟨g, 0, none⟩) n cap) n xs) : RowAt w g xs := fun i u hu => own_at h i u hu
/-- A network as it lies in memory. -/
structure NetM (w : World) (x : NetV) (N : Bd) (ss ks : List Nat) : Prop where
  s : RowAt w x.sB (flS N.st) ∧ x.sn = N.st.length ∧ x.sn ≤ x.sc
  a : RowAt w x.aB (flN ss) ∧ x.an = ss.length ∧ x.an ≤ x.ac
  k : RowAt w x.kB (flN ks) ∧ x.kn = ks.length ∧ x.kn ≤ x.kc
  e : RowAt w x.eB (flE N.ed) ∧ x.en = N.ed.length ∧ x.en ≤ x.ec
  d : RowAt w x.dB (flN N.de) ∧ x.dn = N.de.length ∧ x.dn ≤ x.dc
theorem NetM.up {w W : World} {x : NetV} {N : Bd} {ss ks : List Nat} (h : NetM w x N ss ks) (k : Kp (fun _ => True) w W) : NetM W x N ss ks :=
  ⟨⟨h.s.1.up k, h.s.2⟩, ⟨h.a.1.up k, h.a.2⟩, ⟨h.k.1.up k, h.k.2⟩, ⟨h.e.1.up k, h.e.2⟩, ⟨h.d.1.up k, h.d.2⟩⟩
theorem own_cap {w : World} {B : Nat} {e : TypeId} {sz n g cap : Nat} {xs : List Value} (h : w.ownsRow B e sz (.slice (some ⟨g, 0, none⟩) n cap) n xs) : n ≤ cap := by
  rcases h.2 with ⟨e, _⟩ | ⟨g', cap', cur, e, _, _, hc, _⟩
  · cases e
  · cases e; exact hc
/-- The network under construction. -/
structure NB (w0 : World) (base nb : Nat) (A K D : Value) (c0 : Array Value) (w : World) (s e : Value) (l : List LS) (m : List LE) : Prop where
  rs : RS ty2 sz2 I2 base w nb 32 #[.int .i64 0, s, A, K, e, D] (gN l m)
  fr : BFr I2 w0 nb c0 w #[.int .i64 0, s, A, K, e, D]
theorem NB.kp {w0 w : World} {base nb : Nat} {A K D s e : Value} {c0 : Array Value} {l : List LS} {m : List LE} (h : NB w0 base nb A K D c0 w s e l m) {ty : Nat → TypeId} {sz : Nat → Nat} {G : Nat → Nat × List Value} {T : TypeId} (h0 : RS ty sz I2 base w0 nb T c0 G) : Kp (fun j => j < base ∧ j ≠ nb) w0 w :=
  ⟨⟨h.fr.so.os, h.fr.so.out⟩, h.fr.size, fun j hj hb => (h.fr.far j hj hb.2 (h0.far hb.1)).1⟩
theorem NB.alloc {w0 w : World} {base nb : Nat} {A K D s e : Value} {c0 : Array Value} {l : List LS} {m : List LE} (h : NB w0 base nb A K D c0 w s e l m) (o : Obj) : NB w0 base nb A K D c0 (w.alloc o) s e l m :=
  ⟨h.rs.kept (Kp.alloc _ _), h.fr.trans ⟨⟨rfl, rfl⟩, by simp, fun j hj _ ho => ⟨(Kp.alloc (P := fun _ => True) w o).blk j hj trivial, ho⟩⟩⟩
def LexRet (es : List Ex) (w : World) (e : Ending) (w' : World) : Prop := ∃ x : NetV, e = .returned x.val ∧ NetM w' x (compile es).1 (compile es).2 (kds es.length) ∧ Kp (fun _ => True) w w'

theorem CmpRet.plain {es : List Ex} {w : World} {e : Ending} {w' : World} (h : CmpRet es w e w') : ∃ q0 q1 q2 q3 q4 c0 c1 c2 c3 c4 : Nat, e = .returned (.agg #[.slice (some ⟨q0, 0, none⟩) (compile es).1.st.length c0, .slice (some ⟨q1, 0, none⟩) (compile es).2.length c1, .slice (some ⟨q2, 0, none⟩) (kds es.length).length c2, .slice (some ⟨q3, 0, none⟩) (compile es).1.ed.length c3, .slice (some ⟨q4, 0, none⟩) (compile es).1.de.length c4]) ∧
    w'.ownsRow w.heap.size 59 3 (.slice (some ⟨q0, 0, none⟩) (compile es).1.st.length c0) (compile es).1.st.length (flS (compile es).1.st) ∧
    w'.ownsRow w.heap.size 3 1 (.slice (some ⟨q1, 0, none⟩) (compile es).2.length c1) (compile es).2.length (flN (compile es).2) ∧
    w'.ownsRow w.heap.size 3 1 (.slice (some ⟨q2, 0, none⟩) (kds es.length).length c2) (kds es.length).length (flN (kds es.length)) ∧
    w'.ownsRow w.heap.size 62 6 (.slice (some ⟨q3, 0, none⟩) (compile es).1.ed.length c3) (compile es).1.ed.length (flE (compile es).1.ed) ∧
    w'.ownsRow w.heap.size 3 1 (.slice (some ⟨q4, 0, none⟩) (compile es).1.de.length c4) (compile es).1.de.length (flN (compile es).1.de) ∧ Kp (fun _ => True) w w' := by
  obtain ⟨q, c, h1, h2, h3⟩ := h
  exact ⟨q 0, q 1, q 2, q 3, q 4, c 0, c 1, c 2, c 3, c 4, h1, h2 0 (by omega), h2 1 (by omega), h2 2 (by omega), h2 3 (by omega), h2 4 (by omega), h3⟩
theorem rs2 (w : World) (A K D : Value) (nb : Nat) (hb : Blk w nb 32 #[.int .i64 0, .slice none 0 0, A, K, .slice none 0 0, D]) : RS ty2 sz2 I2 w.heap.size w nb 32 #[.int .i64 0, .slice none 0 0, A, K, .slice none 0 0, D] (gN [] []) where
  blk := hb
  row := fun i hi => by
    rcases hi with rfl | rfl <;> exact ⟨_, rfl, ⟨rfl, .inl ⟨rfl, rfl⟩⟩⟩
  ne := fun i i' v v' j hi _ _ h1 _ h2 => by
    have : v = .slice none 0 0 := by rcases hi with rfl | rfl <;> simpa using h1.symm
    subst this; simp [Value.ownBlock] at h2
  nb := by
    rintro ⟨i, v, hi, h1, h2⟩
    have : v = .slice none 0 0 := by rcases hi with rfl | rfl <;> simpa using h1.symm
    subst this; simp [Value.ownBlock] at h2
theorem NB.put1 {w0 w w1 : World} {base nb gg cap : Nat} {A K D s e : Value} {c0 : Array Value} {l : List LS} {m : List LE} {x : LS} (h : NB w0 base nb A K D c0 w s e l m) (own1 : w1.ownsRow base 60 3 (.slice (some ⟨gg, 0, none⟩) (l.length + 1) cap) (l.length + 1) (flS l ++ stC x)) (k1 : Kp (fun k => some k ≠ s.ownBlock) w w1) (hat : s.ownBlock = some gg ∨ w.heap.size ≤ gg) :
    NB w0 base nb A K D c0 (w1.setCell ⟨nb, 1, none⟩ (.slice (some ⟨gg, 0, none⟩) (l.length + 1) cap)) (.slice (some ⟨gg, 0, none⟩) (l.length + 1) cap) e (l ++ [x]) m := by
  obtain ⟨p1, p2⟩ := h.rs.put (i := 1) (.inl rfl) (v := s) rfl own1 k1 hat
  exact ⟨p1.congr rfl (fun i hi => by rcases hi with rfl | rfl <;> simp [updG, gN, flS]), h.fr.trans p2⟩
theorem NB.put4 {w0 w w1 : World} {base nb gg cap : Nat} {A K D s e : Value} {c0 : Array Value} {l : List LS} {m : List LE} {x : LE} (h : NB w0 base nb A K D c0 w s e l m) (own1 : w1.ownsRow base 63 6 (.slice (some ⟨gg, 0, none⟩) (m.length + 1) cap) (m.length + 1) (flE m ++ edC x)) (k1 : Kp (fun k => some k ≠ e.ownBlock) w w1) (hat : e.ownBlock = some gg ∨ w.heap.size ≤ gg) :
    NB w0 base nb A K D c0 (w1.setCell ⟨nb, 4, none⟩ (.slice (some ⟨gg, 0, none⟩) (m.length + 1) cap)) s (.slice (some ⟨gg, 0, none⟩) (m.length + 1) cap) l (m ++ [x]) := by
  obtain ⟨p1, p2⟩ := h.rs.put (i := 4) (.inr rfl) (v := e) rfl own1 k1 hat
  exact ⟨p1.congr rfl (fun i hi => by rcases hi with rfl | rfl <;> simp [updG, gN, flE]), h.fr.trans p2⟩
theorem NB.far {w0 w w1 : World} {base nb i : Nat} {A K D s e v : Value} {c0 : Array Value} {l : List LS} {m : List LE} (h : NB w0 base nb A K D c0 w s e l m) (hi : I2 i) (hv : (#[.int .i64 0, s, A, K, e, D] : Array Value)[i]? = some v) (k1 : Kp (fun k => some k ≠ v.ownBlock) w w1) : Blk w1 nb 32 #[.int .i64 0, s, A, K, e, D] :=
  h.rs.blk.kept (k1.blk nb h.rs.blk.lt (fun e => h.rs.nb ⟨i, v, hi, hv, e.symm⟩))

set_option maxRecDepth 100000 in
set_option maxHeartbeats 1000000 in
theorem lexNet_any {w : World} {es : List Ex} {sl : Value} (g : GoodL es) (hs : SlE w sl es) :
    Calls Tryz.prog 8 #[sl] w fun e w' => LexRet es w e w' := by
  have HS := Lib.hid (hs.up (Kp.alloc w (.cells #[.int .i64 0, .slice none 0 0, .slice none 0 0, .slice none 0 0, .slice none 0 0, .slice none 0 0] 32)))
  obtain ⟨sq, sc, rfl⟩ := hs.form
  have HG := Lib.hid g
  clear hs g
  go_enter Tryz.func8, Tryz.ntmps8
  have brz := Blk.new w 32 #[.int .i64 0, .slice none 0 0, .slice none 0 0, .slice none 0 0, .slice none 0 0, .slice none 0 0]
  have kz0 : Kp (fun _ => True) w (w.alloc (.cells #[.int .i64 0, .slice none 0 0, .slice none 0 0, .slice none 0 0, .slice none 0 0, .slice none 0 0] 32)) := Kp.alloc _ _
  go_upto_region 1 with fail
  obtain ⟨rb, hrb⟩ : ∃ rb, rb = w.heap.size := ⟨_, rfl⟩
  rw [← hrb] at brz ⊢
  generalize w.alloc (.cells #[.int .i64 0, .slice none 0 0, .slice none 0 0, .slice none 0 0, .slice none 0 0, .slice none 0 0] 32) = wZ0 at HS brz kz0 ⊢
  have BRZ := Lib.hid brz
  have KZ0 := Lib.hid kz0
  have HRB := Lib.hid hrb
  clear brz kz0 hrb
  have htot := tot_compile HG.out
  have hpos0 : (compile es).1.st.length ≠ 0 := BB_pos HG.out 0
  have hpos3 : (compile es).1.ed.length ≠ 0 := BB_pos HG.out 3
  go_upto_region 3 with (first | (go_at_call 17; refine (compile_any HG.out HS.out).mono ?_; rintro e w1 hcr; obtain ⟨q0, q1, q2, q3, q4, c0, c1, c2, c3, c4, rfl, o0, o1, o2, o3, o4, k1⟩ := hcr.plain; have O0 := Lib.hid o0; have O1 := Lib.hid o1; have O2 := Lib.hid o2; have O3 := Lib.hid o3; have O4 := Lib.hid o4; have K1 := Lib.hid k1; clear hcr o0 o1 o2 o3 o4 k1))
  obtain ⟨N, hN⟩ : ∃ N, N = (compile es).1 := ⟨_, rfl⟩
  obtain ⟨ss, hss⟩ : ∃ ss, ss = (compile es).2 := ⟨_, rfl⟩
  obtain ⟨ks, hks⟩ : ∃ ks, ks = kds es.length := ⟨_, rfl⟩
  rw [← hN] at O0 O3 O4 htot hpos0 hpos3 ⊢
  rw [← hss] at O1 ⊢
  rw [← hks] at O2 ⊢
  have HNN := Lib.hid hN
  have HSS := Lib.hid hss
  have HKS := Lib.hid hks
  clear hN hss hks
  have htS : N.st.length ≤ 1000 := by unfold tot at htot; omega
  have htE : N.ed.length ≤ 1000 := by unfold tot at htot; omega
  have kN : Kp (fun _ => True) w1 ((w1.alloc (.cells #[.slice (some ⟨q0, 0, none⟩) N.st.length c0, .slice (some ⟨q1, 0, none⟩) ss.length c1, .slice (some ⟨q2, 0, none⟩) ks.length c2, .slice (some ⟨q3, 0, none⟩) N.ed.length c3, .slice (some ⟨q4, 0, none⟩) N.de.length c4] 56)).alloc (.cells #[.int .i64 0, .slice none 0 0, .slice (some ⟨q1, 0, none⟩) ss.length c1, .slice (some ⟨q2, 0, none⟩) ks.length c2, .slice none 0 0, .slice (some ⟨q4, 0, none⟩) N.de.length c4] 32)) := (Kp.alloc _ _).trans (Kp.alloc _ _)
  have bX : Blk ((w1.alloc (.cells #[.slice (some ⟨q0, 0, none⟩) N.st.length c0, .slice (some ⟨q1, 0, none⟩) ss.length c1, .slice (some ⟨q2, 0, none⟩) ks.length c2, .slice (some ⟨q3, 0, none⟩) N.ed.length c3, .slice (some ⟨q4, 0, none⟩) N.de.length c4] 56)).alloc (.cells #[.int .i64 0, .slice none 0 0, .slice (some ⟨q1, 0, none⟩) ss.length c1, .slice (some ⟨q2, 0, none⟩) ks.length c2, .slice none 0 0, .slice (some ⟨q4, 0, none⟩) N.de.length c4] 32)) w1.heap.size 56 #[.slice (some ⟨q0, 0, none⟩) N.st.length c0, .slice (some ⟨q1, 0, none⟩) ss.length c1, .slice (some ⟨q2, 0, none⟩) ks.length c2, .slice (some ⟨q3, 0, none⟩) N.ed.length c3, .slice (some ⟨q4, 0, none⟩) N.de.length c4] := Blk.kept (Blk.new w1 56 _) (Below.heap_alloc _ _ _ (by simp))
  have bN : Blk ((w1.alloc (.cells #[.slice (some ⟨q0, 0, none⟩) N.st.length c0, .slice (some ⟨q1, 0, none⟩) ss.length c1, .slice (some ⟨q2, 0, none⟩) ks.length c2, .slice (some ⟨q3, 0, none⟩) N.ed.length c3, .slice (some ⟨q4, 0, none⟩) N.de.length c4] 56)).alloc (.cells #[.int .i64 0, .slice none 0 0, .slice (some ⟨q1, 0, none⟩) ss.length c1, .slice (some ⟨q2, 0, none⟩) ks.length c2, .slice none 0 0, .slice (some ⟨q4, 0, none⟩) N.de.length c4] 32)) (w1.heap.size + 1) 32 #[.int .i64 0, .slice none 0 0, .slice (some ⟨q1, 0, none⟩) ss.length c1, .slice (some ⟨q2, 0, none⟩) ks.length c2, .slice none 0 0, .slice (some ⟨q4, 0, none⟩) N.de.length c4] := heap_new2 w1 _ _
  obtain ⟨A, hA⟩ : ∃ A : Value, A = .slice (some ⟨q1, 0, none⟩) ss.length c1 := ⟨_, rfl⟩
  obtain ⟨K, hK⟩ : ∃ K : Value, K = .slice (some ⟨q2, 0, none⟩) ks.length c2 := ⟨_, rfl⟩
  obtain ⟨D, hD⟩ : ∃ D : Value, D = .slice (some ⟨q4, 0, none⟩) N.de.length c4 := ⟨_, rfl⟩
  rw [← hA, ← hK, ← hD] at kN bX bN
  rw [← hA, ← hK, ← hD]
  obtain ⟨xb, hxb⟩ : ∃ xb, xb = w1.heap.size := ⟨_, rfl⟩
  obtain ⟨nb, hnb⟩ : ∃ nb, nb = w1.heap.size + 1 := ⟨_, rfl⟩
  rw [← hnb] at bN ⊢
  rw [← hxb] at bX ⊢
  generalize ((w1.alloc (.cells #[.slice (some ⟨q0, 0, none⟩) N.st.length c0, A, K, .slice (some ⟨q3, 0, none⟩) N.ed.length c3, D] 56)).alloc (.cells #[.int .i64 0, .slice none 0 0, A, K, .slice none 0 0, D] 32)) = wN at kN bX bN ⊢
  obtain ⟨base, hbase⟩ : ∃ base, base = wN.heap.size := ⟨_, rfl⟩
  have r0 := rs2 wN A K D nb bN
  rw [← hbase] at r0
  obtain ⟨cz0, hcz⟩ : ∃ cz0 : Array Value, cz0 = #[.int .i64 0, .slice none 0 0, A, K, .slice none 0 0, D] := ⟨_, rfl⟩
  have nb0 : NB wN base nb A K D cz0 wN (.slice none 0 0) (.slice none 0 0) [] [] := ⟨r0, by rw [hcz]; exact BFr.refl⟩
  rw [← hcz] at r0
  have LBN : Hid (base ≤ wN.heap.size) := Lib.hid (by omega)
  have lw1N := kN.size
  have bNlt := bN.lt
  have XB : Hid (∀ W s e l m, NB wN base nb A K D cz0 W s e l m → W.cell? ⟨xb, 0, none⟩ = some (.slice (some ⟨q0, 0, none⟩) N.st.length c0) ∧ W.cell? ⟨xb, 3, none⟩ = some (.slice (some ⟨q3, 0, none⟩) N.ed.length c3)) := Lib.hid (fun W s e l m h => by
    have b := (bX.kept ((h.kp r0).blk xb bX.lt ⟨by have := bX.lt; omega, by omega⟩)).cell
    exact ⟨b 0, b 3⟩)
  have RA : ∀ q xs, RowAt w1 q xs → ∀ W s e l m, NB wN base nb A K D cz0 W s e l m → RowAt W q xs := by
    intro q xs h W s e l m hn i u hu
    have h0 := h i u hu
    have h1 := cell_lt h0
    have h2 := (World.cell?_of_block (kN.blk q h1 trivial)).trans h0
    exact (World.cell?_of_block ((hn.kp r0).blk q (Nat.lt_of_lt_of_le h1 lw1N) ⟨by omega, by omega⟩)).trans h2
  have RA0 := Lib.hid (RA q0 _ (RowAt.of O0.out))
  have RA3 := Lib.hid (RA q3 _ (RowAt.of O3.out))
  have RA1 := Lib.hid (RA q1 _ (RowAt.of O1.out))
  have RA2 := Lib.hid (RA q2 _ (RowAt.of O2.out))
  have RA4 := Lib.hid (RA q4 _ (RowAt.of O4.out))
  have cap0 := own_cap O0.out
  have cap3 := own_cap O3.out
  have RF := Lib.hid r0
  have KB : Hid (∀ W s e l m, NB wN base nb A K D cz0 W s e l m → Kp (fun j => j < w1.heap.size) w1 W) := Lib.hid (fun W s e l m h => ⟨SO.trans kN.so h.fr.so, Nat.le_trans lw1N h.fr.size, fun j hj _ => ((h.kp r0).blk j (Nat.lt_of_lt_of_le hj lw1N) ⟨by omega, by omega⟩).trans (kN.blk j hj trivial)⟩)
  have NB0 := Lib.hid nb0
  obtain ⟨d0, d3⟩ := XB.out _ _ _ _ _ nb0
  have HAV := Lib.hid hA
  have HKV := Lib.hid hK
  have HDV := Lib.hid hD
  clear RA r0 nb0 kN bX bN hcz hbase hnb hxb hA hK hD htot
  go_wp2_with fail
  clear d0 d3
  go_loopw [21] (fun t21 wr => ∃ (k : Nat) (s : Value), t21 = .int .i64 k ∧ k ≤ N.st.length ∧ NB wN base nb A K D cz0 wr s (.slice none 0 0) (N.st.take k) []) (fun t21 _ => N.st.length - (intOf t21).toNat)
  case atStart => exact ⟨0, _, rfl, Nat.zero_le _, by simpa using NB0.out⟩
  case round =>
    obtain ⟨k, s, rfl, hk, hnb⟩ := hrel
    by_cases hkn : k < N.st.length
    · have hkn' : (k : Int) < (N.st.length : Int) := by omega
      obtain ⟨x, hx⟩ : ∃ x, N.st[k]? = some x := ⟨N.st[k]'hkn, by simp⟩
      have hra := RA0.out _ _ _ _ _ hnb
      have e0' : wr.cell? ⟨q0, k * 3, none⟩ = some (.int .i64 x.kind) := hra (k * 3 + 0) _ (by rw [flS_at _ _ _ hx 0 (by omega)]; rfl)
      have e1' : wr.cell? ⟨q0, k * 3 + 1, none⟩ = some (.int .i64 x.rule) := hra (k * 3 + 1) _ (by rw [flS_at _ _ _ hx 1 (by omega)]; rfl)
      have e2' : wr.cell? ⟨q0, k * 3 + 2, none⟩ = some (.int .i64 x.arg) := hra (k * 3 + 2) _ (by rw [flS_at _ _ _ hx 2 (by omega)]; rfl)
      have HX := Lib.hid hx
      have hb1 := hnb.rs.blk
      have hlb := hb1.lt
      obtain ⟨v1, hv1, ho1⟩ := hnb.rs.row 1 (by simp [I2])
      have hv2 : s = v1 := by simpa using hv1
      subst hv2
      have HO : Hid (wr.ownsRow base 60 3 s (N.st.take k).length (flS (N.st.take k))) := Lib.hid ho1
      have y1 : wr.cell? ⟨nb, 1, none⟩ = some s := hb1.cell 1
      have z1 : wr.frozen? ⟨nb, 1, none⟩ = false := hb1.free 1
      have hlen : (N.st.take k).length = k := by simp; omega
      have hcc : (k : Int) ≤ (c0 : Int) := by omega
      have HNB := Lib.hid hnb
      have hbw : base ≤ wr.heap.size := Nat.le_trans LBN.out hnb.fr.size
      obtain ⟨i6, hi6, hy0, hy1, hy2⟩ := info_parts info60
      clear hra hx hb1 hv1 ho1 hnb
      go_upto_region 6 with fail
      have bE := Blk.new wr 59 #[.int .i64 x.kind, .int .i64 x.rule, .int .i64 x.arg]
      have kE : Kp (fun _ => True) wr (wr.alloc (.cells #[.int .i64 x.kind, .int .i64 x.rule, .int .i64 x.arg] 59)) := Kp.alloc _ _
      have NE := Lib.hid (HNB.out.alloc (.cells #[.int .i64 x.kind, .int .i64 x.rule, .int .i64 x.arg] 59))
      have HOE : Hid ((wr.alloc (.cells #[.int .i64 x.kind, .int .i64 x.rule, .int .i64 x.arg] 59)).ownsRow base 60 3 s (N.st.take k).length (flS (N.st.take k))) := Lib.hid (HO.out.alloc _)
      have y2 : (wr.alloc (.cells #[.int .i64 x.kind, .int .i64 x.rule, .int .i64 x.arg] 59)).cell? ⟨nb, 1, none⟩ = some s := (World.cell?_of_block (kE.blk nb hlb trivial)).trans y1
      have z2 : (wr.alloc (.cells #[.int .i64 x.kind, .int .i64 x.rule, .int .i64 x.arg] 59)).frozen? ⟨nb, 1, none⟩ = false := NE.out.rs.blk.free 1
      obtain ⟨eb, heb⟩ : ∃ eb, eb = wr.heap.size := ⟨_, rfl⟩
      rw [← heb] at bE ⊢
      have hbE : base ≤ (wr.alloc (.cells #[.int .i64 x.kind, .int .i64 x.rule, .int .i64 x.arg] 59)).heap.size := Nat.le_trans hbw kE.size
      generalize wr.alloc (.cells #[.int .i64 x.kind, .int .i64 x.rule, .int .i64 x.arg] 59) = wE at bE kE NE HOE y2 z2 hbE ⊢
      have w0' : wE.cell? ⟨eb, 0, none⟩ = some (.int .i64 x.kind) := bE.cell 0
      have w1' : wE.cell? ⟨eb, 1, none⟩ = some (.int .i64 x.rule) := bE.cell 1
      have w2' : wE.cell? ⟨eb, 2, none⟩ = some (.int .i64 x.arg) := bE.cell 2
      have hlE := NE.out.rs.blk.lt
      clear bE kE heb y1 z1 HO hbw e0' e1' e2'
      go_wp2_with (first | (at_builtin; refine wpList_append_lies _ rfl _ _ 28 rfl base 60 i6 _ 3 24 Tryz.underlying28 hi6 hy0 hy1 hy2 rfl (by omega) s (N.st.take k).length (flS (N.st.take k)) rfl (HOE.out.alloc _) ⟨wE.heap.size, 0, none⟩ 1 1 (stC x) rfl rfl (World.news_of_block (cs := #[.int .i64 x.kind, .int .i64 x.rule, .int .i64 x.arg]) (t := 60) (fr := (0, 0)) (heap_alloc_new wE _)) (by simp [Value.oneCell', stC]) (by omega) (by simp [maxLen]; omega) (by omega) (by simp; omega) (wE.heap.size + 1) (by simp) ?_; intro gg cap w1 hown1 hgrow hat hlt; have k1 : Kp (fun k => some k ≠ s.ownBlock) wE w1 := (Kp.alloc _ _).trans (Kp.grown hgrow (fun k hk => hk)); have B1 := NE.out.far (i := 1) (v := s) (by simp [I2]) rfl k1; have c01 : w1.cell? ⟨nb, 1, none⟩ = some s := B1.cell 1; have f01 : w1.frozen? ⟨nb, 1, none⟩ = false := B1.free 1; have PU := Lib.hid (NE.out.put1 (x := x) hown1 k1 (hat.imp id (fun e => by omega))); clear hown1 hgrow hat hlt k1 B1))
      have et : N.st.take (k + 1) = N.st.take k ++ [x] := by rw [List.take_add_one, HX.out]; rfl
      refine ⟨⟨k + 1, .slice (some ⟨gg, 0, none⟩) (k + 1) cap, by simp, by omega, ?_⟩, by simp [intOf]; omega⟩
      rw [et]
      have := PU.out
      rw [hlen] at this
      exact this
    · have hkn' : ¬ (k : Int) < (N.st.length : Int) := by omega
      have hke : k = N.st.length := by omega
      subst hke
      rw [List.take_of_length_le (Nat.le_refl _)] at hnb
      obtain ⟨d0, d3⟩ := XB.out _ _ _ _ _ hnb
      have NB1 := Lib.hid hnb
      obtain ⟨s1, rfl⟩ : ∃ s1, s1 = s := ⟨_, rfl⟩
      clear hnb
      obtain ⟨wM, rfl⟩ : ∃ wM, wM = wr := ⟨_, rfl⟩
      go_wp2_with fail
      clear d0 d3
      go_loopw [41] (fun t41 wr => ∃ (k : Nat) (e4 : Value), t41 = .int .i64 k ∧ k ≤ N.ed.length ∧ NB wN base nb A K D cz0 wr s1 e4 N.st (N.ed.take k)) (fun t41 _ => N.ed.length - (intOf t41).toNat)
      case atStart => exact ⟨0, _, rfl, Nat.zero_le _, by simpa using NB1.out⟩
      case round =>
        obtain ⟨k, e4, rfl, hk, hnb⟩ := hrel
        by_cases hkn : k < N.ed.length
        · have hkn' : (k : Int) < (N.ed.length : Int) := by omega
          obtain ⟨x, hx⟩ : ∃ x, N.ed[k]? = some x := ⟨N.ed[k]'hkn, by simp⟩
          have hra := RA3.out _ _ _ _ _ hnb
          have e0' : wr.cell? ⟨q3, k * 6, none⟩ = some (.int .i64 x.src) := hra (k * 6 + 0) _ (by rw [flE_at _ _ _ hx 0 (by omega)]; rfl)
          have e1' : wr.cell? ⟨q3, k * 6 + 1, none⟩ = some (.int .i64 x.dst) := hra (k * 6 + 1) _ (by rw [flE_at _ _ _ hx 1 (by omega)]; rfl)
          have e2' : wr.cell? ⟨q3, k * 6 + 2, none⟩ = some (.int .i64 x.kind) := hra (k * 6 + 2) _ (by rw [flE_at _ _ _ hx 2 (by omega)]; rfl)
          have e3' : wr.cell? ⟨q3, k * 6 + 3, none⟩ = some (.int .i64 x.a1) := hra (k * 6 + 3) _ (by rw [flE_at _ _ _ hx 3 (by omega)]; rfl)
          have e4' : wr.cell? ⟨q3, k * 6 + 4, none⟩ = some (.int .i64 x.a2) := hra (k * 6 + 4) _ (by rw [flE_at _ _ _ hx 4 (by omega)]; rfl)
          have e5' : wr.cell? ⟨q3, k * 6 + 5, none⟩ = some (.int .i64 0) := hra (k * 6 + 5) _ (by rw [flE_at _ _ _ hx 5 (by omega)]; rfl)
          have HX := Lib.hid hx
          have hb1 := hnb.rs.blk
          have hlb := hb1.lt
          obtain ⟨v1, hv1, ho1⟩ := hnb.rs.row 4 (by simp [I2])
          have hv2 : e4 = v1 := by simpa using hv1
          subst hv2
          have HO : Hid (wr.ownsRow base 63 6 e4 (N.ed.take k).length (flE (N.ed.take k))) := Lib.hid ho1
          have y1 : wr.cell? ⟨nb, 4, none⟩ = some e4 := hb1.cell 4
          have z1 : wr.frozen? ⟨nb, 4, none⟩ = false := hb1.free 4
          have hlen : (N.ed.take k).length = k := by simp; omega
          have hcc : (k : Int) ≤ (c3 : Int) := by omega
          have HNB := Lib.hid hnb
          have hbw : base ≤ wr.heap.size := Nat.le_trans LBN.out hnb.fr.size
          obtain ⟨i6, hi6, hy0, hy1, hy2⟩ := info_parts info63
          clear hra hx hb1 hv1 ho1 hnb
          go_upto_region 11 with fail
          have bE := Blk.new wr 62 #[.int .i64 x.src, .int .i64 x.dst, .int .i64 x.kind, .int .i64 x.a1, .int .i64 x.a2, .int .i64 0]
          have kE : Kp (fun _ => True) wr (wr.alloc (.cells #[.int .i64 x.src, .int .i64 x.dst, .int .i64 x.kind, .int .i64 x.a1, .int .i64 x.a2, .int .i64 0] 62)) := Kp.alloc _ _
          have NE := Lib.hid (HNB.out.alloc (.cells #[.int .i64 x.src, .int .i64 x.dst, .int .i64 x.kind, .int .i64 x.a1, .int .i64 x.a2, .int .i64 0] 62))
          have HOE : Hid ((wr.alloc (.cells #[.int .i64 x.src, .int .i64 x.dst, .int .i64 x.kind, .int .i64 x.a1, .int .i64 x.a2, .int .i64 0] 62)).ownsRow base 63 6 e4 (N.ed.take k).length (flE (N.ed.take k))) := Lib.hid (HO.out.alloc _)
          have y2 : (wr.alloc (.cells #[.int .i64 x.src, .int .i64 x.dst, .int .i64 x.kind, .int .i64 x.a1, .int .i64 x.a2, .int .i64 0] 62)).cell? ⟨nb, 4, none⟩ = some e4 := (World.cell?_of_block (kE.blk nb hlb trivial)).trans y1
          have z2 : (wr.alloc (.cells #[.int .i64 x.src, .int .i64 x.dst, .int .i64 x.kind, .int .i64 x.a1, .int .i64 x.a2, .int .i64 0] 62)).frozen? ⟨nb, 4, none⟩ = false := NE.out.rs.blk.free 4
          obtain ⟨eb, heb⟩ : ∃ eb, eb = wr.heap.size := ⟨_, rfl⟩
          rw [← heb] at bE ⊢
          have hbE : base ≤ (wr.alloc (.cells #[.int .i64 x.src, .int .i64 x.dst, .int .i64 x.kind, .int .i64 x.a1, .int .i64 x.a2, .int .i64 0] 62)).heap.size := Nat.le_trans hbw kE.size
          generalize wr.alloc (.cells #[.int .i64 x.src, .int .i64 x.dst, .int .i64 x.kind, .int .i64 x.a1, .int .i64 x.a2, .int .i64 0] 62) = wE at bE kE NE HOE y2 z2 hbE ⊢
          have w0' : wE.cell? ⟨eb, 0, none⟩ = some (.int .i64 x.src) := bE.cell 0
          have w1' : wE.cell? ⟨eb, 1, none⟩ = some (.int .i64 x.dst) := bE.cell 1
          have w2' : wE.cell? ⟨eb, 2, none⟩ = some (.int .i64 x.kind) := bE.cell 2
          have w3' : wE.cell? ⟨eb, 3, none⟩ = some (.int .i64 x.a1) := bE.cell 3
          have w4' : wE.cell? ⟨eb, 4, none⟩ = some (.int .i64 x.a2) := bE.cell 4
          have w5' : wE.cell? ⟨eb, 5, none⟩ = some (.int .i64 0) := bE.cell 5
          have hlE := NE.out.rs.blk.lt
          clear bE kE heb y1 z1 HO hbw e0' e1' e2' e3' e4' e5'
          go_wp2_with (first | (at_builtin; refine wpList_append_lies _ rfl _ _ 30 rfl base 63 i6 _ 6 48 Tryz.underlying30 hi6 hy0 hy1 hy2 rfl (by omega) e4 (N.ed.take k).length (flE (N.ed.take k)) rfl (HOE.out.alloc _) ⟨wE.heap.size, 0, none⟩ 1 1 (edC x) rfl rfl (World.news_of_block (cs := #[.int .i64 x.src, .int .i64 x.dst, .int .i64 x.kind, .int .i64 x.a1, .int .i64 x.a2, .int .i64 0]) (t := 63) (fr := (0, 0)) (heap_alloc_new wE _)) (by simp [Value.oneCell', edC]) (by omega) (by simp [maxLen]; omega) (by omega) (by simp; omega) (wE.heap.size + 1) (by simp) ?_; intro gg cap w1 hown1 hgrow hat hlt; have k1 : Kp (fun k => some k ≠ e4.ownBlock) wE w1 := (Kp.alloc _ _).trans (Kp.grown hgrow (fun k hk => hk)); have B1 := NE.out.far (i := 4) (v := e4) (by simp [I2]) rfl k1; have c01 : w1.cell? ⟨nb, 4, none⟩ = some e4 := B1.cell 4; have f01 : w1.frozen? ⟨nb, 4, none⟩ = false := B1.free 4; have PU := Lib.hid (NE.out.put4 (x := x) hown1 k1 (hat.imp id (fun e => by omega))); clear hown1 hgrow hat hlt k1 B1))
          have et : N.ed.take (k + 1) = N.ed.take k ++ [x] := by rw [List.take_add_one, HX.out]; rfl
          refine ⟨⟨k + 1, .slice (some ⟨gg, 0, none⟩) (k + 1) cap, by simp, by omega, ?_⟩, by simp [intOf]; omega⟩
          rw [et]
          have := PU.out
          rw [hlen] at this
          exact this
        · have hkn' : ¬ (k : Int) < (N.ed.length : Int) := by omega
          have hke : k = N.ed.length := by omega
          subst hke
          rw [List.take_of_length_le (Nat.le_refl _)] at hnb
          have hb := hnb.rs.blk
          obtain ⟨v1, hv1, ho1⟩ := hnb.rs.row 1 (by simp [I2])
          have hv1' : s1 = v1 := by simpa using hv1
          subst hv1'
          obtain ⟨v4, hv4, ho4⟩ := hnb.rs.row 4 (by simp [I2])
          have hv4' : e4 = v4 := by simpa using hv4
          subst hv4'
          have ho1' : wr.ownsRow base 60 3 s1 N.st.length (flS N.st) := ho1
          have ho4' : wr.ownsRow base 63 6 e4 N.ed.length (flE N.ed) := ho4
          obtain ⟨g1, h1, rfl, _⟩ := own_form ho1' hpos0
          obtain ⟨g4, h4, rfl, _⟩ := own_form ho4' hpos3
          have hA := HAV.out
          have hK := HKV.out
          have hD := HDV.out
          subst hA hK hD
          have n0 := hb.cell 0
          have n1 := hb.cell 1
          have n2 := hb.cell 2
          have n3 := hb.cell 3
          have n4 := hb.cell 4
          have n5 := hb.cell 5
          have kb := KB.out _ _ _ _ _ hnb
          have lrb : rb < wZ0.heap.size := BRZ.out.lt
          have lrb2 : rb < w1.heap.size := Nat.lt_of_lt_of_le lrb K1.out.size
          have hbr := BRZ.out.kept ((kb.blk rb lrb2 lrb2).trans (K1.out.blk rb lrb trivial))
          have r0 := hbr.free 0
          have r1 := hbr.free 1
          have r2 := hbr.free 2
          have r3 := hbr.free 3
          have r4 := hbr.free 4
          have r5 := hbr.free 5
          have y0 := hbr.cell 0
          have y1 := hbr.cell 1
          have y2 := hbr.cell 2
          have y3 := hbr.cell 3
          have y4 := hbr.cell 4
          have y5 := hbr.cell 5
          simp at n0 n1 n2 n3 n4 n5 y0 y1 y2 y3 y4 y5
          have HBR := Lib.hid hbr
          have KBB := Lib.hid kb
          have HO1 := Lib.hid ho1'
          have HO4 := Lib.hid ho4'
          have ra1 := RA1.out _ _ _ _ _ hnb
          have ra2 := RA2.out _ _ _ _ _ hnb
          have ra4 := RA4.out _ _ _ _ _ hnb
          have RR1 := Lib.hid ra1
          have RR2 := Lib.hid ra2
          have RR4 := Lib.hid ra4
          have LRB := Lib.hid lrb
          clear ra1 ra2 ra4 hb hnb hv1 ho1 hv4 ho4 ho1' ho4' hbr kb
          go_wp2_with fail
          have b6 := (((((HBR.out.set 0 (.int .i64 0) _ rfl).set 1 (.slice (some ⟨g1, 0, none⟩) N.st.length h1) _ rfl).set 2 (.slice (some ⟨q1, 0, none⟩) ss.length c1) _ rfl).set 3 (.slice (some ⟨q2, 0, none⟩) ks.length c2) _ rfl).set 4 (.slice (some ⟨g4, 0, none⟩) N.ed.length h4) _ rfl).set 5 (.slice (some ⟨q4, 0, none⟩) N.de.length c4) #[.int .i64 0, .slice (some ⟨g1, 0, none⟩) N.st.length h1, .slice (some ⟨q1, 0, none⟩) ss.length c1, .slice (some ⟨q2, 0, none⟩) ks.length c2, .slice (some ⟨g4, 0, none⟩) N.ed.length h4, .slice (some ⟨q4, 0, none⟩) N.de.length c4] rfl
          have kz : Kp (fun j => j ≠ rb) wr ((((((wr.setCell ⟨rb, 0, none⟩ (.int .i64 0)).setCell ⟨rb, 1, none⟩ (.slice (some ⟨g1, 0, none⟩) N.st.length h1)).setCell ⟨rb, 2, none⟩ (.slice (some ⟨q1, 0, none⟩) ss.length c1)).setCell ⟨rb, 3, none⟩ (.slice (some ⟨q2, 0, none⟩) ks.length c2)).setCell ⟨rb, 4, none⟩ (.slice (some ⟨g4, 0, none⟩) N.ed.length h4)).setCell ⟨rb, 5, none⟩ (.slice (some ⟨q4, 0, none⟩) N.de.length c4)) :=
            (((((Kp.setCell _ _ _ (by simp)).trans (Kp.setCell _ _ _ (by simp))).trans (Kp.setCell _ _ _ (by simp))).trans (Kp.setCell _ _ _ (by simp))).trans (Kp.setCell _ _ _ (by simp))).trans (Kp.setCell _ _ _ (by simp))
          generalize (((((wr.setCell ⟨rb, 0, none⟩ (.int .i64 0)).setCell ⟨rb, 1, none⟩ (.slice (some ⟨g1, 0, none⟩) N.st.length h1)).setCell ⟨rb, 2, none⟩ (.slice (some ⟨q1, 0, none⟩) ss.length c1)).setCell ⟨rb, 3, none⟩ (.slice (some ⟨q2, 0, none⟩) ks.length c2)).setCell ⟨rb, 4, none⟩ (.slice (some ⟨g4, 0, none⟩) N.ed.length h4)).setCell ⟨rb, 5, none⟩ (.slice (some ⟨q4, 0, none⟩) N.de.length c4) = wF at b6 kz ⊢
          have b6c := b6.cell
          have ltz : ∀ q xs, RowAt wr q xs → wr.heap[q]? ≠ wr.heap[rb]? → RowAt wF q xs := by
            intro q xs h hne i u hu
            have h0 := h i u hu
            exact (World.cell?_of_block (kz.blk q (cell_lt h0) (fun e => hne (by rw [e])))).trans h0
          have nrb : ∀ {B sz n g cap : Nat} {T : TypeId} {xs : List Value}, wr.ownsRow B T sz (.slice (some ⟨g, 0, none⟩) n cap) n xs → T ≠ 32 → wr.heap[g]? ≠ wr.heap[rb]? := by
            intro B sz n g cap T xs ho hT e
            obtain ⟨_, hlt, cc, hcc⟩ := own_blk ho (k := g) rfl
            have hb := HBR.out
            unfold Blk at hb
            rw [e, hb] at hcc
            have ht : (32 : TypeId) = T := by injection hcc with h; injection h
            exact hT ht.symm
          have up : ∀ {B sz n g cap : Nat} {T : TypeId} {xs : List Value}, w1.ownsRow B T sz (.slice (some ⟨g, 0, none⟩) n cap) n xs → wr.ownsRow B T sz (.slice (some ⟨g, 0, none⟩) n cap) n xs := fun ho => own_kept' ho (fun j hj => KBB.out.blk j (own_blk ho hj).2.1 (own_blk ho hj).2.1)
          refine bodyPost_ret (v := .agg #[.int .i64 0, .slice (some ⟨g1, 0, none⟩) N.st.length h1, .slice (some ⟨q1, 0, none⟩) ss.length c1, .slice (some ⟨q2, 0, none⟩) ks.length c2, .slice (some ⟨g4, 0, none⟩) N.ed.length h4, .slice (some ⟨q4, 0, none⟩) N.de.length c4]) ?_ rfl ⟨⟨0, g1, N.st.length, h1, q1, ss.length, c1, q2, ks.length, c2, g4, N.ed.length, h4, q4, N.de.length, c4⟩, rfl, ?_, ?_⟩
          · simp [results, Tryz.results8, go_sem, b6c]
          · rw [← HNN.out, ← HSS.out, ← HKS.out]
            exact ⟨⟨ltz _ _ (RowAt.of HO1.out) (nrb HO1.out (by decide)), rfl, own_cap HO1.out⟩, ⟨ltz _ _ RR1.out (nrb (up O1.out) (by decide)), rfl, own_cap O1.out⟩, ⟨ltz _ _ RR2.out (nrb (up O2.out) (by decide)), rfl, own_cap O2.out⟩, ⟨ltz _ _ (RowAt.of HO4.out) (nrb HO4.out (by decide)), rfl, own_cap HO4.out⟩, ⟨ltz _ _ RR4.out (nrb (up O4.out) (by decide)), rfl, own_cap O4.out⟩⟩
          · refine ⟨SO.trans (KZ0.out.so) (SO.trans (K1.out.so) (SO.trans (KBB.out.so) (kz.so))), Nat.le_trans KZ0.out.size (Nat.le_trans K1.out.size (Nat.le_trans KBB.out.size kz.size)), fun j hj _ => ?_⟩
            have hjb : j ≠ rb := by have := HRB.out; omega
            have l0 := Nat.lt_of_lt_of_le hj KZ0.out.size
            have l1 := Nat.lt_of_lt_of_le l0 K1.out.size
            exact (kz.blk j (Nat.lt_of_lt_of_le l1 KBB.out.size) hjb).trans ((KBB.out.blk j l1 l1).trans ((K1.out.blk j l0 trivial).trans (KZ0.out.blk j hj trivial)))
end Go.Proofs
end
section
namespace Go.Proofs
open Go.RowKit
open Pl
/-! ## the numbers of a network -/
def flI (l : List Int) : List Value := l.map fun n : Int => Value.int .i32 n
def flJ (l : List Int) : List Value := l.map fun n : Int => Value.int .i64 n
def I0 : Nat → Prop := fun i => i = 0
/-- The numbers put so far. -/
def SOb (base : Nat) (w : World) (ob : Nat) (v : Value) (out : List Int) : Prop := RS (fun _ => 21) (fun _ => 1) I0 base w ob 101 #[v] (fun _ => (out.length, flI out))
def Rng (l : List Int) : Prop := ∀ x ∈ l, 0 ≤ x ∧ x < 2147483648
theorem info21 : (Tryz.prog.info? 21).map (fun i => (i.zero, i.size, i.bytes)) = some (some (.int .i32 0), 1, 4) := by kernel_rfl
def LpP (base : Nat) (w : World) (ob : Nat) (v0 : Value) (out l : List Int) (t7 : Value) (wr : World) : Prop := ∃ (k : Nat) (v : Value), t7 = .int .i64 k ∧ k ≤ l.length ∧ SOb base wr ob v (out ++ l.take k) ∧ BFr I0 w ob #[v0] wr #[v]
theorem SOb.put {base : Nat} {w0 w w1 : World} {ob gg cap n : Nat} {v v0 : Value} {out : List Int} {x : Int} (h : SOb base w ob v out) (f : BFr I0 w0 ob #[v0] w #[v]) (hn : out.length = n) (own1 : w1.ownsRow base 21 1 (.slice (some ⟨gg, 0, none⟩) (n + 1) cap) (n + 1) (flI out ++ [.int .i32 x])) (k1 : Kp (fun k => some k ≠ v.ownBlock) w w1) (hat : v.ownBlock = some gg ∨ w.heap.size ≤ gg) :
    SOb base (w1.setCell ⟨ob, 0, none⟩ (.slice (some ⟨gg, 0, none⟩) (n + 1) cap)) ob (.slice (some ⟨gg, 0, none⟩) (n + 1) cap) (out ++ [x]) ∧ BFr I0 w0 ob #[v0] (w1.setCell ⟨ob, 0, none⟩ (.slice (some ⟨gg, 0, none⟩) (n + 1) cap)) #[.slice (some ⟨gg, 0, none⟩) (n + 1) cap] := by
  subst hn
  obtain ⟨p1, p2⟩ := RS.put h (i := 0) rfl (v := v) rfl own1 k1 hat
  exact ⟨p1.congr rfl (fun i hi => by cases hi; simp [updG, flI]), f.trans p2⟩

set_option maxRecDepth 100000 in
set_option maxHeartbeats 1000000 in
theorem put_any {base : Nat} {w : World} {ob g c : Nat} {v : Value} {out l : List Int} (h : SOb base w ob v out) (hb : base ≤ w.heap.size) (hr : RowAt w g (flJ l)) (hc : l.length ≤ c) (hl : Rng l) (hm : out.length + l.length ≤ 1000000) (hg : g ≠ ob ∧ ¬ Own I0 #[v] g) :
    Calls Tryz.prog 45 #[.slice (some ⟨g, 0, none⟩) l.length c, .pointer (some ⟨ob, 0, none⟩)] w fun e w' => e = .returned (.tuple #[]) ∧ ∃ v', SOb base w' ob v' (out ++ l) ∧ BFr I0 w ob #[v] w' #[v'] := by
  have H := Lib.hid h
  have HR := Lib.hid hr
  have HL := Lib.hid hl
  have HG := Lib.hid hg
  clear h hr hl hg
  go_enter Tryz.func45, Tryz.ntmps45
  go_wp2_with fail
  go_loopw [7] (fun t7 wr => LpP base w ob v out l t7 wr) (fun t7 _ => l.length - (intOf t7).toNat)
  case atStart => exact ⟨0, v, rfl, Nat.zero_le _, by simpa using H.out, BFr.refl⟩
  case round =>
    obtain ⟨k, u, rfl, hk, hso, hfr⟩ := hrel
    by_cases hkn : k < l.length
    · have hkn' : (k : Int) < (l.length : Int) := by omega
      obtain ⟨x, hx⟩ : ∃ x, l[k]? = some x := ⟨l[k]'hkn, by simp⟩
      obtain ⟨hx0, hx1⟩ := HL.out x (List.mem_of_getElem? hx)
      have e0 : w.cell? ⟨g, k, none⟩ = some (.int .i64 x) := HR.out k _ (by simp [flJ, hx])
      have e1 : wr.cell? ⟨g, k, none⟩ = some (.int .i64 x) := (World.cell?_of_block (hfr.far g (cell_lt e0) HG.out.1 HG.out.2).1).trans e0
      have hcc : (k : Int) ≤ (c : Int) := by omega
      have hw32 : wrap32 x = x := by unfold wrap32; omega
      have y0 : wr.cell? ⟨ob, 0, none⟩ = some u := hso.blk.cell 0
      have z0 : wr.frozen? ⟨ob, 0, none⟩ = false := hso.blk.free 0
      have lob := hso.blk.lt
      obtain ⟨u', hu, ho⟩ := hso.row 0 rfl
      have hu2 : u = u' := by simpa using hu
      subst hu2
      have hlen : (out ++ l.take k).length = out.length + k := by simp; omega
      have HO : Hid (wr.ownsRow base 21 1 u (out ++ l.take k).length (flI (out ++ l.take k))) := Lib.hid ho
      have HS := Lib.hid hso
      have HF := Lib.hid hfr
      have HX := Lib.hid hx
      have hbw : base ≤ wr.heap.size := Nat.le_trans hb hfr.size
      obtain ⟨i2, hi2, hy0, hy1, hy2⟩ := info_parts info21
      clear e0 hu ho hso hfr hx
      go_wp2_with (first | (at_builtin; refine wpList_append_lies _ rfl _ _ 101 rfl base 21 i2 _ 1 4 Tryz.underlying101 hi2 hy0 hy1 hy2 rfl (by omega) u (out ++ l.take k).length (flI (out ++ l.take k)) rfl (HO.out.alloc _) ⟨wr.heap.size, 0, none⟩ 1 1 [.int .i32 x] rfl rfl (World.news_of_block (cs := #[.int .i32 x]) (t := 21) (fr := (0, 0)) (heap_alloc_new wr _)) (by simp [Value.oneCell']) (by omega) (by simp [maxLen]; omega) (by omega) (by simp; omega) (wr.heap.size + 1) (by simp) ?_; intro gg cap w1 hown1 hgrow hat hlt; have k1 : Kp (fun k => some k ≠ u.ownBlock) wr w1 := (Kp.alloc _ _).trans (Kp.grown hgrow (fun k hk => hk)); have B1 := HS.out.blk.kept (k1.blk ob HS.out.blk.lt (fun e => HS.out.nb ⟨0, u, rfl, rfl, e.symm⟩)); have c01 : w1.cell? ⟨ob, 0, none⟩ = some u := B1.cell 0; have f01 : w1.frozen? ⟨ob, 0, none⟩ = false := B1.free 0; have PU := Lib.hid (SOb.put (x := x) HS.out HF.out rfl hown1 k1 (hat.imp id (fun e => by omega))); clear hown1 hgrow hat hlt k1 B1))
      obtain ⟨p1, p2⟩ := PU.out
      rw [hlen] at p1 p2
      have et : out ++ l.take (k + 1) = out ++ l.take k ++ [x] := by rw [List.take_add_one, HX.out, List.append_assoc]; rfl
      exact ⟨⟨k + 1, _, by simp, by omega, by rw [et]; exact p1, p2⟩, by simp [intOf]; omega⟩
    · have hkn' : ¬ (k : Int) < (l.length : Int) := by omega
      have hke : k = l.length := by omega
      subst hke
      rw [List.take_of_length_le (Nat.le_refl _)] at hso
      have HS := Lib.hid hso
      have HF := Lib.hid hfr
      clear hso hfr
      go_wp2_with fail
      go_end0
      exact ⟨rfl, u, HS.out, HF.out⟩
end Go.Proofs
end
section
namespace Go.Proofs
open Go.RowKit
/-! ## a region whose last operation writes a cell that the region reads -/
section
variable {P : Program} {ops : Array Oper} {Q : Exit → Act → World → Prop} {md : Region.Mode} {S : World → Prop} {last : Nat}
/-- Whatever order is picked, and S holds behind each operation but number `last`. -/
def wpAnyX (P : Program) (md : Region.Mode) (ops : Array Oper) (Q : Exit → Act → World → Prop) (S : World → Prop) (last : Nat) : Nat → Array Bool → Act → World → Prop
  | 0, listed, a, w => Region.ready md ops listed = [] ∧ Q .normal a w
  | n + 1, listed, a, w => (Region.ready md ops listed = [] → Q .normal a w) ∧
      ∀ j ∈ Region.ready md ops listed, wpOp P ops Q j (fun a' w' => (j ≠ last → S w') ∧ wpAnyX P md ops Q S last n (listed.setIfInBounds j true) a' w') a w
theorem wpAnyX.any : ∀ (n : Nat) (listed : Array Bool) (a : Act) (w : World), wpAnyX P md ops Q S last n listed a w → wpAny P md ops Q n listed a w
  | 0, _, _, _, h => h
  | n + 1, _, _, _, h => ⟨h.1, fun j hj => wpOp_mono (fun a' w' g => wpAnyX.any n _ a' w' g.2) (h.2 j hj)⟩
/-- Number `last` waits for number i. -/
def waitsB (md : Region.Mode) (ops : Array Oper) (last i : Nat) : Bool := match ops[last]? with | some o => o.after.any fun e => Region.binds md e && e.on == i | none => true
theorem unlisted_not {listed : Array Bool} {i : Nat} (hr : i ∈ Region.ready md ops listed) : listed.getD i false = true → False := by
  intro h
  have h0 := (mem_ready.1 hr).1
  rcases Nat.lt_or_ge i listed.size with k | k
  · simp [k] at h0 h; rw [h0] at h; cases h
  · simp [Array.getElem?_eq_none k] at h
theorem not_last {listed : Array Bool} {i j : Nat} (hw : waitsB md ops last i = true) (hr : i ∈ Region.ready md ops listed) (hj : j ∈ Region.ready md ops listed) : j ≠ last := by
  rintro rfl
  obtain ⟨_, o, ho, hall⟩ := mem_ready.1 hj
  unfold waitsB at hw
  rw [ho] at hw
  obtain ⟨e, he, h2⟩ := Array.any_eq_true'.1 hw
  simp only [Bool.and_eq_true, beq_iff_eq] at h2
  have := hall e he h2.1
  rw [h2.2] at this
  exact unlisted_not hr this
theorem wpAnyX_first {i : Nat} {oi : Oper} {v : Value} (hi : ops[i]? = some oi) (hs : Region.noSelect ops = true) (hw : waitsB md ops last i = true)
    (hQ : ∀ c a w, Q (.panic c) (a.put oi.dst v) w → Q (.panic c) a w) : ∀ (n : Nat) (listed : Array Bool) (a : Act) (w : World),
      (∀ j oj, ops[j]? = some oj → j ≠ i → listed.getD j true = false → (∀ e ∈ oj.after, Region.binds md e = true → e.on ≠ i) → oi.apart ops oj = true) →
      i ∈ Region.ready md ops listed → YieldsIf P ops S oi v a → S w →
      wpAnyX P md ops Q S last n (listed.setIfInBounds i true) (a.put oi.dst v) w → wpAnyX P md ops Q S last (n + 1) listed a w := by
  have hsel := Region.noSelect_spec hs
  intro n
  induction n with
  | zero =>
    intro listed a w _ hr hy hS H
    refine ⟨fun h => absurd hr (by rw [h]; simp), fun j hj => ?_⟩
    rcases Nat.decEq j i with hji | rfl
    · exact absurd (ready_mono hj hji) (by rw [H.1]; simp)
    · exact hy.wpOp hi hS ⟨fun _ => hS, H⟩
  | succ n ih =>
    intro listed a w hf hr hy hS H
    refine ⟨fun h => absurd hr (by rw [h]; simp), fun j hj => ?_⟩
    rcases Nat.decEq j i with hji | rfl
    · obtain ⟨hun, oj, hoj, hall⟩ := mem_ready.1 hj
      have hno : ∀ e ∈ oj.after, Region.binds md e = true → e.on ≠ i := fun e he hb heq => unlisted_not hr (by rw [← heq]; exact hall e he hb)
      have step := wpOp_putIf hoj (hf j oj hoj hji hun hno) (fun cs b => hsel i oi cs b hi) (fun cs b => hsel j oj cs b hoj) hQ hy (H.2 j (ready_mono hj hji))
      refine wpOp_mono (fun a' w' g => ⟨g.2.1, ?_⟩) step
      refine ih _ a' w' (fun k ok hk hki hu hn => hf k ok hk hki ?_ hn) (ready_mono hr (Ne.symm hji)) g.1 (g.2.1 (not_last hw hr hj)) ?_
      · by_cases hjk : j = k
        · rw [← hjk]; exact hun
        · rwa [getD_set_ne true hjk] at hu
      · rw [Array.setIfInBounds_comm _ _ hji]
        exact g.2.2
    · exact hy.wpOp hi hS ⟨fun _ => hS, H⟩
/-- Number i first. -/
theorem wpAnyX_take (i : Nat) {oi : Oper} {v : Value} {n : Nat} {listed : Array Bool} {a : Act} {w : World} (hi : ops[i]? = some oi)
    (hs : Region.noSelect ops = true) (hw : waitsB md ops last i = true) (hf : Region.free md ops listed i = true) (hr : (Region.ready md ops listed).contains i = true)
    (hQ : ∀ c a w, Q (.panic c) (a.put oi.dst v) w → Q (.panic c) a w) (hS : S w) (hwant : Region.wanted oi (yielded ops a.tmps) = true) (hy : ∀ w, S w → (execOp a.eval oi).run P w = .ok (.value v) w)
    (h : wpAnyX P md ops Q S last n (listed.setIfInBounds i true) (a.put oi.dst v) w) : wpAnyX P md ops Q S last (n + 1) listed a w :=
  wpAnyX_first hi hs hw hQ n listed a w (Region.free_spec hi hf) (by simpa using hr) (.inl ⟨hwant, hy⟩) hS h
theorem drop_get {l r : List Oper} {i : Nat} {o : Oper} (h : l.drop i = o :: r) : l.toArray[i]? = some o := by
  rw [List.getElem?_toArray]
  have := congrArg (fun x => x[0]?) h
  simpa using this
/-- One alone may come up. -/
theorem wpAnyX_one (i : Nat) {o : Oper} {n : Nat} {listed : Array Bool} {a : Act} {w : World} (hr : Region.ready md ops listed = [i]) (ho : ops[i]? = some o)
    (h : ∀ K' : Act → World → Prop, Shut (∀ a w, (i ≠ last → S w) → wpAnyX P md ops Q S last n (listed.setIfInBounds i true) a w → K' a w) → if Region.wanted o (yielded ops a.tmps) = true then Oper.wp P o a w K' Q else K' (a.put o.dst undef) w) :
    wpAnyX P md ops Q S last (n + 1) listed a w :=
  ⟨fun h0 => absurd h0 (by rw [hr]; simp), fun j hj => by
    rw [hr] at hj
    obtain rfl : j = i := by simpa using hj
    exact wpOp_step ho (fun K' hK => h K' (fun a w hS hW => hK a w ⟨hS, hW⟩))⟩
theorem wpAnyX_done {n : Nat} {listed : Array Bool} {a : Act} {w : World} (hr : Region.ready md ops listed = []) (h : Q .normal a w) : wpAnyX P md ops Q S last n listed a w := by
  cases n with
  | zero => exact ⟨hr, h⟩
  | succ n => exact ⟨fun _ => h, by rw [hr]; simp⟩
theorem takeX (i : Nat) {l r : List Oper} {oi : Oper} {v : Value} {n : Nat} {listed : Array Bool} {a : Act} {w : World} (hd : l.drop i = oi :: r)
    (hs : Region.noSelect l.toArray = true) (hw : waitsB md l.toArray last i = true) (hf : Region.free md l.toArray listed i = true) (hr : (Region.ready md l.toArray listed).contains i = true)
    (hQ : ∀ c a w, Q (.panic c) (a.put oi.dst v) w → Q (.panic c) a w) (hS : S w) (hwant : Region.wanted oi (yielded l.toArray a.tmps) = true) (hy : ∀ w, S w → (execOp a.eval oi).run P w = .ok (.value v) w)
    (h : wpAnyX P md l.toArray Q S last n (listed.setIfInBounds i true) (a.put oi.dst v) w) : wpAnyX P md l.toArray Q S last (n + 1) listed a w :=
  wpAnyX_take i (drop_get hd) hs hw hf hr hQ hS hwant hy h
theorem oneX (i : Nat) {l r : List Oper} {o : Oper} {n : Nat} {listed : Array Bool} {a : Act} {w : World} (hr : Region.ready md l.toArray listed = [i]) (hd : l.drop i = o :: r)
    (h : ∀ K' : Act → World → Prop, Shut (∀ a w, (i ≠ last → S w) → wpAnyX P md l.toArray Q S last n (listed.setIfInBounds i true) a w → K' a w) → if Region.wanted o (yielded l.toArray a.tmps) = true then Oper.wp P o a w K' Q else K' (a.put o.dst undef) w) :
    wpAnyX P md l.toArray Q S last (n + 1) listed a w := wpAnyX_one i hr (drop_get hd) h
theorem wp_region_x {id : Nat} {a : Act} {w : World} (S : World → Prop) (last : Nat) (hm : P.follows .mixedOrders = true) (h : wpAnyX P .any ops Q S last ops.size (Array.replicate ops.size false) a w.drew) : (Code.region id ops true).wp P Q a w :=
  wp_region_any hm (wpAnyX.any _ _ _ _ h)
end
end Go.Proofs
end
