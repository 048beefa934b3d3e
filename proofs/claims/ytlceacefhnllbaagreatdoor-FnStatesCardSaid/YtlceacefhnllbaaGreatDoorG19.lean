/- A part of the proof of the statement on the law FnStates, which the last text proves: part G19. -/
import Derived.Test.YtlceacefhnllbaaGreatDoorG18
import Derived.Test.YtlceacefhnllbaaGreatDoorP9
set_option linter.all false
section
namespace Go.Proofs
open Go.RowKit
open Pl
/-! ## a block whose cells hold rows under construction -/
def Own (I : Nat → Prop) (c : Array Value) (j : Nat) : Prop := ∃ i v, I i ∧ c[i]? = some v ∧ v.ownBlock = some j
structure RS (ty : Nat → TypeId) (sz : Nat → Nat) (I : Nat → Prop) (base : Nat) (w : World) (bb : Nat) (T : TypeId) (c : Array Value) (G : Nat → Nat × List Value) : Prop where
  blk : Blk w bb T c
  row : ∀ i, I i → ∃ v, c[i]? = some v ∧ w.ownsRow base (ty i) (sz i) v (G i).1 (G i).2
  ne : ∀ i i' v v' j, I i → I i' → i ≠ i' → c[i]? = some v → c[i']? = some v' → v.ownBlock = some j → v'.ownBlock ≠ some j
  nb : ¬ Own I c bb
structure BFr (I : Nat → Prop) (w : World) (bb : Nat) (c : Array Value) (w' : World) (c' : Array Value) : Prop where
  so : SO w w'
  size : w.heap.size ≤ w'.heap.size
  far : ∀ j, j < w.heap.size → j ≠ bb → ¬ Own I c j → w'.heap[j]? = w.heap[j]? ∧ ¬ Own I c' j
theorem BFr.refl {I : Nat → Prop} {w : World} {bb : Nat} {c : Array Value} : BFr I w bb c w c := ⟨⟨rfl, rfl⟩, Nat.le_refl _, fun _ _ _ h => ⟨rfl, h⟩⟩
theorem BFr.trans {I : Nat → Prop} {w w1 w2 : World} {bb : Nat} {c c1 c2 : Array Value} (h : BFr I w bb c w1 c1) (k : BFr I w1 bb c1 w2 c2) : BFr I w bb c w2 c2 :=
  ⟨SO.trans (h.so) (k.so), Nat.le_trans h.size k.size, fun j hj hb ho => by
    obtain ⟨a, b⟩ := h.far j hj hb ho
    obtain ⟨a', b'⟩ := k.far j (Nat.lt_of_lt_of_le hj h.size) hb b
    exact ⟨a'.trans a, b'⟩⟩
theorem BFr.pre {I : Nat → Prop} {w w1 w2 : World} {bb : Nat} {c c2 : Array Value} (k : Kp (fun _ => True) w w1) (h : BFr I w1 bb c w2 c2) : BFr I w bb c w2 c2 :=
  ⟨SO.trans (k.so) (h.so), Nat.le_trans k.size h.size, fun j hj hb ho => by
    obtain ⟨a, b⟩ := h.far j (Nat.lt_of_lt_of_le hj k.size) hb ho
    exact ⟨a.trans (k.blk j hj trivial), b⟩⟩
theorem BFr.kp {I : Nat → Prop} {w w1 : World} {bb : Nat} {c c1 : Array Value} (h : BFr I w bb c w1 c1) : Kp (fun j => j ≠ bb ∧ ¬ Own I c j) w w1 := ⟨⟨h.so.os, h.so.out⟩, h.size, fun j hj hp => (h.far j hj hp.1 hp.2).1⟩
theorem RS.kept {ty : Nat → TypeId} {sz : Nat → Nat} {I : Nat → Prop} {base : Nat} {w w' : World} {bb : Nat} {T : TypeId} {c : Array Value} {G : Nat → Nat × List Value} (h : RS ty sz I base w bb T c G) (k : Kp (fun j => j = bb ∨ Own I c j) w w') : RS ty sz I base w' bb T c G where
  blk := h.blk.kept (k.blk _ h.blk.lt (.inl rfl))
  row := fun i hi => by
    obtain ⟨v, h1, h2⟩ := h.row i hi
    exact ⟨v, h1, own_kept' h2 (fun j hj => k.blk j (own_blk h2 hj).2.1 (.inr ⟨i, v, hi, h1, hj⟩))⟩
  ne := h.ne
  nb := h.nb
theorem RS.far {ty : Nat → TypeId} {sz : Nat → Nat} {I : Nat → Prop} {base : Nat} {w : World} {bb : Nat} {T : TypeId} {c : Array Value} {G : Nat → Nat × List Value} (h : RS ty sz I base w bb T c G) {j : Nat} (hj : j < base) : ¬ Own I c j := by
  rintro ⟨i, v, hi, h1, h2⟩
  obtain ⟨v', h1', h3⟩ := h.row i hi
  rw [h1] at h1'; cases h1'
  have := (own_blk h3 h2).1
  omega
theorem RS.new {ty : Nat → TypeId} {sz : Nat → Nat} {I : Nat → Prop} {base : Nat} {w : World} {bb : Nat} {T : TypeId} {c : Array Value} {G : Nat → Nat × List Value} (h : RS ty sz I base w bb T c G) {j : Nat} (hj : w.heap.size ≤ j) : ¬ Own I c j := by
  rintro ⟨i, v, hi, h1, h2⟩
  obtain ⟨v', h1', h3⟩ := h.row i hi
  rw [h1] at h1'; cases h1'
  have := (own_blk h3 h2).2.1
  omega
def updG (G : Nat → Nat × List Value) (i : Nat) (x : Nat × List Value) : Nat → Nat × List Value := fun j => if j = i then x else G j
theorem RS.put {ty : Nat → TypeId} {sz : Nat → Nat} {I : Nat → Prop} {base : Nat} {w w1 : World} {bb : Nat} {T : TypeId} {c : Array Value} {G : Nat → Nat × List Value} (h : RS ty sz I base w bb T c G) {i : Nat} (hi : I i) {v : Value} (hv : c[i]? = some v)
    {gg n cap : Nat} {xs : List Value} (own1 : w1.ownsRow base (ty i) (sz i) (.slice (some ⟨gg, 0, none⟩) n cap) n xs) (k1 : Kp (fun k => some k ≠ v.ownBlock) w w1) (hat : v.ownBlock = some gg ∨ w.heap.size ≤ gg) :
    RS ty sz I base (w1.setCell ⟨bb, i, none⟩ (.slice (some ⟨gg, 0, none⟩) n cap)) bb T (c.setIfInBounds i (.slice (some ⟨gg, 0, none⟩) n cap)) (updG G i (n, xs)) ∧ BFr I w bb c (w1.setCell ⟨bb, i, none⟩ (.slice (some ⟨gg, 0, none⟩) n cap)) (c.setIfInBounds i (.slice (some ⟨gg, 0, none⟩) n cap)) := by
  obtain ⟨hil, _⟩ := Array.getElem?_eq_some_iff.1 hv
  have hob : (Value.slice (some ⟨gg, 0, none⟩) n cap).ownBlock = some gg := rfl
  have own0 := h.row i hi
  obtain ⟨v0, hv0, ho0⟩ := own0
  rw [hv] at hv0; cases hv0
  have hbb : v.ownBlock ≠ some bb := fun e => h.nb ⟨i, v, hi, hv, e⟩
  have ggbb : gg ≠ bb := by
    rcases hat with hat | hat
    · exact fun e => hbb (by rw [hat, e])
    · have := h.blk.lt; omega
  have b1 : Blk w1 bb T c := h.blk.kept (k1.blk _ h.blk.lt (fun e => hbb e.symm))
  have get_i : (c.setIfInBounds i (.slice (some ⟨gg, 0, none⟩) n cap))[i]? = some (.slice (some ⟨gg, 0, none⟩) n cap) := by
    rw [Array.getElem?_setIfInBounds_self_of_lt hil]
  have get_o : ∀ i', i' ≠ i → (c.setIfInBounds i (.slice (some ⟨gg, 0, none⟩) n cap))[i']? = c[i']? := fun i' hi' => Array.getElem?_setIfInBounds_ne (fun e => hi' e.symm)
  have other : ∀ i' v' j, I i' → i' ≠ i → c[i']? = some v' → v'.ownBlock = some j → j < w.heap.size ∧ some j ≠ v.ownBlock ∧ j ≠ gg ∧ j ≠ bb := by
    intro i' v' j hI' hne hc hj
    obtain ⟨v2, hv2, ho2⟩ := h.row i' hI'
    rw [hc] at hv2; cases hv2
    have hlt := (own_blk ho2 hj).2.1
    have h1 : v.ownBlock ≠ some j := fun e => h.ne i i' v v' j hi hI' (fun e => hne e.symm) hv hc e hj
    refine ⟨hlt, fun e => h1 e.symm, fun e => ?_, fun e => h.nb ⟨i', v', hI', hc, by rw [← e]; exact hj⟩⟩
    rcases hat with hat | hat
    · exact h1 (by rw [hat, e])
    · omega
  refine ⟨⟨b1.set i _ _ rfl, fun i' hI' => ?_, ?_, ?_⟩, ⟨⟨k1.so.os, k1.so.out⟩, Nat.le_trans k1.size (by simp), fun j hj hb ho => ⟨?_, ?_⟩⟩⟩
  · by_cases e : i' = i
    · subst e
      refine ⟨_, get_i, ?_⟩
      simp only [updG, if_pos]
      refine own_kept' own1 (fun k hk => heap_setCell_other w1 _ k _ (by rw [hob] at hk; cases hk; exact ggbb))
    · obtain ⟨v', hv', ho'⟩ := h.row i' hI'
      refine ⟨v', by rw [get_o i' e]; exact hv', ?_⟩
      simp only [updG, if_neg e]
      refine own_kept' ho' (fun k hk => ?_)
      obtain ⟨a1, a2, a3, a4⟩ := other i' v' k hI' e hv' hk
      exact (heap_setCell_other w1 _ k _ a4).trans (k1.blk k a1 a2)
  · intro i1 i2 u1 u2 j hI1 hI2 hne h1 h2 h3 h4
    by_cases e1 : i1 = i
    · subst e1
      rw [get_i] at h1; cases h1
      rw [get_o i2 (fun e => hne e.symm)] at h2
      have := other i2 u2 j hI2 (fun e => hne e.symm) h2 h4
      rw [hob] at h3; cases h3
      exact this.2.2.1 rfl
    · rw [get_o i1 e1] at h1
      by_cases e2 : i2 = i
      · subst e2
        rw [get_i] at h2; cases h2
        have := other i1 u1 j hI1 e1 h1 h3
        rw [hob] at h4; cases h4
        exact this.2.2.1 rfl
      · rw [get_o i2 e2] at h2
        exact h.ne i1 i2 u1 u2 j hI1 hI2 hne h1 h2 h3 h4
  · rintro ⟨i1, u1, hI1, h1, h2⟩
    by_cases e1 : i1 = i
    · subst e1
      rw [get_i] at h1; cases h1
      rw [hob] at h2; cases h2
      exact ggbb rfl
    · rw [get_o i1 e1] at h1
      exact (other i1 u1 bb hI1 e1 h1 h2).2.2.2 rfl
  · refine (heap_setCell_other w1 _ j _ hb).trans (k1.blk j hj (fun e => ho ⟨i, v, hi, hv, e.symm⟩))
  · rintro ⟨i1, u1, hI1, h1, h2⟩
    by_cases e1 : i1 = i
    · subst e1
      rw [get_i] at h1; cases h1
      rw [hob] at h2; cases h2
      rcases hat with hat | hat
      · exact ho ⟨i1, v, hi, hv, hat⟩
      · omega
    · rw [get_o i1 e1] at h1
      exact ho ⟨i1, u1, hI1, h1, h2⟩
theorem own_set {w : World} {B : Nat} {e : TypeId} {sz n g cap i : Nat} {xs : List Value} {u : Value} (h : w.ownsRow B e sz (.slice (some ⟨g, 0, none⟩) n cap) n xs) (hi : i < n * sz) :
    (w.setCell ⟨g, i, none⟩ u).ownsRow B e sz (.slice (some ⟨g, 0, none⟩) n cap) n (xs.set i u) := by
  refine ⟨by rw [List.length_set]; exact h.1, ?_⟩
  rcases h.2 with ⟨e, _⟩ | ⟨g', cap', cur, e, h1, h2, h3, h4, h5, h6⟩
  · cases e
  · cases e
    refine .inr ⟨g, cap, cur.setIfInBounds i u, rfl, h1, heap_setCell_same w g i cur _ u h2, h3, h4, by simp [h5], ?_⟩
    rw [Array.toList_setIfInBounds, List.take_set, h6]
/-- A cell of a row is set. -/
theorem RS.setRow {ty : Nat → TypeId} {sz : Nat → Nat} {I : Nat → Prop} {base : Nat} {w : World} {bb : Nat} {T : TypeId} {c : Array Value} {G : Nat → Nat × List Value} (h : RS ty sz I base w bb T c G) {i : Nat} (hi : I i) {g n cap j : Nat} (hv : c[i]? = some (.slice (some ⟨g, 0, none⟩) n cap)) (hn : (G i).1 = n) (hj : j < n * sz i) (u : Value) :
    RS ty sz I base (w.setCell ⟨g, j, none⟩ u) bb T c (updG G i (n, (G i).2.set j u)) ∧ BFr I w bb c (w.setCell ⟨g, j, none⟩ u) c := by
  have hob : (Value.slice (some ⟨g, 0, none⟩) n cap).ownBlock = some g := rfl
  have ho : Own I c g := ⟨i, _, hi, hv, hob⟩
  have gbb : g ≠ bb := fun e => h.nb (by rw [← e]; exact ho)
  refine ⟨⟨h.blk.kept (heap_setCell_other _ _ _ _ (fun e => gbb e.symm)), fun i' hI' => ?_, h.ne, h.nb⟩, ⟨⟨rfl, rfl⟩, by simp, fun k hk hb hO => ⟨heap_setCell_other _ _ _ _ (fun e => hO (by have e' : k = g := e; rw [e']; exact ho)), hO⟩⟩⟩
  by_cases e : i' = i
  · subst e
    obtain ⟨v0, hv0, ho0⟩ := h.row i' hI'
    rw [hv] at hv0; cases hv0
    refine ⟨_, hv, ?_⟩
    simp only [updG, if_pos]
    rw [hn] at ho0
    exact own_set ho0 hj
  · obtain ⟨v', hv', ho'⟩ := h.row i' hI'
    refine ⟨v', hv', ?_⟩
    simp only [updG, if_neg e]
    refine own_kept' ho' (fun k hk => heap_setCell_other _ _ _ _ (fun e' => ?_))
    have e2 : k = g := e'
    subst e2
    exact h.ne i i' _ v' k hi hI' (fun x => e x.symm) hv hv' hob hk
/-- A cell that holds no row is set. -/
theorem RS.setCell {ty : Nat → TypeId} {sz : Nat → Nat} {I : Nat → Prop} {base : Nat} {w : World} {bb : Nat} {T : TypeId} {c : Array Value} {G : Nat → Nat × List Value} (h : RS ty sz I base w bb T c G) {i : Nat} (hi : ¬ I i) (u : Value) :
    RS ty sz I base (w.setCell ⟨bb, i, none⟩ u) bb T (c.setIfInBounds i u) G ∧ BFr I w bb c (w.setCell ⟨bb, i, none⟩ u) (c.setIfInBounds i u) := by
  have get_o : ∀ i', I i' → (c.setIfInBounds i u)[i']? = c[i']? := fun i' hi' => Array.getElem?_setIfInBounds_ne (fun e => hi (by rw [e]; exact hi'))
  have own : ∀ j, Own I (c.setIfInBounds i u) j ↔ Own I c j := by
    intro j
    constructor
    · rintro ⟨i', v, h1, h2, h3⟩
      rw [get_o i' h1] at h2
      exact ⟨i', v, h1, h2, h3⟩
    · rintro ⟨i', v, h1, h2, h3⟩
      exact ⟨i', v, h1, by rw [get_o i' h1]; exact h2, h3⟩
  refine ⟨⟨h.blk.set i _ _ rfl, fun i' hI' => ?_, ?_, fun hh => h.nb ((own bb).1 hh)⟩, ⟨⟨rfl, rfl⟩, by simp, fun j hj hb ho => ⟨heap_setCell_other _ _ _ _ hb, fun hh => ho ((own j).1 hh)⟩⟩⟩
  · obtain ⟨v, h1, h2⟩ := h.row i' hI'
    refine ⟨v, by rw [get_o i' hI']; exact h1, own_kept' h2 (fun k hk => heap_setCell_other _ _ _ _ (fun e => h.nb ⟨i', v, hI', h1, by have e' : k = bb := e; rw [← e']; exact hk⟩))⟩
  · intro i1 i2 v1 v2 j a b d e f
    rw [get_o i1 a] at e
    rw [get_o i2 b] at f
    exact h.ne i1 i2 v1 v2 j a b d e f
end Go.Proofs
end
section
namespace Go.Proofs
open Go.RowKit
open Pl
/-! ## the builder of networks -/
def stC (s : LS) : List Value := [.int .i64 s.kind, .int .i64 s.rule, .int .i64 s.arg]
def edC (e : LE) : List Value := [.int .i64 e.src, .int .i64 e.dst, .int .i64 e.kind, .int .i64 e.a1, .int .i64 e.a2, .int .i64 0]
def flS (l : List LS) : List Value := l.flatMap stC
def flE (l : List LE) : List Value := l.flatMap edC
def flN (l : List Nat) : List Value := l.map fun n : Nat => Value.int .i64 (n : Int)
def tyB : Nat → TypeId | 0 => 59 | 3 => 62 | _ => 3
def szB : Nat → Nat | 0 => 3 | 3 => 6 | _ => 1
def BB (B : Bd) (ss ks : List Nat) : Nat → Nat × List Value
  | 0 => (B.st.length, flS B.st)
  | 1 => (ss.length, flN ss)
  | 2 => (ks.length, flN ks)
  | 3 => (B.ed.length, flE B.ed)
  | _ => (B.de.length, flN B.de)
def I5 : Nat → Prop := fun i => i < 5
/-- The builder as it lies. -/
def BS (base : Nat) (w : World) (bb : Nat) (a : Nat → Value) (r : Nat) (B : Bd) (ss ks : List Nat) : Prop := RS tyB szB I5 base w bb 78 #[a 0, a 1, a 2, a 3, a 4, .int .i64 r] (BB B ss ks)
def cB (a : Nat → Value) (r : Nat) : Array Value := #[a 0, a 1, a 2, a 3, a 4, .int .i64 r]
def upA (a : Nat → Value) (i : Nat) (x : Value) : Nat → Value := fun j => if j = i then x else a j
theorem info59 : (Tryz.prog.info? 59).map (fun i => (i.zero, i.size, i.bytes)) = some (some (.agg #[.int .i64 0, .int .i64 0, .int .i64 0]), 3, 24) := by kernel_rfl
theorem info62 : (Tryz.prog.info? 62).map (fun i => (i.zero, i.size, i.bytes)) = some (some (.agg #[.int .i64 0, .int .i64 0, .int .i64 0, .int .i64 0, .int .i64 0, .int .i64 0]), 6, 48) := by kernel_rfl
theorem flS_len (l : List LS) : (flS l).length = l.length * 3 := by induction l with | nil => rfl | cons x l ih => simp only [flS, List.flatMap_cons, List.length_append, List.length_cons] at ih ⊢; rw [ih]; simp [stC]; omega
theorem RS.congr {ty : Nat → TypeId} {sz : Nat → Nat} {I : Nat → Prop} {base : Nat} {w : World} {bb : Nat} {T : TypeId} {c c' : Array Value} {G G' : Nat → Nat × List Value} (h : RS ty sz I base w bb T c G) (hc : c = c') (hg : ∀ i, I i → G i = G' i) : RS ty sz I base w bb T c' G' := by
  subst hc
  exact ⟨h.blk, fun i hi => by rw [← hg i hi]; exact h.row i hi, h.ne, h.nb⟩
/-- What a step of the builder leaves. -/
def BuT (base : Nat) (w : World) (bb : Nat) (a : Nat → Value) (r : Nat) (B' : Bd) (ss' ks' : List Nat) (w' : World) : Prop := ∃ a', BS base w' bb a' r B' ss' ks' ∧ BFr I5 w bb (cB a r) w' (cB a' r)

set_option maxRecDepth 100000 in
set_option maxHeartbeats 4000000 in
theorem state_any {base : Nat} {w : World} {bb : Nat} {a : Nat → Value} {r : Nat} {B : Bd} {ss ks : List Nat} (h : BS base w bb a r B ss ks) (k : Nat) (hm : B.st.length ≤ 1000000) (hbase : base ≤ w.heap.size) :
    Calls Tryz.prog 23 #[.pointer (some ⟨bb, 0, none⟩), .int .i64 k] w fun e w' => e = .returned (.int .i64 (B.st.length : Nat)) ∧ BuT base w bb a r (B.add r k) ss ks w' := by
  have H := Lib.hid h
  have b1 := h.blk
  have c0 : w.cell? ⟨bb, 0, none⟩ = some (a 0) := b1.cell 0
  have c5 : w.cell? ⟨bb, 5, none⟩ = some (.int .i64 r) := b1.cell 5
  have f0 : w.frozen? ⟨bb, 0, none⟩ = false := b1.free 0
  obtain ⟨v, hv, ho⟩ := h.row 0 (by simp [I5])
  have hva : a 0 = v := by simpa using hv
  subst hva
  have HO : Hid (w.ownsRow base 59 3 (a 0) B.st.length (flS B.st)) := Lib.hid ho
  obtain ⟨i5, hi5, hy0, hy1, hy2⟩ := info_parts info59
  have lb := b1.lt
  clear hv ho h b1
  go_enter Tryz.func23, Tryz.ntmps23
  go_upto_region 1 with fail
  go_region_law (first | (refine step_append_lies _ (by rfl) _ _ _ (by rfl) base 59 i5 _ 3 24 Tryz.underlying53 hi5 hy0 hy1 hy2 rfl (by omega) (a 0) B.st.length (flS B.st) (by rfl) (by first | exact (HO.out.alloc _).drew | exact (HO.out.drew).alloc _) ⟨w.heap.size, 0, none⟩ 1 1 (stC ⟨k, r, 0⟩) (by rfl) (by rfl) (World.news_of_block (cs := #[.int .i64 k, .int .i64 r, .int .i64 0]) (t := 59) (fr := (0, 0)) (heap_alloc_new w _)) (by simp [Value.oneCell', stC]) (by omega) (by simp [maxLen]; omega) (by omega) (by simp; omega) (w.heap.size + 1) (by simp) ?_; intro gg cap w1 hown1 hgrow hat hlt; have k1 : Kp (fun k => some k ≠ (a 0).ownBlock) w w1 := (by first | exact ((Kp.drew _).trans (Kp.alloc _ _)).trans (Kp.grown hgrow (fun k hk => hk)) | exact ((Kp.alloc _ _).trans (Kp.drew _)).trans (Kp.grown hgrow (fun k hk => hk))); have B1 := H.out.blk.kept (k1.blk bb H.out.blk.lt (fun e => H.out.nb ⟨0, a 0, by simp [I5], by simp, e.symm⟩)); have c01 : w1.cell? ⟨bb, 0, none⟩ = some (a 0) := B1.cell 0; have f01 : w1.frozen? ⟨bb, 0, none⟩ = false := B1.free 0; have PU := Lib.hid (H.out.put (i := 0) (by simp [I5]) (v := a 0) (by simp) hown1 k1 (hat.imp id (fun e => by omega))); have HB1 := Lib.hid B1; clear hown1 hgrow hat hlt k1 B1))
  all_goals
    have FIN : Hid (BuT base w bb a r (B.add r k) ss ks (w1.setCell ⟨bb, 0, none⟩ (.slice (some ⟨gg, 0, none⟩) (B.st.length + 1) cap))) := by
      obtain ⟨p1, p2⟩ := PU.out
      refine Lib.hid ⟨upA a 0 (.slice (some ⟨gg, 0, none⟩) (B.st.length + 1) cap), p1.congr rfl (fun i hi => ?_), p2⟩
      match i, hi with
      | 0, _ => simp [updG, BB, Bd.add, flS]
      | 1, _ => rfl
      | 2, _ => rfl
      | 3, _ => rfl
      | 4, _ => rfl
    have cF : (w1.setCell ⟨bb, 0, none⟩ (.slice (some ⟨gg, 0, none⟩) (B.st.length + 1) cap)).cell? ⟨bb, 0, none⟩ = some (.slice (some ⟨gg, 0, none⟩) (B.st.length + 1) cap) := (HB1.out.set 0 _ _ rfl).cell 0
    generalize w1.setCell ⟨bb, 0, none⟩ (.slice (some ⟨gg, 0, none⟩) (B.st.length + 1) cap) = w2 at FIN cF ⊢
    clear HB1 PU c01 f01
    go_wp2_with fail
    go_ret
    exact ⟨by simp, FIN.out⟩

set_option maxRecDepth 100000 in
set_option maxHeartbeats 4000000 in
theorem decide_any {base : Nat} {w : World} {bb : Nat} {a : Nat → Value} {r : Nat} {B : Bd} {ss ks : List Nat} (h : BS base w bb a r B ss ks) (k : Nat) (hm : B.de.length ≤ 1000000) (hbase : base ≤ w.heap.size) :
    Calls Tryz.prog 24 #[.pointer (some ⟨bb, 0, none⟩), .int .i64 k] w fun e w' => e = .returned (.tuple #[]) ∧ BuT base w bb a r (B.dec k) ss ks w' := by
  have H := Lib.hid h
  have b1 := h.blk
  have c4 : w.cell? ⟨bb, 4, none⟩ = some (a 4) := b1.cell 4
  have f4 : w.frozen? ⟨bb, 4, none⟩ = false := b1.free 4
  obtain ⟨v, hv, ho⟩ := h.row 4 (by simp [I5])
  have hva : a 4 = v := by simpa using hv
  subst hva
  have HO : Hid (w.ownsRow base 3 1 (a 4) B.de.length (flN B.de)) := Lib.hid ho
  obtain ⟨i5, hi5, hy0, hy1, hy2⟩ := info_parts info3
  have lb := b1.lt
  clear hv ho h b1
  go_enter Tryz.func24, Tryz.ntmps24
  go_wp2_with (first | (at_builtin; refine wpList_append_lies _ rfl _ _ 29 rfl base 3 i5 _ 1 8 Tryz.underlying29 hi5 hy0 hy1 hy2 rfl (by omega) (a 4) B.de.length (flN B.de) rfl (HO.out.alloc _) ⟨w.heap.size, 0, none⟩ 1 1 [.int .i64 k] rfl rfl (World.news_of_block (cs := #[.int .i64 k]) (t := 3) (fr := (0, 0)) (heap_alloc_new w _)) (by simp [Value.oneCell']) (by omega) (by simp [maxLen]; omega) (by omega) (by simp; omega) (w.heap.size + 1) (by simp) ?_; intro gg cap w1 hown1 hgrow hat hlt; have k1 : Kp (fun k => some k ≠ (a 4).ownBlock) w w1 := (Kp.alloc _ _).trans (Kp.grown hgrow (fun k hk => hk)); have B1 := H.out.blk.kept (k1.blk bb H.out.blk.lt (fun e => H.out.nb ⟨4, a 4, by simp [I5], by simp, e.symm⟩)); have c01 : w1.cell? ⟨bb, 4, none⟩ = some (a 4) := B1.cell 4; have f01 : w1.frozen? ⟨bb, 4, none⟩ = false := B1.free 4; have PU := Lib.hid (H.out.put (i := 4) (by simp [I5]) (v := a 4) (by simp) hown1 k1 (hat.imp id (fun e => by omega))); clear hown1 hgrow hat hlt k1 B1))
  go_end0
  refine ⟨rfl, upA a 4 _, PU.out.1.congr rfl (fun i hi => ?_), PU.out.2⟩
  match i, hi with
  | 0, _ => rfl
  | 1, _ => rfl
  | 2, _ => rfl
  | 3, _ => rfl
  | 4, _ => simp [updG, BB, Bd.dec, flN]

set_option maxRecDepth 100000 in
set_option maxHeartbeats 4000000 in
theorem edge_any {base : Nat} {w : World} {bb : Nat} {a : Nat → Value} {r : Nat} {B : Bd} {ss ks : List Nat} (h : BS base w bb a r B ss ks) (f t : Nat) (hm : B.ed.length ≤ 1000000) (hbase : base ≤ w.heap.size) :
    Calls Tryz.prog 26 #[.pointer (some ⟨bb, 0, none⟩), .int .i64 f, .int .i64 t] w fun e w' => e = .returned (.tuple #[]) ∧ BuT base w bb a r (B.eps f t) ss ks w' := by
  have H := Lib.hid h
  have b1 := h.blk
  have c4 : w.cell? ⟨bb, 3, none⟩ = some (a 3) := b1.cell 3
  have f4 : w.frozen? ⟨bb, 3, none⟩ = false := b1.free 3
  obtain ⟨v, hv, ho⟩ := h.row 3 (by simp [I5])
  have hva : a 3 = v := by simpa using hv
  subst hva
  have HO : Hid (w.ownsRow base 62 6 (a 3) B.ed.length (flE B.ed)) := Lib.hid ho
  obtain ⟨i5, hi5, hy0, hy1, hy2⟩ := info_parts info62
  have lb := b1.lt
  clear hv ho h b1
  go_enter Tryz.func26, Tryz.ntmps26
  go_wp2_with (first | (at_builtin; refine wpList_append_lies _ rfl _ _ 54 rfl base 62 i5 _ 6 48 Tryz.underlying54 hi5 hy0 hy1 hy2 rfl (by omega) (a 3) B.ed.length (flE B.ed) rfl (HO.out.alloc _) ⟨w.heap.size, 0, none⟩ 1 1 (edC ⟨f, t, 1, 0, 0⟩) rfl rfl (World.news_of_block (cs := #[.int .i64 f, .int .i64 t, .int .i64 1, .int .i64 0, .int .i64 0, .int .i64 0]) (t := 62) (fr := (0, 0)) (heap_alloc_new w _)) (by simp [Value.oneCell', edC]) (by omega) (by simp [maxLen]; omega) (by omega) (by simp; omega) (w.heap.size + 1) (by simp) ?_; intro gg cap w1 hown1 hgrow hat hlt; have k1 : Kp (fun k => some k ≠ (a 3).ownBlock) w w1 := (Kp.alloc _ _).trans (Kp.grown hgrow (fun k hk => hk)); have B1 := H.out.blk.kept (k1.blk bb H.out.blk.lt (fun e => H.out.nb ⟨3, a 3, by simp [I5], by simp, e.symm⟩)); have c01 : w1.cell? ⟨bb, 3, none⟩ = some (a 3) := B1.cell 3; have f01 : w1.frozen? ⟨bb, 3, none⟩ = false := B1.free 3; have PU := Lib.hid (H.out.put (i := 3) (by simp [I5]) (v := a 3) (by simp) hown1 k1 (hat.imp id (fun e => by omega))); clear hown1 hgrow hat hlt k1 B1))
  go_end0
  refine ⟨rfl, upA a 3 _, PU.out.1.congr rfl (fun i hi => ?_), PU.out.2⟩
  match i, hi with
  | 0, _ => rfl
  | 1, _ => rfl
  | 2, _ => rfl
  | 3, _ => simp [updG, BB, Bd.eps, flE]
  | 4, _ => rfl
end Go.Proofs
end
section
namespace Go.Proofs
open Go.RowKit
open Pl
/-- The builder, some steps on. -/
structure At (base : Nat) (w0 : World) (bb : Nat) (c0 : Array Value) (r : Nat) (ss ks : List Nat) (w : World) (B : Bd) : Prop where
  bs : ∃ a, BS base w bb a r B ss ks ∧ BFr I5 w0 bb c0 w (cB a r)
  le : base ≤ w0.heap.size
  lb : base ≤ bb
  lo : bb < w0.heap.size
variable {base : Nat} {w0 : World} {bb : Nat} {c0 : Array Value} {r : Nat} {ss ks : List Nat} {w : World} {B : Bd}
theorem At.size (h : At base w0 bb c0 r ss ks w B) : w0.heap.size ≤ w.heap.size := by obtain ⟨a, h1, h2⟩ := h.bs; exact h2.size
theorem At.step {w' : World} {B' : Bd} (h : At base w0 bb c0 r ss ks w B) (k : ∀ a, BS base w bb a r B ss ks → BuT base w bb a r B' ss ks w') : At base w0 bb c0 r ss ks w' B' := by
  obtain ⟨a, h1, h2⟩ := h.bs
  obtain ⟨a', h3, h4⟩ := k a h1
  exact ⟨⟨a', h3, h2.trans h4⟩, h.le, h.lb, h.lo⟩
theorem At.alloc (h : At base w0 bb c0 r ss ks w B) (o : Obj) : At base w0 bb c0 r ss ks (w.alloc o) B := by
  obtain ⟨a, h1, h2⟩ := h.bs
  exact ⟨⟨a, h1.kept (Kp.alloc _ _), h2.trans ⟨⟨rfl, rfl⟩, by simp, fun j hj _ ho => ⟨(Kp.alloc (P := fun _ => True) w o).blk j hj trivial, ho⟩⟩⟩, h.le, h.lb, h.lo⟩
theorem state_at (h : At base w0 bb c0 r ss ks w B) (k : Nat) (hm : tot B ≤ 999999) : Calls Tryz.prog 23 #[.pointer (some ⟨bb, 0, none⟩), .int .i64 k] w fun e w' => e = .returned (.int .i64 (B.st.length : Nat)) ∧ At base w0 bb c0 r ss ks w' (B.add r k) := by
  obtain ⟨a, h1, h2⟩ := h.bs
  exact (state_any h1 k (by unfold tot at hm; omega) (Nat.le_trans h.le h2.size)).mono fun e w' ⟨he, a', h3, h4⟩ => ⟨he, ⟨a', h3, h2.trans h4⟩, h.le, h.lb, h.lo⟩
theorem decide_at (h : At base w0 bb c0 r ss ks w B) (k : Nat) (hm : tot B ≤ 999999) : Calls Tryz.prog 24 #[.pointer (some ⟨bb, 0, none⟩), .int .i64 k] w fun e w' => e = .returned (.tuple #[]) ∧ At base w0 bb c0 r ss ks w' (B.dec k) := by
  obtain ⟨a, h1, h2⟩ := h.bs
  exact (decide_any h1 k (by unfold tot at hm; omega) (Nat.le_trans h.le h2.size)).mono fun e w' ⟨he, a', h3, h4⟩ => ⟨he, ⟨a', h3, h2.trans h4⟩, h.le, h.lb, h.lo⟩
theorem edge_at (h : At base w0 bb c0 r ss ks w B) (f t : Nat) (hm : tot B ≤ 999999) : Calls Tryz.prog 26 #[.pointer (some ⟨bb, 0, none⟩), .int .i64 f, .int .i64 t] w fun e w' => e = .returned (.tuple #[]) ∧ At base w0 bb c0 r ss ks w' (B.eps f t) := by
  obtain ⟨a, h1, h2⟩ := h.bs
  exact (edge_any h1 f t (by unfold tot at hm; omega) (Nat.le_trans h.le h2.size)).mono fun e w' ⟨he, a', h3, h4⟩ => ⟨he, ⟨a', h3, h2.trans h4⟩, h.le, h.lb, h.lo⟩
theorem flS_set : ∀ (l : List LS) (s e : Nat), s < l.length → flS (l.modify s fun x => { x with arg := e }) = (flS l).set (s * 3 + 2) (.int .i64 e)
  | [], s, e, h => by simp at h
  | x :: l, 0, e, _ => by simp [flS, stC]
  | x :: l, s + 1, e, h => by
    have := flS_set l s e (by simpa using h)
    unfold flS at this ⊢
    rw [List.modify_succ_cons, List.flatMap_cons, List.flatMap_cons, this, List.set_append]
    have hl : (stC x).length = 3 := rfl
    rw [hl, if_neg (by omega)]
    congr 2; omega
theorem flS_at : ∀ (l : List LS) (s : Nat) (x : LS), l[s]? = some x → ∀ i, i < 3 → (flS l)[s * 3 + i]? = (stC x)[i]?
  | [], _, _, h, _, _ => by simp at h
  | y :: l, 0, x, h, i, hi => by
    simp at h; subst h
    unfold flS
    rw [List.flatMap_cons, List.getElem?_append_left (by simp [stC]; omega)]
    simp
  | y :: l, s + 1, x, h, i, hi => by
    have := flS_at l s x (by simpa using h) i hi
    unfold flS at this ⊢
    have hl : (stC y).length = 3 := rfl
    rw [List.flatMap_cons, List.getElem?_append_right (by rw [hl]; omega), hl, ← this]
    congr 1; omega
/-- What is wanted for setting a state's end. -/
structure ArgF (base : Nat) (w0 : World) (bb : Nat) (c0 : Array Value) (r : Nat) (ss ks : List Nat) (w : World) (B : Bd) (s e g cap : Nat) (v : Value) : Prop where
  e0 : w.cell? ⟨bb, 0, none⟩ = some (.slice (some ⟨g, 0, none⟩) B.st.length cap)
  le : B.st.length ≤ cap
  cv : w.cell? ⟨g, s * 3 + 2, none⟩ = some v
  fr : w.frozen? ⟨g, s * 3 + 2, none⟩ = false
  nx : At base w0 bb c0 r ss ks (w.setCell ⟨g, s * 3 + 2, none⟩ (.int .i64 e)) (B.arg s e)
theorem At.arg (h : At base w0 bb c0 r ss ks w B) (s e : Nat) (hs : s < B.st.length) : ∃ g cap v, ArgF base w0 bb c0 r ss ks w B s e g cap v := by
  obtain ⟨a, h1, h2⟩ := h.bs
  obtain ⟨v, hv, ho⟩ := h1.row 0 (by simp [I5])
  have ho' : w.ownsRow base 59 3 v B.st.length (flS B.st) := ho
  obtain ⟨g, cap, rfl, hob⟩ := own_form ho' (by omega)
  have hc : B.st.length ≤ cap := by
    rcases ho'.2 with ⟨e, _⟩ | ⟨g', cap', cur, e, _, _, hc, _⟩
    · cases e
    · cases e; exact hc
  obtain ⟨x, hx⟩ : ∃ x, B.st[s]? = some x := ⟨B.st[s], by simp⟩
  have hcell := own_at ho' (s * 3 + 2) (.int .i64 x.arg) (by rw [flS_at _ _ _ hx 2 (by omega)]; rfl)
  have hfr : w.frozen? ⟨g, s * 3 + 2, none⟩ = false := by
    rcases ho'.2 with ⟨e, _⟩ | ⟨g', cap', cur, e, _, hb, _⟩
    · cases e
    · cases e
      have : Blk w g 59 cur := hb
      exact this.free _
  have hp := RS.setRow h1 (i := 0) (by simp [I5]) hv rfl (show s * 3 + 2 < B.st.length * 3 by omega) (.int .i64 e)
  refine ⟨g, cap, _, ⟨?_, hc, hcell, hfr, ⟨⟨a, hp.1.congr rfl (fun i hi => ?_), h2.trans hp.2⟩, h.le, h.lb, h.lo⟩⟩⟩
  · have : a 0 = .slice (some ⟨g, 0, none⟩) B.st.length cap := by simpa using hv
    rw [← this]; exact h1.blk.cell 0
  · match i, hi with
    | 0, _ => simp only [updG, if_pos, BB, Bd.arg, List.length_modify]; rw [flS_set _ _ _ hs]
    | 1, _ => rfl
    | 2, _ => rfl
    | 3, _ => rfl
    | 4, _ => rfl
theorem At.kp (h : At base w0 bb c0 r ss ks w B) {G : Nat → Nat × List Value} (h0 : RS tyB szB I5 base w0 bb 78 c0 G) : Kp (fun j => j < base) w0 w := by
  obtain ⟨a, h1, h2⟩ := h.bs
  refine ⟨⟨h2.so.os, h2.so.out⟩, h2.size, fun j hj hb => ?_⟩
  have hl := h.lb
  exact (h2.far j hj (by omega) (h0.far hb)).1
/-- A box that the builder does not own stays. -/
theorem At.box (h : At base w0 bb c0 r ss ks w B) {j : Nat} (hj : j < w0.heap.size) (hb : j ≠ bb) (ho : ¬ Own I5 c0 j) : w.heap[j]? = w0.heap[j]? := by
  obtain ⟨a, h1, h2⟩ := h.bs
  exact (h2.far j hj hb ho).1

theorem At.start {a : Nat → Value} (h : BS base w bb a r B ss ks) (h1 : base ≤ w.heap.size) (h2 : base ≤ bb) : At base w bb (cB a r) r ss ks w B := ⟨⟨a, h, BFr.refl⟩, h1, h2, h.blk.lt⟩
theorem At.fin {w1 w' : World} {a : Nat → Value} {B' : Bd} (h : At base w1 bb (cB a r) r ss ks w' B') (k : Kp (fun _ => True) w w1) : BuT base w bb a r B' ss ks w' := by
  obtain ⟨a', h1, h2⟩ := h.bs
  exact ⟨a', h1, BFr.pre k h2⟩
def MakeC (n base bb r : Nat) (ss ks : List Nat) : Prop := ∀ (op a b : Int) (subs : List Ex), szE (.mk op a b subs) ≤ n → ∀ (w : World) (va : Nat → Value) (B : Bd), BS base w bb va r B ss ks → base ≤ w.heap.size → base ≤ bb → ∀ (sl : Value) (d : Nat), lgE (.mk op a b subs) d = true → tot B + 16 * szE (.mk op a b subs) ≤ 900000 → SlQ (fun j => j < base) w sl subs →
    Calls Tryz.prog 25 #[.pointer (some ⟨bb, 0, none⟩), exV op a b sl] w fun e w' => e = .returned (.tuple #[.int .i64 ((mkE r (.mk op a b subs) B).2.1 : Nat), .int .i64 ((mkE r (.mk op a b subs) B).2.2 : Nat)]) ∧ BuT base w bb va r (mkE r (.mk op a b subs) B).1 ss ks w'
theorem make_at {n : Nat} (hM : MakeC n base bb r ss ks) (h : At base w0 bb c0 r ss ks w B) {op a b : Int} {subs : List Ex} (hz : szE (.mk op a b subs) ≤ n) {sl : Value} {d : Nat} (hg : lgE (.mk op a b subs) d = true) (ht : tot B + 16 * szE (.mk op a b subs) ≤ 900000) (hs : SlQ (fun j => j < base) w sl subs) :
    Calls Tryz.prog 25 #[.pointer (some ⟨bb, 0, none⟩), exV op a b sl] w fun e w' => e = .returned (.tuple #[.int .i64 ((mkE r (.mk op a b subs) B).2.1 : Nat), .int .i64 ((mkE r (.mk op a b subs) B).2.2 : Nat)]) ∧ At base w0 bb c0 r ss ks w' (mkE r (.mk op a b subs) B).1 := by
  obtain ⟨va, h1, h2⟩ := h.bs
  exact (hM op a b subs hz w va B h1 (Nat.le_trans h.le h2.size) h.lb sl d hg ht hs).mono fun e w' ⟨he, a', h3, h4⟩ => ⟨he, ⟨a', h3, h2.trans h4⟩, h.le, h.lb, h.lo⟩

theorem edge_i (h : At base w0 bb c0 r ss ks w B) (f t : Nat) {F T : Int} (hF : F = f) (hT : T = t) (hm : tot B ≤ 999999) : Calls Tryz.prog 26 #[.pointer (some ⟨bb, 0, none⟩), .int .i64 F, .int .i64 T] w fun e w' => e = .returned (.tuple #[]) ∧ At base w0 bb c0 r ss ks w' (B.eps f t) := by
  subst hF hT; exact edge_at h f t hm
theorem decide_i (h : At base w0 bb c0 r ss ks w B) (k : Nat) {F : Int} (hF : F = k) (hm : tot B ≤ 999999) : Calls Tryz.prog 24 #[.pointer (some ⟨bb, 0, none⟩), .int .i64 F] w fun e w' => e = .returned (.tuple #[]) ∧ At base w0 bb c0 r ss ks w' (B.dec k) := by
  subst hF; exact decide_at h k hm
theorem ExRQ.get {Q : Nat → Prop} {w : World} : ∀ (es : List Ex) (g o k : Nat) (e : Ex), ExRQ Q w g o es → es[k]? = some e → ExQ Q w g (o + k * 4) e
  | [], _, _, _, _, _, h => by simp at h
  | x :: es, g, o, 0, e, h, hk => by
    simp only [ExRQ] at h
    simp at hk; subst hk
    simpa using h.1
  | x :: es, g, o, k + 1, e, h, hk => by
    simp only [ExRQ] at h
    have := ExRQ.get es g (o + 4) k e h.2 (by simpa using hk)
    rw [show o + (k + 1) * 4 = o + 4 + k * 4 by omega]
    exact this
structure ElQ (Q : Nat → Prop) (w : World) (g o k : Nat) (op a b : Int) (sl : Value) (subs : List Ex) : Prop where
  e0 : w.cell? ⟨g, o + k * 4, none⟩ = some (.int .i64 op)
  e1 : w.cell? ⟨g, o + k * 4 + 1, none⟩ = some (.int .i64 a)
  e2 : w.cell? ⟨g, o + k * 4 + 2, none⟩ = some (.int .i64 b)
  e3 : w.cell? ⟨g, o + k * 4 + 3, none⟩ = some sl
  sub : SlQ Q w sl subs
theorem ExRQ.el {Q : Nat → Prop} {w : World} {es : List Ex} {g o k : Nat} {op a b : Int} {subs : List Ex} (h : ExRQ Q w g o es) (hk : es[k]? = some (.mk op a b subs)) : ∃ sl, ElQ Q w g o k op a b sl subs := by
  obtain ⟨_, h0, h1, h2, sl, h3, h4⟩ := (ExQ_iff _ _ _ _ _ _ _ _).1 (ExRQ.get es g o k _ h hk)
  exact ⟨sl, h0, h1, h2, h3, h4⟩
theorem SlQ.alloc {Q : Nat → Prop} {w : World} {sl : Value} {es : List Ex} (h : SlQ Q w sl es) (o : Obj) : SlQ Q (w.alloc o) sl es := h.kept (Kp.alloc _ _) (fun _ _ h => h)
theorem SlQ.at {Q : Nat → Prop} {w : World} {q : Option Addr} {n c : Nat} {es : List Ex} (h : SlQ Q w (.slice q n c) es) (hn : 0 < es.length) : ∃ g o, q = some ⟨g, o, none⟩ ∧ n = es.length ∧ es.length ≤ c ∧ ExRQ Q w g o es := by
  rcases h with ⟨q', c', e, h⟩ | ⟨g, o, c', e, h1, h2⟩
  · subst h; simp at hn
  · cases e; exact ⟨g, o, rfl, rfl, h1, h2⟩
end Go.Proofs
end
section
namespace Go.Proofs
open Go.RowKit
open Pl
variable {base : Nat} {bb : Nat} {r : Nat} {ss ks : List Nat}
set_option maxRecDepth 100000 in
set_option maxHeartbeats 4000000 in
theorem block_any {n : Nat} (hM : MakeC n base bb r ss ks) {w : World} {va : Nat → Value} {B : Bd} (h : BS base w bb va r B ss ks) (h1 : base ≤ w.heap.size) (h2 : base ≤ bb) (k : Nat) (may : Bool) (subs : List Ex) (hz : szL subs ≤ n) (d : Nat) (hl4 : subs.length ≤ 4) (hg : lgL subs d = true) (ht : tot B + 16 * szL subs + 10 ≤ 900000) (sl : Value) (hs : SlQ (fun j => j < base) w sl subs) :
    Calls Tryz.prog 32 #[.pointer (some ⟨bb, 0, none⟩), .int .i64 k, sl, .bool may] w fun e w' => e = .returned (.tuple #[.int .i64 (B.st.length : Nat), .int .i64 ((B.st.length + 1 : Nat) : Int)]) ∧ BuT base w bb va r (mkBlk r k may subs B) ss ks w' := by
  have A0 := Lib.hid (At.start h h1 h2)
  have HR := Lib.hid h
  have HM := Lib.hid hM
  have HS := Lib.hid hs
  have HG := Lib.hid hg
  obtain ⟨sq, sc, rfl⟩ := hs.form
  obtain ⟨n0, hn0⟩ : ∃ n0, n0 = B.st.length := ⟨_, rfl⟩
  obtain ⟨B2, hB2⟩ : ∃ B2, B2 = (B.add r k).add r 8 := ⟨_, rfl⟩
  have hl2 : B2.st.length = n0 + 2 := by rw [hB2, len_add, len_add, hn0]
  have ht2 : tot B2 = tot B + 2 := by rw [hB2, tot_add, tot_add]
  have hnb : n0 ≤ 900000 := by rw [hn0]; unfold tot at ht; omega
  have HB2 := Lib.hid hB2
  have HN0 := Lib.hid hn0
  have HT := Lib.hid ht
  rw [← hn0]
  clear h h1 h2 hs hg hM hB2 hn0 ht
  have hi0 : (n0 : Int) < (n0 : Int) + 2 := by omega
  go_enter Tryz.func32, Tryz.ntmps32
  go_wp2_with (first | (go_at_call 23; refine (state_at A1.out 8 (by have := HT.out; rw [tot_add]; omega)).mono ?_; rintro e w2 ⟨he, x2⟩; rw [len_add, ← HN0.out] at he; subst he; rw [← HB2.out] at x2; obtain ⟨g, cap, v, F⟩ := x2.arg n0 (n0 + 1) (by omega); have fe := F.e0; have fl := F.le; have fc := F.cv; have ff := F.fr; have A3 := Lib.hid F.nx; rw [hl2] at fe fl; clear x2 F) | (go_at_call 23; refine (state_at A0.out k (by have := HT.out; omega)).mono ?_; rintro e w1 ⟨he, x1⟩; rw [← HN0.out] at he; subst he; have A1 := Lib.hid x1; clear x1))
  have e1 : ((n0 + 1 : Nat) : Int) = (n0 : Int) + 1 := by omega
  rw [e1] at A3
  obtain ⟨B3, hB3⟩ : ∃ B3, B3 = B2.arg n0 (n0 + 1) := ⟨_, rfl⟩
  rw [← hB3] at A3
  have ht3 : tot B3 = tot B + 2 := by rw [hB3, tot_arg, ht2]
  have HB3 := Lib.hid hB3
  generalize w2.setCell ⟨g, n0 * 3 + 2, none⟩ (.int .i64 ((n0 : Int) + 1)) = w3 at A3 ⊢
  clear hB3 ht2 hl2 fe fl fc ff e1
  go_loopw [32] (fun t32 wr => ∃ j : Nat, t32 = .int .i64 j ∧ j ≤ subs.length ∧ At base w bb (cB va r) r ss ks wr (mkSubs r n0 (n0 + 1) (subs.take j) B3)) (fun t32 _ => subs.length - (intOf t32).toNat)
  case atStart => exact ⟨0, rfl, Nat.zero_le _, by simpa [mkSubs] using A3.out⟩
  case round =>
    obtain ⟨j, rfl, hj, at_⟩ := hrel
    have HA := Lib.hid at_
    have hsj := HS.out.kept (at_.kp HR.out) (fun _ _ h => h)
    have tj : tot (mkSubs r n0 (n0 + 1) (subs.take j) B3) ≤ tot B3 + 16 * szL (subs.take j) := totSubs _ _ _ _ _
    clear at_
    by_cases hjn : j < subs.length
    · have hjn' : (j : Int) < (subs.length : Int) := by omega
      obtain ⟨⟨op', a', b', s'⟩, hx⟩ : ∃ e, subs[j]? = some e := ⟨subs[j]'hjn, by simp⟩
      obtain ⟨g1, o1, rfl, _, hcl, hr⟩ := hsj.at (by omega)
      obtain ⟨sl', E⟩ := hr.el hx
      obtain ⟨sq', sc', rfl⟩ := E.sub.form
      have e0 := E.e0
      have e1 := E.e1
      have e2 := E.e2
      have e3 := E.e3
      have SB := Lib.hid E.sub
      have HZ := Lib.hid (Nat.le_trans (szL_get _ _ _ hx) hz)
      have HGE := Lib.hid (lgL_get _ _ _ _ HG.out hx)
      have hcc : (j : Int) ≤ (sc : Int) := by omega
      have hsz := szL_take _ _ _ hx
      have hszl := szL_take_le subs (j + 1)
      have HX := Lib.hid hx
      have HTE : Hid (tot (mkSubs r n0 (n0 + 1) (subs.take j) B3) + 16 * szE (.mk op' a' b' s') ≤ 900000) := Lib.hid (by have := HT.out; omega)
      clear E hr hx hsj tj hsz hszl
      generalize hBj : mkSubs r n0 (n0 + 1) (subs.take j) B3 = Bj at HA HTE
      have HBJ := Lib.hid hBj
      have HTE2 : Hid (tot (mkE r (.mk op' a' b' s') Bj).1 + 2 ≤ 900000) := Lib.hid (by have := totE r (.mk op' a' b' s') Bj; have := HTE.out; omega)
      obtain ⟨p, hp⟩ : ∃ p, p = mkE r (.mk op' a' b' s') Bj := ⟨_, rfl⟩
      have HP := Lib.hid hp
      rw [← hp] at HTE2
      clear hBj hp
      go_wp2_with (first | (go_at_call 26; refine (edge_i A6.out p.2.2 (n0 + 1) rfl (by omega) (by have := HTE2.out; rw [tot_eps]; omega)).mono ?_; rintro e w7 ⟨rfl, x7⟩; have A7 := Lib.hid x7; clear x7) | (go_at_call 26; refine (edge_i A5.out n0 p.2.1 rfl rfl (by have := HTE2.out; omega)).mono ?_; rintro e w6 ⟨rfl, x6⟩; have A6 := Lib.hid x6; clear x6) | (go_at_call 25; refine (make_at HM.out (HA.out.alloc _) HZ.out HGE.out HTE.out (SB.out.alloc _)).mono ?_; rintro e w5 ⟨rfl, x5⟩; rw [← HP.out] at x5; have A5 := Lib.hid x5; rw [← HP.out]; clear x5))
      refine ⟨⟨j + 1, by simp, by omega, ?_⟩, by simp [intOf]; omega⟩
      have et : subs.take (j + 1) = subs.take j ++ [.mk op' a' b' s'] := by rw [List.take_add_one, HX.out]; rfl
      rw [et, mkSubs_snoc, HBJ.out, ← HP.out]
      exact A7.out
    · have hjn' : ¬ (j : Int) < (subs.length : Int) := by omega
      have hje : j = subs.length := by omega
      subst hje
      rw [List.take_of_length_le (Nat.le_refl _)] at HA tj
      clear hsj
      have HTJ := Lib.hid tj
      cases may
      · go_wp2_with (first | (go_at_call 24; refine (decide_i HA.out n0 rfl (by have := HTJ.out; have := HT.out; omega)).mono ?_; rintro e w5 ⟨rfl, x5⟩; have A5 := Lib.hid x5; clear x5))
        go_ret2
        refine ⟨by simp, ?_⟩
        have := A5.out.fin Kp.rfl'
        unfold mkBlk
        rw [← HB2.out, ← HN0.out, ← HB3.out]
        simpa using this
      · go_wp2_with (first | (go_at_call 24; refine (decide_i A5.out n0 rfl (by have := HTJ.out; have := HT.out; rw [tot_eps]; omega)).mono ?_; rintro e w6 ⟨rfl, x6⟩; have A6 := Lib.hid x6; clear x6) | (go_at_call 26; refine (edge_i HA.out n0 (n0 + 1) rfl (by omega) (by have := HTJ.out; have := HT.out; omega)).mono ?_; rintro e w5 ⟨rfl, x5⟩; have A5 := Lib.hid x5; clear x5))
        go_ret2
        refine ⟨by simp, ?_⟩
        have := A6.out.fin Kp.rfl'
        unfold mkBlk
        rw [← HB2.out, ← HN0.out, ← HB3.out]
        simpa using this
end Go.Proofs
end
