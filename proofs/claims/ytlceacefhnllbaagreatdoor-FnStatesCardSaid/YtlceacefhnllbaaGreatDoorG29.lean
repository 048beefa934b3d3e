/- A part of the proof of the statement on the law FnStates, which the last text proves: part G29. -/
import Derived.Test.YtlceacefhnllbaaGreatDoorG28
set_option linter.all false
section
namespace Go.Proofs
open Go.RowKit
open Pl
/-! ## the network under way -/
def upF (f : Nat → Array Value) (s : Nat) (v : Array Value) : Nat → Array Value := fun q => if q = s then v else f q
@[simp] theorem upF_self (f : Nat → Array Value) (s : Nat) (v : Array Value) : upF f s v s = v := by simp [upF]
theorem upF_ne (f : Nat → Array Value) {s q : Nat} (v : Array Value) (h : q ≠ s) : upF f s v q = f q := by simp [upF, h]
structure GA (N : Bd) (ab : Nat) (a : Array Value) (g : DG) (A : Nat → Nat) (vs : Value) (f : Nat → Array Value) : Prop where
  a1 : g.bl 0 = some ⟨ab, 117, a⟩
  a9 : a[9]? = some vs
  sz : a.size = 10
  a2 : g.rw 0 = some ⟨156, 1, vs, N.st.length, (List.range N.st.length).map (ifA N A)⟩
  st : ∀ s, s < N.st.length → g.bl (2 * s + 1) = some ⟨A s, bTy (N.kind s), f s⟩
theorem GA.set {N : Bd} {ab : Nat} {a : Array Value} {g : DG} {A : Nat → Nat} {vs : Value} {f : Nat → Array Value} (h : GA N ab a g A vs f) {s : Nat} (j : Nat) (v : Value) :
    GA N ab a (g.setB (2 * s + 1) ⟨A s, bTy (N.kind s), (f s).setIfInBounds j v⟩) A vs (upF f s ((f s).setIfInBounds j v)) where
  a1 := by rw [DG.setB_bl, upO_ne _ _ (by omega)]; exact h.a1
  a9 := h.a9
  sz := h.sz
  a2 := h.a2
  st := fun q hq => by
    rw [DG.setB_bl]
    by_cases e : q = s
    · subst e; rw [upO_self, upF_self]
    · rw [upO_ne _ _ (by omega), h.st q hq, upF_ne _ _ e]
theorem GA.setA {N : Bd} {ab : Nat} {a : Array Value} {g : DG} {A : Nat → Nat} {vs : Value} {f : Nat → Array Value} (h : GA N ab a g A vs f) {j : Nat} (hj : j ≠ 9) (v : Value) :
    GA N ab (a.setIfInBounds j v) (g.setB 0 ⟨ab, 117, a.setIfInBounds j v⟩) A vs f where
  a1 := by rw [DG.setB_bl, upO_self]
  a9 := by rw [Array.getElem?_setIfInBounds_ne hj]; exact h.a9
  sz := by simp [h.sz]
  a2 := h.a2
  st := fun q hq => by rw [DG.setB_bl, upO_ne _ _ (by omega), h.st q hq]
theorem GA.row {N : Bd} {ab : Nat} {a : Array Value} {g g' : DG} {A : Nat → Nat} {vs : Value} {f : Nat → Array Value} (h : GA N ab a g A vs f) (h1 : g'.bl = g.bl) (h2 : g'.rw 0 = g.rw 0) : GA N ab a g' A vs f where
  a1 := by rw [h1]; exact h.a1
  a9 := h.a9
  sz := h.sz
  a2 := by rw [h2]; exact h.a2
  st := fun q hq => by rw [h1]; exact h.st q hq
def nC (k : Nat) : Nat := 7 + (sXt k).length
theorem upF_at (f : Nat → Array Value) (s q j c : Nat) (v : Value) (h : ¬ (q = s ∧ c = j)) : (upF f s ((f s).setIfInBounds j v) q)[c]? = (f q)[c]? := by
  by_cases e : q = s
  · subst e
    rw [upF_self, Array.getElem?_setIfInBounds_ne (fun e => h ⟨rfl, e.symm⟩)]
  · rw [upF_ne _ _ e]
/-- What stays of the states' cells. -/
structure Cs (N : Bd) (A : Nat → Nat) (f : Nat → Array Value) : Prop where
  sz : ∀ s, s < N.st.length → (f s).size = nC (N.kind s)
  ri : ∀ s, s < N.st.length → (f s)[3]? = some (.int .i64 (lsA N s).rule)
  sn : ∀ s, s < N.st.length → (f s)[4]? = some (.int .i64 s)
  c8 : ∀ s, s < N.st.length → kTy (N.kind s) ∈ dcTypes ∨ N.kind s = 2 → (f s)[8]? = some (.bool false)
  c10 : ∀ s, s < N.st.length → N.kind s = 10 → (f s)[10]? = some (.bool false)
  le7 : ∀ s, s < N.st.length → N.kind s = 12 → (f s)[7]? = some (ifA N A (lsA N s).arg)
  b9 : ∀ s, s < N.st.length → isB N s = true → (f s)[9]? = some (.pointer (some ⟨A (lsA N s).arg, 0, none⟩))
theorem Cs.set {N : Bd} {A : Nat → Nat} {f : Nat → Array Value} (h : Cs N A f) {s j : Nat} (v : Value) (hp : j = 2 ∨ j = 6 ∨ (j = 7 ∧ N.kind s ≠ 12) ∨ (j = 9 ∧ isB N s = false) ∨ (j = 10 ∧ N.kind s ≠ 10)) : Cs N A (upF f s ((f s).setIfInBounds j v)) where
  sz := fun q hq => by
    by_cases e : q = s
    · subst e; rw [upF_self, Array.size_setIfInBounds, h.sz q hq]
    · rw [upF_ne _ _ e, h.sz q hq]
  ri := fun q hq => by rw [upF_at _ _ _ _ _ _ (by omega), h.ri q hq]
  sn := fun q hq => by rw [upF_at _ _ _ _ _ _ (by omega), h.sn q hq]
  c8 := fun q hq hk => by rw [upF_at _ _ _ _ _ _ (by omega), h.c8 q hq hk]
  c10 := fun q hq hk => by
    rw [upF_at _ _ _ _ _ _ (by rintro ⟨rfl, rfl⟩; omega), h.c10 q hq hk]
  le7 := fun q hq hk => by
    rw [upF_at _ _ _ _ _ _ (by rintro ⟨rfl, rfl⟩; omega), h.le7 q hq hk]
  b9 := fun q hq hk => by
    rw [upF_at _ _ _ _ _ _ (by
      rintro ⟨rfl, rfl⟩
      rcases hp with h | h | h | h | h
      · omega
      · omega
      · omega
      · rw [h.2] at hk; cases hk
      · omega), h.b9 q hq hk]
theorem kd_cases {k : Nat} (h1 : 1 ≤ k) (h2 : k ≤ 12) {P : Nat → Prop} (h : P 1 ∧ P 2 ∧ P 3 ∧ P 4 ∧ P 5 ∧ P 6 ∧ P 7 ∧ P 8 ∧ P 9 ∧ P 10 ∧ P 11 ∧ P 12) : P k := by
  have hk : k = 1 ∨ k = 2 ∨ k = 3 ∨ k = 4 ∨ k = 5 ∨ k = 6 ∨ k = 7 ∨ k = 8 ∨ k = 9 ∨ k = 10 ∨ k = 11 ∨ k = 12 := by omega
  obtain ⟨a1, a2, a3, a4, a5, a6, a7, a8, a9, a10, a11, a12⟩ := h
  rcases hk with rfl | rfl | rfl | rfl | rfl | rfl | rfl | rfl | rfl | rfl | rfl | rfl <;> assumption
theorem sC_size (k : Nat) (v : Value) (r n : Int) : (sC k v r n).size = nC k := by simp [sC, nC]; omega
theorem sC_low (k : Nat) (v : Value) (r n : Int) (i : Nat) (hi : i < 7) : (sC k v r n)[i]? = ([.pointer none, v, .bool false, .int .i64 r, .int .i64 n, .int .i64 k, .slice none 0 0] : List Value)[i]? := by
  unfold sC
  rw [List.getElem?_toArray, List.getElem?_append_left (by simpa using hi)]
theorem sC_high (k : Nat) (v : Value) (r n : Int) (i : Nat) : (sC k v r n)[7 + i]? = (sXt k)[i]? := by
  unfold sC
  rw [List.getElem?_toArray, List.getElem?_append_right (by simp)]
  simp
theorem c2s_low (N : Bd) (A : Nat → Nat) (ab s i : Nat) (hi : i < 7) : (c2s N A ab s)[i]? = (cBs N ab s)[i]? := by
  unfold c2s
  split
  · rw [Array.getElem?_setIfInBounds_ne (by omega)]
  · split
    · rw [Array.getElem?_setIfInBounds_ne (by omega)]
    · rfl
theorem c2s_init {N : Bd} (ko : KOk N) (A : Nat → Nat) (ab : Nat) : Cs N A (c2s N A ab) ∧ (∀ s, s < N.st.length → (c2s N A ab s)[2]? = some (.bool false) ∧ (c2s N A ab s)[6]? = some (.slice none 0 0)) := by
  refine ⟨⟨fun s hs => ?_, fun s hs => ?_, fun s hs => ?_, fun s hs hk => ?_, fun s hs hk => ?_, fun s hs hk => ?_, fun s hs hk => ?_⟩, fun s hs => ⟨?_, ?_⟩⟩
  · have : (cBs N ab s).size = nC (N.kind s) := sC_size _ _ _ _
    unfold c2s
    split
    · simpa using this
    · split <;> simpa using this
  · rw [c2s_low _ _ _ _ _ (by omega)]; unfold cBs; rw [sC_low _ _ _ _ _ (by omega)]; rfl
  · rw [c2s_low _ _ _ _ _ (by omega)]; unfold cBs; rw [sC_low _ _ _ _ _ (by omega)]; rfl
  · have e : (cBs N ab s)[8]? = some (.bool false) := by
      unfold cBs
      rw [show (8 : Nat) = 7 + 1 from rfl, sC_high]
      have := ko.kd s hs
      revert hk
      generalize N.kind s = q at this ⊢
      exact kd_cases (P := fun q => kTy q ∈ dcTypes ∨ q = 2 → (sXt q)[1]? = some (.bool false)) this.1 this.2 (by
        refine ⟨?_, ?_, ?_, ?_, ?_, ?_, ?_, ?_, ?_, ?_, ?_, ?_⟩ <;> first | (intro; rfl) | (intro h; exact absurd h (by decide)))
    unfold c2s
    split
    · rw [Array.getElem?_setIfInBounds_ne (by omega), e]
    · split
      · rw [Array.getElem?_setIfInBounds_ne (by omega), e]
      · exact e
  · have hb : isB N s = false := by simp [isB, hk]
    unfold c2s
    rw [if_neg (by omega), if_neg (by simp [hb])]
    unfold cBs
    rw [hk]; rfl
  · unfold c2s
    rw [if_pos hk]
    rw [Array.getElem?_setIfInBounds_self_of_lt]
    unfold cBs; rw [sC_size, hk]; decide
  · have h12 : N.kind s ≠ 12 := by intro e; simp [isB, e] at hk
    unfold c2s
    rw [if_neg h12, if_pos hk, Array.getElem?_setIfInBounds_self_of_lt]
    unfold cBs; rw [sC_size]
    unfold isB at hk
    simp only [Bool.or_eq_true, beq_iff_eq] at hk
    rcases hk with (h | h) | h <;> rw [h] <;> decide
  · rw [c2s_low _ _ _ _ _ (by omega)]; unfold cBs; rw [sC_low _ _ _ _ _ (by omega)]; rfl
  · rw [c2s_low _ _ _ _ _ (by omega)]; unfold cBs; rw [sC_low _ _ _ _ _ (by omega)]; rfl
end Go.Proofs
end
section
namespace Go.Proofs
open Go.RowKit
open Pl
/-! ## the rules are read -/
structure ROk (N : Bd) (rs : List (Nat × Nat)) : Prop where
  st : ∀ (j : Nat) (x : Nat × Nat), rs[j]? = some x → x.1 < N.st.length ∧ N.kind x.1 = 2
  rule : ∀ s, s < N.st.length → (lsA N s).rule < rs.length
  has : ∀ s, s < N.st.length → N.kind s = 2 → ∃ p, p < N.st.length ∧ N.kind p = 7 ∧ ∃ x : Nat × Nat, rs[(lsA N p).rule]? = some x ∧ x.1 = s
  few : rs.length ≤ 1000
def RowIs (g : DG) (a : Array Value) (cell row e n : Nat) (p : List Value → Prop) : Prop := ∃ q c x, a[cell]? = some (.slice (some ⟨q, 0, none⟩) n c) ∧ g.rw row = some ⟨e, 1, .slice (some ⟨q, 0, none⟩) n c, n, x⟩ ∧ p x
theorem RowIs.of {g g' : DG} {a a' : Array Value} {cell row e n : Nat} {p p' : List Value → Prop} (h : RowIs g a cell row e n p) (h1 : g'.rw row = g.rw row) (h2 : a'[cell]? = a[cell]?) (h3 : ∀ x, p x → p' x) : RowIs g' a' cell row e n p' := by
  obtain ⟨q, c, x, a1, a2, a3⟩ := h
  exact ⟨q, c, x, h2.trans a1, h1.trans a2, h3 x a3⟩
def P2 (A : Nat → Nat) (rs : List (Nat × Nat)) (i : Nat) (x : List Value) : Prop := ∀ (j : Nat) (y : Nat × Nat), j < i → rs[j]? = some y → x[j]? = some (.pointer (some ⟨A y.1, 0, none⟩))
def P4 (n : Nat) (x : List Value) : Prop := ∀ j, j < n → ∃ z : Int, x[j]? = some (.int .i64 z)
def LpR1 (N : Bd) (rs : List (Nat × Nat)) (ab : Nat) (a : Array Value) (k : DK) (R : List Int) (A : Nat → Nat) (vs : Value) (f : Nat → Array Value) (t : Value) (w : World) : Prop := ∃ i g, t = .int .i64 (i : Nat) ∧ i ≤ rs.length ∧ DM k g w ((rs.drop i).flatMap serR ++ R) ∧ GA N ab a g A vs f ∧ RowIs g a 6 2 268 rs.length (P2 A rs i) ∧ RowIs g a 8 4 3 rs.length (P4 rs.length)
/-- The stops seen so far are told at their rules' starts. -/
structure St7 (N : Bd) (rs : List (Nat × Nat)) (i : Nat) (f0 f : Nat → Array Value) : Prop where
  one : ∀ p, p < i → N.kind p = 7 → ∀ x : Nat × Nat, rs[(lsA N p).rule]? = some x → ∃ u, (f x.1)[7]? = some (.iface 269 (.pointer (some u)))
  same : ∀ s c, ¬ (N.kind s = 2 ∧ c = 7) → (f s)[c]? = (f0 s)[c]?
def LpR2 (N : Bd) (rs : List (Nat × Nat)) (ab : Nat) (a : Array Value) (k : DK) (R : List Int) (A : Nat → Nat) (vs : Value) (f0 : Nat → Array Value) (t : Value) (w : World) : Prop := ∃ i g f, t = .int .i64 (i : Nat) ∧ i ≤ N.st.length ∧ DM k g w R ∧ GA N ab a g A vs f ∧ Cs N A f ∧ RowIs g a 6 2 268 rs.length (P2 A rs rs.length) ∧ RowIs g a 8 4 3 rs.length (P4 rs.length) ∧ RowIs g a 7 3 269 rs.length (fun _ => True) ∧ St7 N rs i f0 f
def RdRu (N : Bd) (rs : List (Nat × Nat)) (ab : Nat) (a : Array Value) (k : DK) (R : List Int) (A : Nat → Nat) (vs : Value) (f0 : Nat → Array Value) (e : Ending) (w' : World) : Prop := e = .returned (.tuple #[]) ∧ ∃ g a' f, DM k g w' R ∧ GA N ab a' g A vs f ∧ Cs N A f ∧ RowIs g a' 6 2 268 rs.length (P2 A rs rs.length) ∧ RowIs g a' 8 4 3 rs.length (P4 rs.length) ∧ RowIs g a' 7 3 269 rs.length (fun _ => True) ∧ St7 N rs N.st.length f0 f ∧ (∀ j, j ≠ 6 → j ≠ 7 → j ≠ 8 → a'[j]? = a[j]?)
theorem info268 : (Tryz.prog.info? 268).map (fun i => (i.zero, i.size, i.bytes)) = some (some (.pointer none), 1, 8) := by kernel_rfl
theorem info269 : (Tryz.prog.info? 269).map (fun i => (i.zero, i.size, i.bytes)) = some (some (.pointer none), 1, 8) := by kernel_rfl
theorem madeCells_at {z : Array Value} {v : Value} (hz : z = #[v]) (n j : Nat) (hj : j < n) : (madeCells z n).toList[j]? = some v := by
  subst hz
  unfold madeCells
  rw [Array.getElem?_toList, Array.getElem?_map]
  simp [hj, Nat.mod_one]
theorem drop_serR {rs : List (Nat × Nat)} {n : Nat} {x : Nat × Nat} (h : rs[n]? = some x) : (rs.drop n).flatMap serR = (x.1 : Int) :: (x.2 : Int) :: (rs.drop (n + 1)).flatMap serR := by
  obtain ⟨hl, rfl⟩ := List.getElem?_eq_some_iff.1 h
  rw [List.drop_eq_getElem_cons hl, List.flatMap_cons]
  rfl
theorem made_row {k : DK} {g : DG} {w : World} {rest : List Int} (h : DM k g w rest) {N : Bd} {ab : Nat} {a : Array Value} {A : Nat → Nat} {vs : Value} {f : Nat → Array Value} (ga : GA N ab a g A vs f) {cell row : Nat} (hc : cell < 10) (hc9 : cell ≠ 9) (hr : row ≠ 0) {e : TypeId} {v : Value} (n : Nat) (hn : n ≤ 1000000) :
    ∃ g', DM k g' ((w.alloc (.cells (madeCells #[v] n) e)).setCell ⟨ab, cell, none⟩ (.slice (some ⟨w.heap.size, 0, none⟩) n n)) rest ∧ GA N ab (a.setIfInBounds cell (.slice (some ⟨w.heap.size, 0, none⟩) n n)) g' A vs f ∧ RowIs g' (a.setIfInBounds cell (.slice (some ⟨w.heap.size, 0, none⟩) n n)) cell row e n (fun x => ∀ j, j < n → x[j]? = some v) ∧ ∀ i, i ≠ row → g'.rw i = g.rw i := by
  have h1 := h.made row (e := e) (sz := 1) (n := n) (c := n) (madeCells #[v] n) (by rw [size_madeCells, Nat.mul_one]) (Nat.le_refl _) (by simp [maxLen]; omega)
  have g1 : GA N ab a ((g.tag w.heap.size (.row row)).setR row ⟨e, 1, .slice (some ⟨w.heap.size, 0, none⟩) n n, n, (madeCells #[v] n).toList.take (n * 1)⟩) A vs f := ga.row rfl (by rw [DG.setR_rw, upO_ne _ _ (fun e => hr e.symm)]; rfl)
  refine ⟨_, h1.set g1.a1 cell (.slice (some ⟨w.heap.size, 0, none⟩) n n), g1.setA hc9 _, ⟨w.heap.size, n, _, ?_, by rw [DG.setB_rw, DG.setR_rw, upO_self], fun j hj => ?_⟩, fun i hi => ?_⟩
  · rw [Array.getElem?_setIfInBounds_self_of_lt (by rw [ga.sz]; exact hc)]
  · rw [List.getElem?_take_of_lt (by omega)]
    exact madeCells_at rfl n j hj
  · rw [DG.setB_rw, DG.setR_rw, upO_ne _ _ hi]; rfl
theorem own_free {w : World} {B : Nat} {e : TypeId} {sz n g cap : Nat} {xs : List Value} (h : w.ownsRow B e sz (.slice (some ⟨g, 0, none⟩) n cap) n xs) {i : Nat} (_hi : i < n * sz) : w.frozen? ⟨g, i, none⟩ = false := by
  obtain ⟨_, _, c, hc⟩ := own_blk h (show (Value.slice (some ⟨g, 0, none⟩) n cap).ownBlock = some g from rfl)
  exact Blk.free (show Blk w g e c from hc) i
theorem kTy_ne7 {k : Nat} (h1 : 1 ≤ k) (h2 : k ≤ 12) (h : k ≠ 7) : kTy k ≠ 269 := by
  revert h
  exact kd_cases (P := fun k => k ≠ 7 → kTy k ≠ 269) h1 h2 (by refine ⟨?_, ?_, ?_, ?_, ?_, ?_, ?_, ?_, ?_, ?_, ?_, ?_⟩ <;> decide)
theorem taRS (a : Addr) (w : World) : (Instr.typeAssert (.iface 268 (.pointer (some a))) 156 268 false).run Tryz.prog w = .ok (.pointer (some a)) w := by kernel_rfl

set_option maxRecDepth 100000 in
set_option maxHeartbeats 1000000 in
theorem rdru_any {N : Bd} {rs : List (Nat × Nat)} (ko : KOk N) (ro : ROk N rs) {k : DK} {g : DG} {w : World} {R : List Int} {ab : Nat} {a : Array Value} {A : Nat → Nat} {vs : Value} {f : Nat → Array Value} (h : DM k g w ((rs.length : Int) :: (rs.flatMap serR ++ R))) (ga : GA N ab a g A vs f) (cs : Cs N A f) (ha1 : a[1]? = some (.int .i64 0)) :
    Calls Tryz.prog 65 #[.pointer (some ⟨k.db, 0, none⟩), .pointer (some ⟨ab, 0, none⟩)] w fun e w' => RdRu N rs ab a k R A vs f e w' := by
  have D := Lib.hid h
  have G := Lib.hid ga
  have C := Lib.hid cs
  have KO := Lib.hid ko
  have RO := Lib.hid ro
  have hfew := ko.few
  have hfr := ro.few
  have hsz := ga.sz
  obtain ⟨i1, hi1, hx0, hx1, hx2⟩ := info_parts info3
  obtain ⟨i2, hi2, hy0, hy1, hy2⟩ := info_parts info268
  obtain ⟨i3, hi3, hz0, hz1, hz2⟩ := info_parts info269
  have m1 := fun W => mk_row (P := Tryz.prog) 29 3 i1 _ Tryz.underlying29 hi1 hx0 rs.length rs.length rs.length rfl (Nat.le_refl _) (by rw [hx2]; omega) (by omega) W
  have m2 := fun W => mk_row (P := Tryz.prog) 113 268 i2 _ Tryz.underlying113 hi2 hy0 rs.length rs.length rs.length rfl (Nat.le_refl _) (by rw [hy2]; omega) (by omega) W
  have m3 := fun W => mk_row (P := Tryz.prog) 114 269 i3 _ Tryz.underlying114 hi3 hz0 rs.length rs.length rs.length rfl (Nat.le_refl _) (by rw [hz2]; omega) (by omega) W
  obtain ⟨x8, h8⟩ : ∃ x, a[8]? = some x := ⟨a[8]'(by omega), by simp⟩
  obtain ⟨x6, h6⟩ : ∃ x, a[6]? = some x := ⟨a[6]'(by omega), by simp⟩
  clear h ga cs ko ro
  go_enter Tryz.func65, Tryz.ntmps65
  go_upto_region 3 with (first | (go_at_call 92; refine (rdd_any D.out).mono ?_; rintro e w1 ⟨rfl, hd⟩; replace D := Lib.hid hd; clear hd; have b0 : Blk w1 ab 117 a := (D.out.bl 0 _ G.out.a1).1; have c1 : w1.cell? ⟨ab, 1, none⟩ = some (.int .i64 0) := (b0.cell 1).trans ha1; have q8 : ∀ o, (w1.alloc o).cell? ⟨ab, 8, none⟩ = some x8 := (fun o => ((b0.alloc o).cell 8).trans h8); have q8f : ∀ o, (w1.alloc o).frozen? ⟨ab, 8, none⟩ = false := (fun o => (b0.alloc o).free 8); clear b0))
  obtain ⟨g2, hd2, hg2, hr2, hw2⟩ := made_row D.out G.out (cell := 8) (row := 4) (by omega) (by omega) (by omega) (e := 3) (v := .int .i64 0) rs.length (by omega)
  clear D m1 q8 q8f c1
  replace G := Lib.hid hg2
  have D := Lib.hid hd2
  generalize (w1.alloc (.cells (madeCells #[.int .i64 0] rs.length) 3)).setCell ⟨ab, 8, none⟩ (.slice (some ⟨w1.heap.size, 0, none⟩) rs.length rs.length) = w2 at D ⊢
  clear hd2 hg2 h8
  generalize ha2 : a.setIfInBounds 8 (.slice (some ⟨w1.heap.size, 0, none⟩) rs.length rs.length) = a2 at *
  have ha21 : a2[1]? = some (.int .i64 0) := by rw [← ha2, Array.getElem?_setIfInBounds_ne (by omega)]; exact ha1
  have h62 : a2[6]? = some x6 := by rw [← ha2, Array.getElem?_setIfInBounds_ne (by omega)]; exact h6
  have R4 := Lib.hid hr2
  have b2 : Blk w2 ab 117 a2 := (D.out.bl 0 _ G.out.a1).1
  have q6 : ∀ o, (w2.alloc o).cell? ⟨ab, 6, none⟩ = some x6 := fun o => ((b2.alloc o).cell 6).trans h62
  have q6f : ∀ o, (w2.alloc o).frozen? ⟨ab, 6, none⟩ = false := fun o => (b2.alloc o).free 6
  clear b2 hr2 h6
  go_upto_region 5 with fail
  obtain ⟨g3, hd3, hg3, hr3, hw3⟩ := made_row D.out G.out (cell := 6) (row := 2) (by omega) (by omega) (by omega) (e := 268) (v := .pointer none) rs.length (by omega)
  clear D m2 q6 q6f h62
  have R4' : RowIs g3 (a2.setIfInBounds 6 (.slice (some ⟨w2.heap.size, 0, none⟩) rs.length rs.length)) 8 4 3 rs.length (P4 rs.length) := R4.out.of (hw3 4 (by omega)) (Array.getElem?_setIfInBounds_ne (by omega)) (fun x hx j hj => ⟨0, hx j hj⟩)
  have L0 : LpR1 N rs ab (a2.setIfInBounds 6 (.slice (some ⟨w2.heap.size, 0, none⟩) rs.length rs.length)) k R A vs f (.int .i64 0) ((w2.alloc (.cells (madeCells #[.pointer none] rs.length) 268)).setCell ⟨ab, 6, none⟩ (.slice (some ⟨w2.heap.size, 0, none⟩) rs.length rs.length)) :=
    ⟨0, g3, rfl, Nat.zero_le _, hd3, hg3, hr3.of rfl rfl (fun x _ j y hj => by omega), R4'⟩
  have HL0 := Lib.hid L0
  have hs3 : (a2.setIfInBounds 6 (.slice (some ⟨w2.heap.size, 0, none⟩) rs.length rs.length)).size = 10 := hg3.sz
  generalize (w2.alloc (.cells (madeCells #[.pointer none] rs.length) 268)).setCell ⟨ab, 6, none⟩ (.slice (some ⟨w2.heap.size, 0, none⟩) rs.length rs.length) = w3 at HL0 ⊢
  clear hd3 hg3 hr3 hw3 L0 R4 R4' G
  generalize ha3 : a2.setIfInBounds 6 (.slice (some ⟨w2.heap.size, 0, none⟩) rs.length rs.length) = a3 at *
  have ha31 : a3[1]? = some (.int .i64 0) := by rw [← ha3, Array.getElem?_setIfInBounds_ne (by omega)]; exact ha21
  have ha3o : ∀ j, j ≠ 6 → j ≠ 8 → a3[j]? = a[j]? := fun j h6 h8 => by rw [← ha3, Array.getElem?_setIfInBounds_ne (fun e => h6 e.symm), ← ha2, Array.getElem?_setIfInBounds_ne (fun e => h8 e.symm)]
  have HA3 := Lib.hid ha3o
  clear ha3o ha3 ha2 ha1 ha21 hsz
  go_loopw [35] (fun t35 wr => LpR1 N rs ab a3 k R A vs f t35 wr) (fun t35 _ => rs.length - (intOf t35).toNat)
  case atStart => exact HL0.out
  case round =>
    clear HL0
    obtain ⟨i, gi, rfl, hi, hd, hg, hr2, hr4⟩ := hrel
    by_cases hil : i < rs.length
    · have hil' : (i : Int) < (rs.length : Int) := by omega
      obtain ⟨x, hx⟩ : ∃ x, rs[i]? = some x := ⟨rs[i]'hil, by simp⟩
      obtain ⟨hx1, hx2'⟩ := RO.out.st i x hx
      rw [drop_serR hx] at hd
      have D : Hid (DM k gi wr ((x.1 : Int) :: (x.2 : Int) :: ((rs.drop (i + 1)).flatMap serR ++ R))) := Lib.hid (by simpa using hd)
      have G := Lib.hid hg
      obtain ⟨q2, c2, x2, h26, h2r, h2p⟩ := hr2
      obtain ⟨q4, c4, x4, h48, h4r, h4p⟩ := hr4
      have H2r := Lib.hid h2r
      have H4r := Lib.hid h4r
      have o2 := (hd.rw 2 _ h2r).1
      have o4 := (hd.rw 4 _ h4r).1
      have o0 := (hd.rw 0 _ hg.a2).1
      simp only at o2 o4 o0
      have hc2 : (rs.length : Int) ≤ (c2 : Int) := by have := own_cap o2; omega
      have hc4 : (rs.length : Int) ≤ (c4 : Int) := by have := own_cap o4; omega
      obtain ⟨q0, c0, hq0, _⟩ := own_form o0 (by omega)
      subst hq0
      have hc0 : (N.st.length : Int) ≤ (c0 : Int) := by have := own_cap o0; omega
      have hxi : (x.1 : Int) < (N.st.length : Int) := by omega
      have l2 : x2.length = rs.length := by have := o2.1; omega
      have l4 : x4.length = rs.length := by have := o4.1; omega
      have d1 := fun a w => taRS a w
      clear hd hg h2r h4r o2 o4 o0
      go_upto_region 8 with (first | (go_at_call 92; refine (rdd_any D.out).mono ?_; rintro e wn ⟨rfl, hd⟩; replace D := Lib.hid hd; clear hd))
      have ba : Blk wn ab 117 a3 := (D.out.bl 0 _ G.out.a1).1
      have c9 : wn.cell? ⟨ab, 9, none⟩ = some (.slice (some ⟨q0, 0, none⟩) N.st.length c0) := (ba.cell 9).trans G.out.a9
      have c6 : wn.cell? ⟨ab, 6, none⟩ = some (.slice (some ⟨q2, 0, none⟩) rs.length c2) := (ba.cell 6).trans h26
      have cs : wn.cell? ⟨q0, x.1, none⟩ = some (.iface 268 (.pointer (some ⟨A x.1, 0, none⟩))) := own_cell (D.out.rw 0 _ G.out.a2).1 _ _ (by simp [hx1, ifA, hx2']; rfl)
      have o2 : wn.ownsRow k.base 268 1 (.slice (some ⟨q2, 0, none⟩) rs.length c2) rs.length x2 := (D.out.rw 2 _ H2r.out).1
      obtain ⟨u2, hu2⟩ : ∃ u, x2[i]? = some u := ⟨x2[i]'(by omega), by simp⟩
      have t2 : wn.cell? ⟨q2, i, none⟩ = some u2 := own_cell o2 _ _ hu2
      have t2f : wn.frozen? ⟨q2, i, none⟩ = false := own_free o2 (by omega)
      have hD2 := D.out.rset H2r.out (q := q2) (cap := c2) rfl (j := i) (by simpa using hil) (.pointer (some ⟨A x.1, 0, none⟩))
      clear D ba o2
      go_upto_region 10 with fail
      obtain ⟨g5, hD5, hG5, hr5⟩ : ∃ g5, DM k g5 (wn.setCell ⟨q2, i, none⟩ (.pointer (some ⟨A x.1, 0, none⟩))) ((x.2 : Int) :: ((rs.drop (i + 1)).flatMap serR ++ R)) ∧ GA N ab a3 g5 A (.slice (some ⟨q0, 0, none⟩) N.st.length c0) f ∧ g5.rw = upO gi.rw 2 ⟨268, 1, .slice (some ⟨q2, 0, none⟩) rs.length c2, rs.length, x2.set i (.pointer (some ⟨A x.1, 0, none⟩))⟩ :=
        ⟨_, hD2, G.out.row rfl (by rw [DG.setR_rw, upO_ne _ _ (by omega)]), rfl⟩
      have D := Lib.hid hD5
      replace G := Lib.hid hG5
      have R5 := Lib.hid hr5
      clear hD2 hD5 hG5 hr5 c9 c6 cs t2 t2f hu2
      generalize wn.setCell ⟨q2, i, none⟩ (.pointer (some ⟨A x.1, 0, none⟩)) = w5 at D ⊢
      have c1 : w5.cell? ⟨ab, 1, none⟩ = some (.int .i64 0) := ((D.out.bl 0 _ G.out.a1).1.cell 1).trans ha31
      go_upto_region 12 with (first | (go_at_call 92; refine (rdd_any D.out).mono ?_; rintro e wm ⟨rfl, hd⟩; replace D := Lib.hid hd; clear hd))
      have hr4 : g5.rw 4 = some ⟨3, 1, .slice (some ⟨q4, 0, none⟩) rs.length c4, rs.length, x4⟩ := by rw [R5.out, upO_ne _ _ (by omega)]; exact H4r.out
      have c8 : wm.cell? ⟨ab, 8, none⟩ = some (.slice (some ⟨q4, 0, none⟩) rs.length c4) := ((D.out.bl 0 _ G.out.a1).1.cell 8).trans h48
      have o4 : wm.ownsRow k.base 3 1 (.slice (some ⟨q4, 0, none⟩) rs.length c4) rs.length x4 := (D.out.rw 4 _ hr4).1
      obtain ⟨u4, hu4⟩ : ∃ u, x4[i]? = some u := ⟨x4[i]'(by omega), by simp⟩
      have t4 : wm.cell? ⟨q4, i, none⟩ = some u4 := own_cell o4 _ _ hu4
      have t4f : wm.frozen? ⟨q4, i, none⟩ = false := own_free o4 (by omega)
      have hD6 := D.out.rset hr4 (q := q4) (cap := c4) rfl (j := i) (by simpa using hil) (.int .i64 x.2)
      obtain ⟨g6, hD7, hG7, hr7⟩ : ∃ g6, DM k g6 (wm.setCell ⟨q4, i, none⟩ (.int .i64 x.2)) ((rs.drop (i + 1)).flatMap serR ++ R) ∧ GA N ab a3 g6 A (.slice (some ⟨q0, 0, none⟩) N.st.length c0) f ∧ g6.rw = upO g5.rw 4 ⟨3, 1, .slice (some ⟨q4, 0, none⟩) rs.length c4, rs.length, x4.set i (.int .i64 x.2)⟩ :=
        ⟨_, hD6, G.out.row rfl (by rw [DG.setR_rw, upO_ne _ _ (by omega)]), rfl⟩
      have D7 := Lib.hid hD7
      have G7 := Lib.hid hG7
      have R7 := Lib.hid hr7
      clear hD6 hD7 hG7 hr7 D o4 hr4 G
      go_wp2_with fail
      refine ⟨⟨i + 1, g6, by simp, by omega, D7.out, G7.out, ⟨q2, c2, _, h26, by rw [R7.out, upO_ne _ _ (by omega), R5.out, upO_self], fun j y hj hy => ?_⟩, ⟨q4, c4, _, h48, by rw [R7.out, upO_self], fun j hj => ?_⟩⟩, by simp [intOf]; omega⟩
      · by_cases e : j = i
        · subst e
          rw [hx] at hy; cases hy
          rw [List.getElem?_set_self (by omega)]
        · rw [List.getElem?_set_ne (fun h => e h.symm)]
          exact h2p j y (by omega) hy
      · by_cases e : j = i
        · subst e
          exact ⟨x.2, by rw [List.getElem?_set_self (by omega)]⟩
        · rw [List.getElem?_set_ne (fun h => e h.symm)]
          exact h4p j hj
    · have hil' : ¬ (i : Int) < (rs.length : Int) := by omega
      have hie : i = rs.length := by omega
      subst hie
      have D := Lib.hid (show DM k gi wr R by simpa using hd)
      have G := Lib.hid hg
      have H2 := Lib.hid hr2
      have H4 := Lib.hid hr4
      obtain ⟨va, vc, rfl⟩ : ∃ a c, vs = .slice a N.st.length c := own_slice (hd.rw 0 _ hg.a2).1
      obtain ⟨x7, h7⟩ : ∃ x, a3[7]? = some x := ⟨a3[7]'(by omega), by simp⟩
      have b3 : Blk wr ab 117 a3 := (hd.bl 0 _ hg.a1).1
      have q7 : ∀ o, (wr.alloc o).cell? ⟨ab, 7, none⟩ = some x7 := fun o => ((b3.alloc o).cell 7).trans h7
      have q7f : ∀ o, (wr.alloc o).frozen? ⟨ab, 7, none⟩ = false := fun o => (b3.alloc o).free 7
      have q9 : ∀ o, (wr.alloc o).cell? ⟨ab, 9, none⟩ = some (.slice va N.st.length vc) := fun o => ((b3.alloc o).cell 9).trans hg.a9
      clear hd hg hr2 hr4 b3 hil hi
      go_upto_region 16 with fail
      obtain ⟨g3, hd3, hg3, hr3, hw3⟩ := made_row D.out G.out (cell := 7) (row := 3) (by omega) (by omega) (by omega) (e := 269) (v := .pointer none) rs.length (by omega)
      clear D m3 q7 q7f q9 h7
      have H2' := H2.out.of (a' := a3.setIfInBounds 7 (.slice (some ⟨wr.heap.size, 0, none⟩) rs.length rs.length)) (hw3 2 (by omega)) (Array.getElem?_setIfInBounds_ne (by omega)) (fun x hx => hx)
      have H4' := H4.out.of (a' := a3.setIfInBounds 7 (.slice (some ⟨wr.heap.size, 0, none⟩) rs.length rs.length)) (hw3 4 (by omega)) (Array.getElem?_setIfInBounds_ne (by omega)) (fun x hx => hx)
      have L0 : LpR2 N rs ab (a3.setIfInBounds 7 (.slice (some ⟨wr.heap.size, 0, none⟩) rs.length rs.length)) k R A (.slice va N.st.length vc) f (.int .i64 0) ((wr.alloc (.cells (madeCells #[.pointer none] rs.length) 269)).setCell ⟨ab, 7, none⟩ (.slice (some ⟨wr.heap.size, 0, none⟩) rs.length rs.length)) :=
        ⟨0, g3, f, rfl, Nat.zero_le _, hd3, hg3, C.out, H2', H4', hr3.of rfl rfl (fun _ _ => trivial), ⟨fun p hp => by omega, fun _ _ _ => rfl⟩⟩
      have HL0 := Lib.hid L0
      generalize (wr.alloc (.cells (madeCells #[.pointer none] rs.length) 269)).setCell ⟨ab, 7, none⟩ (.slice (some ⟨wr.heap.size, 0, none⟩) rs.length rs.length) = w4 at HL0 ⊢
      clear hd3 hg3 hr3 hw3 L0 H2 H4 H2' H4' G
      generalize ha4 : a3.setIfInBounds 7 (.slice (some ⟨wr.heap.size, 0, none⟩) rs.length rs.length) = a4 at *
      have ha4o : ∀ j, j ≠ 6 → j ≠ 7 → j ≠ 8 → a4[j]? = a[j]? := fun j h6 h7 h8 => by rw [← ha4, Array.getElem?_setIfInBounds_ne (fun e => h7 e.symm)]; exact HA3.out j h6 h8
      have HA4 := Lib.hid ha4o
      clear ha4o ha4 HA3 hs3 ha31
      go_loopw [80] (fun t80 wq => LpR2 N rs ab a4 k R A (.slice va N.st.length vc) f t80 wq) (fun t80 _ => N.st.length - (intOf t80).toNat)
      case atStart => exact HL0.out
      case round =>
        clear HL0
        obtain ⟨i, gj, fj, rfl, hi, hd, hg, hc, hr2, hr4, hr3, h7⟩ := hrel
        by_cases hil : i < N.st.length
        · have hil'' : (i : Int) < (N.st.length : Int) := by omega
          have o0 := (hd.rw 0 _ hg.a2).1
          simp only at o0
          obtain ⟨q0, c0, hq0, _⟩ := own_form o0 (by omega)
          cases hq0
          have hc0 : (N.st.length : Int) ≤ (vc : Int) := by have := own_cap o0; omega
          have cs : wr.cell? ⟨q0, i, none⟩ = some (ifA N A i) := own_cell o0 _ _ (by simp [hil])
          unfold ifA at cs
          have hT := kTy_mem (N.kind i)
          by_cases h7k : N.kind i = 7
          · have e7 : kTy (N.kind i) = 269 := by rw [h7k]; rfl
            rw [e7] at cs
            have ta := fun a w => taStop a w
            have hri := RO.out.rule i hil
            have hrii : ((lsA N i).rule : Int) < (rs.length : Int) := by omega
            obtain ⟨x, hx⟩ : ∃ x, rs[(lsA N i).rule]? = some x := ⟨rs[(lsA N i).rule]'hri, by simp⟩
            obtain ⟨hx1, hx2⟩ := RO.out.st _ x hx
            obtain ⟨q2, c2, x2, h26, h2r, h2p⟩ := hr2
            obtain ⟨q3, c3, x3, h37, h3r, _⟩ := hr3
            have hc2 : (rs.length : Int) ≤ (c2 : Int) := by have := own_cap (hd.rw 2 _ h2r).1; omega
            have hc3 : (rs.length : Int) ≤ (c3 : Int) := by have := own_cap (hd.rw 3 _ h3r).1; omega
            have H2r := Lib.hid h2r
            have H3r := Lib.hid h3r
            have ba : Blk wr ab 117 a4 := (hd.bl 0 _ hg.a1).1
            have bi : Blk wr (A i) (bTy (N.kind i)) (fj i) := (hd.bl _ _ (hg.st i hil)).1
            have o3 : wr.ownsRow k.base 269 1 (.slice (some ⟨q3, 0, none⟩) rs.length c3) rs.length x3 := (hd.rw 3 _ h3r).1
            have c7 : wr.cell? ⟨ab, 7, none⟩ = some (.slice (some ⟨q3, 0, none⟩) rs.length c3) := (ba.cell 7).trans h37
            have ci3 : wr.cell? ⟨A i, 3, none⟩ = some (.int .i64 (lsA N i).rule) := (bi.cell 3).trans (hc.ri i hil)
            obtain ⟨u3, hu3⟩ : ∃ u, x3[(lsA N i).rule]? = some u := ⟨x3[(lsA N i).rule]'(by have := o3.1; omega), by simp⟩
            have t3 : wr.cell? ⟨q3, (lsA N i).rule, none⟩ = some u3 := own_cell o3 _ _ hu3
            have t3f : wr.frozen? ⟨q3, (lsA N i).rule, none⟩ = false := own_free o3 (by omega)
            have hD2 := (hd.rset h3r (q := q3) (cap := c3) rfl (j := (lsA N i).rule) (by simpa using hri) (.pointer (some ⟨A i, 0, none⟩))).drew
            obtain ⟨g5, hD5, hG5, hr5⟩ : ∃ g5, DM k g5 ((wr.setCell ⟨q3, (lsA N i).rule, none⟩ (.pointer (some ⟨A i, 0, none⟩))).drew) R ∧ GA N ab a4 g5 A (.slice (some ⟨q0, 0, none⟩) N.st.length vc) fj ∧ g5.rw = upO gj.rw 3 ⟨269, 1, .slice (some ⟨q3, 0, none⟩) rs.length c3, rs.length, x3.set (lsA N i).rule (.pointer (some ⟨A i, 0, none⟩))⟩ :=
              ⟨_, hD2, hg.row rfl (by rw [DG.setR_rw, upO_ne _ _ (by omega)]), rfl⟩
            have D := Lib.hid hD5
            have G := Lib.hid hG5
            have R5 := Lib.hid hr5
            have HC := Lib.hid hc
            have H4 := Lib.hid hr4
            have H7 := Lib.hid h7
            clear hD2 hD5 hG5 hr5 hd hg hc hr4 h7 o0 ba bi o3 h2r h3r hu3
            go_upto_region 20 with fail
            go_still_tail 11, (by kernel_rfl)
            change wpList _ _ _ _ _ wr.drew
            go_upto_region 21 with fail
            generalize (wr.setCell ⟨q3, (lsA N i).rule, none⟩ (.pointer (some ⟨A i, 0, none⟩))).drew = w5 at D ⊢
            clear c7 ci3 t3 t3f cs
            have hr2 : g5.rw 2 = some ⟨268, 1, .slice (some ⟨q2, 0, none⟩) rs.length c2, rs.length, x2⟩ := by rw [R5.out, upO_ne _ _ (by omega)]; exact H2r.out
            have c6 : w5.cell? ⟨ab, 6, none⟩ = some (.slice (some ⟨q2, 0, none⟩) rs.length c2) := ((D.out.bl 0 _ G.out.a1).1.cell 6).trans h26
            have ci3 : w5.cell? ⟨A i, 3, none⟩ = some (.int .i64 (lsA N i).rule) := ((D.out.bl _ _ (G.out.st i hil)).1.cell 3).trans (HC.out.ri i hil)
            have t2 : w5.cell? ⟨q2, (lsA N i).rule, none⟩ = some (.pointer (some ⟨A x.1, 0, none⟩)) := own_cell (D.out.rw 2 _ hr2).1 _ _ (h2p _ x hri hx)
            have bx : Blk w5.drew (A x.1) (bTy (N.kind x.1)) (fj x.1) := (D.out.drew.bl _ _ (G.out.st x.1 hx1)).1
            have z7 : (w5.cell? ⟨A x.1, 7, none⟩).isSome = true := by
              rw [show w5.cell? ⟨A x.1, 7, none⟩ = w5.drew.cell? ⟨A x.1, 7, none⟩ from rfl, bx.cell 7]
              have := HC.out.sz x.1 hx1
              rw [hx2] at this
              rw [Array.getElem?_eq_getElem (by rw [this]; decide)]; rfl
            obtain ⟨z7u, z7v⟩ := Option.isSome_iff_exists.1 z7
            have z7f : w5.frozen? ⟨A x.1, 7, none⟩ = false := bx.free 7
            have hD6 := (D.out.set (G.out.st x.1 hx1) 7 (.iface 269 (.pointer (some ⟨A i, 0, none⟩)))).drew
            have hG6 := G.out.set (s := x.1) 7 (.iface 269 (.pointer (some ⟨A i, 0, none⟩)))
            have hC6 := HC.out.set (s := x.1) (j := 7) (.iface 269 (.pointer (some ⟨A i, 0, none⟩))) (.inr (.inr (.inl ⟨rfl, by omega⟩)))
            have h76 : St7 N rs (i + 1) f (upF fj x.1 ((fj x.1).setIfInBounds 7 (.iface 269 (.pointer (some ⟨A i, 0, none⟩))))) := by
              refine ⟨fun p hp hk y hy => ?_, fun s c hsc => ?_⟩
              · by_cases e : y.1 = x.1
                · refine ⟨⟨A i, 0, none⟩, ?_⟩
                  rw [e, upF_self, Array.getElem?_setIfInBounds_self_of_lt]
                  rw [HC.out.sz x.1 hx1, hx2]; decide
                · rw [upF_ne _ _ e]
                  refine H7.out.one p ?_ hk y hy
                  rcases Nat.lt_succ_iff_lt_or_eq.1 hp with h1 | h1
                  · exact h1
                  · subst h1; rw [hx] at hy; cases hy; exact absurd rfl e
              · rw [upF_at _ _ _ _ _ _ (by rintro ⟨rfl, rfl⟩; exact hsc ⟨hx2, rfl⟩)]
                exact H7.out.same s c hsc
            have HH := Lib.hid (show LpR2 N rs ab a4 k R A (.slice (some ⟨q0, 0, none⟩) N.st.length vc) f (.int .i64 ((i : Int) + 1)) ((w5.setCell ⟨A x.1, 7, none⟩ (.iface 269 (.pointer (some ⟨A i, 0, none⟩)))).drew) from
              ⟨i + 1, _, _, by simp, by omega, hD6, hG6, hC6, ⟨q2, c2, x2, h26, hr2, h2p⟩, H4.out.of (by rw [DG.setB_rw, R5.out, upO_ne _ _ (by omega)]) rfl (fun _ h => h), ⟨q3, c3, _, h37, by rw [DG.setB_rw, R5.out, upO_self], trivial⟩, h76⟩)
            clear hD6 hG6 hC6 h76 bx z7 D G HC H7 H4 hr2 R5
            go_still_tail 15, (by kernel_rfl)
            change wpList _ _ _ _ _ w5.drew
            go_wp2_with fail
            exact ⟨HH.out, by simp [intOf]; omega⟩
          · have e7 : kTy (N.kind i) ≠ 269 := kTy_ne7 (KO.out.kd i hil).1 (KO.out.kd i hil).2 h7k
            have ta := fun a w => taNoStop hT e7 a w
            have HH := Lib.hid (show LpR2 N rs ab a4 k R A (.slice (some ⟨q0, 0, none⟩) N.st.length vc) f (.int .i64 ((i : Int) + 1)) wr from
              ⟨i + 1, gj, fj, by simp, by omega, hd, hg, hc, hr2, hr4, hr3, ⟨fun p hp h => h7.one p (by rcases Nat.lt_succ_iff_lt_or_eq.1 hp with h1 | h1; exact h1; exact absurd (h1 ▸ h) h7k) h, h7.same⟩⟩)
            clear hd hg hc hr2 hr4 hr3 h7 o0
            go_wp2_with fail
            exact ⟨HH.out, by simp [intOf]; omega⟩
        · have hil'' : ¬ (i : Int) < (N.st.length : Int) := by omega
          have hie : i = N.st.length := by omega
          subst hie
          have HH := Lib.hid (show RdRu N rs ab a k R A (.slice va N.st.length vc) f (.returned (.tuple #[])) wr from ⟨rfl, gj, a4, fj, hd, hg, hc, hr2, hr4, hr3, h7, HA4.out⟩)
          clear hd hg hc hr2 hr4 hr3 h7
          go_wp2_with fail
          go_end0
          exact HH.out
end Go.Proofs
end
