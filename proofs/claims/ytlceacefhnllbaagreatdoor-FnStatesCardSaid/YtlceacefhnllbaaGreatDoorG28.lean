/- A part of the proof of the statement on the law FnStates, which the last text proves: part G28. -/
import Derived.Test.YtlceacefhnllbaaGreatDoorG27
set_option linter.all false
section
namespace Go.Proofs
open Go.RowKit
open Pl
/-! ## the states are read -/
theorem info249e : (Tryz.prog.info? 255).map (fun i => (i.zero, i.size, i.bytes)) = some (some (.agg #[.pointer none, .int .i64 0]), 2, 16) := by kernel_rfl
theorem info250e : (Tryz.prog.info? 260).map (fun i => (i.zero, i.size, i.bytes)) = some (some (.agg #[.nilIface, .int .i64 0]), 2, 24) := by kernel_rfl
theorem DM.made {k : DK} {g : DG} {w : World} {rest : List Int} (h : DM k g w rest) (i : Nat) {e : TypeId} {sz n c : Nat} (cs : Array Value) (hs : cs.size = c * sz) (hn : n ≤ c) (hc : c ≤ maxLen) :
    DM k ((g.tag w.heap.size (.row i)).setR i ⟨e, sz, .slice (some ⟨w.heap.size, 0, none⟩) n c, n, cs.toList.take (n * sz)⟩) (w.alloc (.cells cs e)) rest := by
  refine h.putR (v := none) ?_ (Kp.alloc _ _) (by intro j hj; cases hj) (.inr (Nat.le_refl _))
  refine ⟨?_, .inr ⟨_, _, cs, rfl, h.bs, heap_alloc_new _ _, hn, hc, hs, rfl⟩⟩
  have : n * sz ≤ c * sz := Nat.mul_le_mul_right _ hn
  simp; omega
theorem mk_row {P : Program} (t e : TypeId) (i : TypeInfo) (z : Value) (ht : P.underlying t = some (.slice e)) (hi : P.info? e = some i) (hz : i.zero = some z)
    (a : Int) (n c : Nat) (ha : a = n) (hnc : n ≤ c) (hbytes : i.bytes * c ≤ 281474976710656) (h63 : c ≤ 9223372036854775807) (w : World) :
    (Instr.makeSlice t (.int .i64 a) (.int .i64 (c : Int))).run P w = .ok (.slice (some ⟨w.heap.size, 0, none⟩) n c) (w.alloc (.cells (madeCells z.cells (c * i.size)) e)) := by
  subst ha
  have hb : (i.bytes : Int) * (c : Int) ≤ 281474976710656 := by
    have h : ((i.bytes * c : Nat) : Int) ≤ 281474976710656 := by omega
    rwa [Int.natCast_mul] at h
  have hr := run_make (P := P) w t e i z ht hi hz .i64 .i64 n c (by omega) (by omega) hb (by omega)
  simp only [Int.toNat_natCast] at hr
  exact hr

def ifA (N : Bd) (A : Nat → Nat) (s : Nat) : Value := .iface (kTy (N.kind s)) (.pointer (some ⟨A s, 0, none⟩))
def lsA (N : Bd) (s : Nat) : LS := N.st.getD s ⟨0, 0, 0⟩
def leX (N : Bd) (A : Nat → Nat) (s : Nat) : List Value := [.pointer (some ⟨A s, 0, none⟩), .int .i64 (lsA N s).arg]
def bsX (N : Bd) (A : Nat → Nat) (s : Nat) : List Value := [ifA N A s, .int .i64 (lsA N s).arg]
def isB (N : Bd) (s : Nat) : Bool := N.kind s == 3 || N.kind s == 4 || N.kind s == 5
def leL (N : Bd) (n : Nat) : List Nat := (List.range n).filter fun s => N.kind s == 12
def bsL (N : Bd) (n : Nat) : List Nat := (List.range n).filter fun s => isB N s
def cBs (N : Bd) (ab s : Nat) : Array Value := sC (N.kind s) (.pointer (some ⟨ab, 0, none⟩)) (lsA N s).rule s
/-- The states made so far. -/
structure RS1 (N : Bd) (ab : Nat) (a0 : Array Value) (g : DG) (A : Nat → Nat) (n : Nat) (t5 t6 : Value) : Prop where
  atn : ∃ v, g.bl 0 = some ⟨ab, 117, a0.setIfInBounds 9 v⟩ ∧ g.rw 0 = some ⟨156, 1, v, n, (List.range n).map (ifA N A)⟩
  st : ∀ s, s < n → g.bl (2 * s + 1) = some ⟨A s, bTy (N.kind s), cBs N ab s⟩
  le : g.rw 6 = some ⟨255, 2, t5, (leL N n).length, (leL N n).flatMap (leX N A)⟩
  bs : g.rw 7 = some ⟨260, 2, t6, (bsL N n).length, (bsL N n).flatMap (bsX N A)⟩
theorem leL_snoc (N : Bd) (n : Nat) : leL N (n + 1) = leL N n ++ if N.kind n = 12 then [n] else [] := by
  unfold leL
  rw [List.range_succ, List.filter_append]
  congr 1
  by_cases h : N.kind n = 12 <;> simp [h]
theorem bsL_snoc (N : Bd) (n : Nat) : bsL N (n + 1) = bsL N n ++ if isB N n then [n] else [] := by
  unfold bsL
  rw [List.range_succ, List.filter_append]
  congr 1
  by_cases h : isB N n <;> simp [h]
theorem leL_lt {N : Bd} {n s : Nat} (h : s ∈ leL N n) : s < n := by
  unfold leL at h; exact List.mem_range.1 (List.mem_filter.1 h).1
theorem bsL_lt {N : Bd} {n s : Nat} (h : s ∈ bsL N n) : s < n := by
  unfold bsL at h; exact List.mem_range.1 (List.mem_filter.1 h).1
theorem flatMap_congr' {α β : Type} {f g : α → List β} {l : List α} (h : ∀ x ∈ l, f x = g x) : l.flatMap f = l.flatMap g := by
  induction l with
  | nil => rfl
  | cons a l ih => simp [h a (by simp), ih (fun x hx => h x (by simp [hx]))]
theorem RS1.next {N : Bd} {ab : Nat} {a0 : Array Value} {g g3 : DG} {A : Nat → Nat} {n H : Nat} {t5 t6 t5' t6' v v' : Value} {x1 : NmB} (h : RS1 N ab a0 g A n t5 t6)
    (hbl : g3.bl = upO (upO (upO g.bl (2 * n + 1) x1) (2 * n + 1) ⟨H, bTy (N.kind n), cBs N ab n⟩) 0 ⟨ab, 117, (a0.setIfInBounds 9 v).setIfInBounds 9 v'⟩)
    (h0 : g3.rw 0 = some ⟨156, 1, v', n + 1, (List.range n).map (ifA N A) ++ [.iface (kTy (N.kind n)) (.pointer (some ⟨H, 0, none⟩))]⟩)
    (h6 : g3.rw 6 = some ⟨255, 2, t5', (leL N n).length + (if N.kind n = 12 then 1 else 0), (leL N n).flatMap (leX N A) ++ if N.kind n = 12 then [.pointer (some ⟨H, 0, none⟩), .int .i64 (lsA N n).arg] else []⟩)
    (h7 : g3.rw 7 = some ⟨260, 2, t6', (bsL N n).length + (if isB N n then 1 else 0), (bsL N n).flatMap (bsX N A) ++ if isB N n then [.iface (kTy (N.kind n)) (.pointer (some ⟨H, 0, none⟩)), .int .i64 (lsA N n).arg] else []⟩) :
    RS1 N ab a0 g3 (fun s => if s = n then H else A s) (n + 1) t5' t6' where
  atn := by
    refine ⟨v', ?_, ?_⟩
    · rw [hbl, upO_self, Array.setIfInBounds_setIfInBounds]
    · rw [h0, List.range_succ, List.map_append]
      have e1 : (List.range n).map (ifA N fun s => if s = n then H else A s) = (List.range n).map (ifA N A) := by
        refine List.map_congr_left fun s hs => ?_
        have : s ≠ n := by have := List.mem_range.1 hs; omega
        simp [ifA, this]
      rw [e1]
      simp [ifA]
  st := fun s hs => by
    rw [hbl, upO_ne _ _ (by omega)]
    by_cases e : s = n
    · subst e; rw [upO_self]; simp
    · rw [upO_ne _ _ (by omega), upO_ne _ _ (by omega), h.st s (by omega)]; simp [e]
  le := by
    have e1 : (leL N n).flatMap (leX N fun s => if s = n then H else A s) = (leL N n).flatMap (leX N A) := flatMap_congr' fun s hs => by
      have : s ≠ n := by have := leL_lt hs; omega
      simp [leX, this]
    rw [h6, leL_snoc, List.flatMap_append, e1]
    split <;> simp [leX]
  bs := by
    have e1 : (bsL N n).flatMap (bsX N fun s => if s = n then H else A s) = (bsL N n).flatMap (bsX N A) := flatMap_congr' fun s hs => by
      have : s ≠ n := by have := bsL_lt hs; omega
      simp [bsX, ifA, this]
    rw [h7, bsL_snoc, List.flatMap_append, e1]
    split <;> simp [bsX, ifA]
def LpRS (N : Bd) (ab : Nat) (a0 : Array Value) (k : DK) (R : List Int) (t5 t6 t7 : Value) (w : World) : Prop := ∃ n g A, t7 = .int .i64 (n : Nat) ∧ n ≤ N.st.length ∧ DM k g w ((N.st.drop n).flatMap serS ++ R) ∧ RS1 N ab a0 g A n t5 t6
theorem drop_ser (N : Bd) {n : Nat} (h : n < N.st.length) : (N.st.drop n).flatMap serS = serS (lsA N n) ++ (N.st.drop (n + 1)).flatMap serS := by
  rw [List.drop_eq_getElem_cons h, List.flatMap_cons]
  unfold lsA
  rw [List.getD_eq_getElem?_getD, List.getElem?_eq_getElem h]
  rfl
theorem serS_12 {N : Bd} {n : Nat} (h : N.kind n = 12) : serS (lsA N n) = [(N.kind n : Int), ((lsA N n).rule : Int), ((lsA N n).arg : Int)] := by
  have e : (lsA N n).kind = N.kind n := rfl
  unfold serS; rw [e, h]; simp
theorem serS_b {N : Bd} {n : Nat} (h : isB N n = true) : serS (lsA N n) = [(N.kind n : Int), ((lsA N n).rule : Int), ((lsA N n).arg : Int)] := by
  have e : (lsA N n).kind = N.kind n := rfl
  unfold isB at h
  simp only [Bool.or_eq_true, beq_iff_eq] at h
  unfold serS; rw [e]
  rw [if_pos (by omega)]; rfl
theorem serS_o {N : Bd} {n : Nat} (h : N.kind n ≠ 12) (hb : isB N n = false) : serS (lsA N n) = [(N.kind n : Int), ((lsA N n).rule : Int)] := by
  have e : (lsA N n).kind = N.kind n := rfl
  unfold isB at hb
  simp only [Bool.or_eq_false_iff, beq_eq_false_iff_ne] at hb
  unfold serS; rw [e]
  rw [if_neg (by omega)]; rfl
theorem sfac2_any {k : DK} {g : DG} {w : World} {rest : List Int} (h : DM k g w rest) (i : Nat) {kd : Nat} (h1 : 1 ≤ kd) (h2 : kd ≤ 12) (ru : Int) :
    Calls Tryz.prog 96 #[.pointer (some ⟨k.db, 0, none⟩), .int .i64 kd, .int .i64 ru] w fun e w' => ∃ H g', e = .returned (.iface (kTy kd) (.pointer (some ⟨H, 0, none⟩))) ∧
      DM k g' w' rest ∧ g'.bl = upO g.bl i ⟨H, bTy kd, sC kd (.pointer none) ru (-1)⟩ ∧ g'.rw = g.rw :=
  (sfac_any h i h1 h2 ru).mono fun _ _ ⟨a, g', b, c, d⟩ => ⟨_, g', a, b, c, d⟩
theorem taLE (a : Addr) (w : World) : (Instr.typeAssert (.iface 253 (.pointer (some a))) 156 253 false).run Tryz.prog w = .ok (.pointer (some a)) w := by kernel_rfl
theorem taB3 {T : TypeId} (hT : T ∈ blTypes) (a : Addr) (w : World) : (Instr.typeAssert (.iface T (.pointer (some a))) 156 257 true).run Tryz.prog w = .ok (.tuple #[.iface T (.pointer (some a)), .bool true]) w := by
  unfold blTypes at hT
  simp only [List.mem_cons, List.not_mem_nil, or_false] at hT
  rcases hT with rfl | rfl | rfl
  all_goals kernel_rfl
def nbTypes : List TypeId := [330, 268, 232, 269, 264, 301, 173, 291, 253]
theorem taB0 {T : TypeId} (hT : T ∈ nbTypes) (a : Addr) (w : World) : (Instr.typeAssert (.iface T (.pointer (some a))) 156 257 true).run Tryz.prog w = .ok (.tuple #[.nilIface, .bool false]) w := by
  unfold nbTypes at hT
  simp only [List.mem_cons, List.not_mem_nil, or_false] at hT
  rcases hT with rfl | rfl | rfl | rfl | rfl | rfl | rfl | rfl | rfl
  all_goals exact run_typeAssert_lacksB Tryz.underlying257 (by kernel_rfl) (by kernel_rfl) _ 156 w
theorem isB_ty {N : Bd} {n : Nat} (h : isB N n = true) : kTy (N.kind n) ∈ blTypes := by
  unfold isB at h
  simp only [Bool.or_eq_true, beq_iff_eq] at h
  rcases h with (h | h) | h <;> rw [h] <;> decide
theorem noB_ty {N : Bd} {n : Nat} (h1 : 1 ≤ N.kind n) (h2 : N.kind n ≤ 12) (h : isB N n = false) : kTy (N.kind n) ∈ nbTypes := by
  unfold isB at h
  simp only [Bool.or_eq_false_iff, beq_eq_false_iff_ne] at h
  generalize N.kind n = q at *
  have hk : q = 1 ∨ q = 2 ∨ q = 6 ∨ q = 7 ∨ q = 8 ∨ q = 9 ∨ q = 10 ∨ q = 11 ∨ q = 12 := by omega
  rcases hk with rfl | rfl | rfl | rfl | rfl | rfl | rfl | rfl | rfl <;> decide
structure RS2 (N : Bd) (ab : Nat) (a0 : Array Value) (g : DG) (A : Nat → Nat) (vs t5 t6 : Value) (f : Nat → Array Value) : Prop where
  a1 : g.bl 0 = some ⟨ab, 117, a0.setIfInBounds 9 vs⟩
  a2 : g.rw 0 = some ⟨156, 1, vs, N.st.length, (List.range N.st.length).map (ifA N A)⟩
  st : ∀ s, s < N.st.length → g.bl (2 * s + 1) = some ⟨A s, bTy (N.kind s), f s⟩
  le : g.rw 6 = some ⟨255, 2, t5, (leL N N.st.length).length, (leL N N.st.length).flatMap (leX N A)⟩
  bs : g.rw 7 = some ⟨260, 2, t6, (bsL N N.st.length).length, (bsL N N.st.length).flatMap (bsX N A)⟩
theorem RS2.set {N : Bd} {ab : Nat} {a0 : Array Value} {g : DG} {A : Nat → Nat} {vs t5 t6 : Value} {f f' : Nat → Array Value} (h : RS2 N ab a0 g A vs t5 t6 f) {s : Nat} (j : Nat) (v : Value) (h1 : f' s = (f s).setIfInBounds j v) (h2 : ∀ q, q ≠ s → f' q = f q) :
    RS2 N ab a0 (g.setB (2 * s + 1) ⟨A s, bTy (N.kind s), (f s).setIfInBounds j v⟩) A vs t5 t6 f' where
  a1 := by rw [DG.setB_bl, upO_ne _ _ (by omega)]; exact h.a1
  a2 := h.a2
  st := fun q hq => by
    rw [DG.setB_bl]
    by_cases e : q = s
    · subst e; rw [upO_self, h1]
    · rw [upO_ne _ _ (by omega), h.st q hq, h2 q e]
  le := h.le
  bs := h.bs
def fE (N : Bd) (A : Nat → Nat) (ab : Nat) (T : List Nat) (s : Nat) : Array Value := if s ∈ T then (cBs N ab s).setIfInBounds 7 (ifA N A (lsA N s).arg) else cBs N ab s
def fBl (N : Bd) (A : Nat → Nat) (ab : Nat) (T : List Nat) (s : Nat) : Array Value := if s ∈ T then (fE N A ab (leL N N.st.length) s).setIfInBounds 9 (.pointer (some ⟨A (lsA N s).arg, 0, none⟩)) else fE N A ab (leL N N.st.length) s
theorem fE_snoc (N : Bd) (A : Nat → Nat) (ab : Nat) (T : List Nat) (s : Nat) : fE N A ab (T ++ [s]) s = (fE N A ab T s).setIfInBounds 7 (ifA N A (lsA N s).arg) := by
  unfold fE
  rw [if_pos (by simp)]
  split
  · rw [Array.setIfInBounds_setIfInBounds]
  · rfl
theorem fE_ne (N : Bd) (A : Nat → Nat) (ab : Nat) (T : List Nat) (s q : Nat) (h : q ≠ s) : fE N A ab (T ++ [s]) q = fE N A ab T q := by
  unfold fE; simp [h]
theorem fBl_snoc (N : Bd) (A : Nat → Nat) (ab : Nat) (T : List Nat) (s : Nat) : fBl N A ab (T ++ [s]) s = (fBl N A ab T s).setIfInBounds 9 (.pointer (some ⟨A (lsA N s).arg, 0, none⟩)) := by
  unfold fBl
  rw [if_pos (by simp)]
  split
  · rw [Array.setIfInBounds_setIfInBounds]
  · rfl
theorem fBl_ne (N : Bd) (A : Nat → Nat) (ab : Nat) (T : List Nat) (s q : Nat) (h : q ≠ s) : fBl N A ab (T ++ [s]) q = fBl N A ab T q := by
  unfold fBl; simp [h]
theorem flatMap_at {α : Type} (f : α → List Value) (c : Nat) (hf : ∀ x, (f x).length = c) : ∀ (l : List α) (s : Nat) (x : α), l[s]? = some x → ∀ i, i < c → (l.flatMap f)[s * c + i]? = (f x)[i]?
  | [], _, _, h, _, _ => by simp at h
  | y :: l, 0, x, h, i, hi => by
    simp at h; subst h
    rw [List.flatMap_cons, List.getElem?_append_left (by rw [hf]; omega)]
    simp
  | y :: l, s + 1, x, h, i, hi => by
    have := flatMap_at f c hf l s x (by simpa using h) i hi
    rw [List.flatMap_cons, List.getElem?_append_right (by rw [hf, Nat.add_mul]; omega), hf, ← this]
    congr 1; rw [Nat.add_mul]; omega
theorem taEnd (a : Addr) (w : World) : (Instr.typeAssert (.iface 264 (.pointer (some a))) 156 264 false).run Tryz.prog w = .ok (.pointer (some a)) w := by kernel_rfl
theorem fBl9 {N : Bd} {A : Nat → Nat} {ab s : Nat} {T : List Nat} (h : isB N s = true) : ((fBl N A ab T s)[9]?).isSome = true := by
  have e : ((fE N A ab (leL N N.st.length) s)[9]?).isSome = true := by
    unfold isB at h
    simp only [Bool.or_eq_true, beq_iff_eq] at h
    have : s ∉ leL N N.st.length := by
      intro hm
      unfold leL at hm
      have := (List.mem_filter.1 hm).2
      simp only [beq_iff_eq] at this
      omega
    unfold fE cBs
    rw [if_neg this]
    rcases h with (h | h) | h <;> rw [h] <;> simp [sC, sXt]
  unfold fBl
  split
  · simpa using e
  · exact e
def LpE1 (N : Bd) (ab : Nat) (a0 : Array Value) (k : DK) (R : List Int) (A : Nat → Nat) (vs t5 t6 t : Value) (w : World) : Prop := ∃ i g, t = .int .i64 (i : Nat) ∧ i ≤ (leL N N.st.length).length ∧ DM k g w R ∧ RS2 N ab a0 g A vs t5 t6 (fE N A ab ((leL N N.st.length).take i))
def LpE2 (N : Bd) (ab : Nat) (a0 : Array Value) (k : DK) (R : List Int) (A : Nat → Nat) (vs t5 t6 t : Value) (w : World) : Prop := ∃ i g, t = .int .i64 (i : Nat) ∧ i ≤ (bsL N N.st.length).length ∧ DM k g w R ∧ RS2 N ab a0 g A vs t5 t6 (fBl N A ab ((bsL N N.st.length).take i))
/-- What is asked of a network's states. -/
structure KOk (N : Bd) : Prop where
  kd : ∀ s, s < N.st.length → 1 ≤ N.kind s ∧ N.kind s ≤ 12
  le : ∀ s, s < N.st.length → N.kind s = 12 → (lsA N s).arg < N.st.length
  bs : ∀ s, s < N.st.length → isB N s = true → (lsA N s).arg < N.st.length ∧ N.kind (lsA N s).arg = 8
  few : N.st.length ≤ 1000
/-- The cells behind the states' reading. -/
def c2s (N : Bd) (A : Nat → Nat) (ab s : Nat) : Array Value :=
  if N.kind s = 12 then (cBs N ab s).setIfInBounds 7 (ifA N A (lsA N s).arg) else if isB N s then (cBs N ab s).setIfInBounds 9 (.pointer (some ⟨A (lsA N s).arg, 0, none⟩)) else cBs N ab s
theorem c2s_eq {N : Bd} {A : Nat → Nat} {ab s : Nat} (hs : s < N.st.length) : fBl N A ab (bsL N N.st.length) s = c2s N A ab s := by
  have h1 : s ∈ bsL N N.st.length ↔ isB N s = true := by unfold bsL; rw [List.mem_filter, List.mem_range]; simp [hs]
  have h2 : s ∈ leL N N.st.length ↔ N.kind s = 12 := by unfold leL; rw [List.mem_filter, List.mem_range]; simp [hs]
  unfold fBl fE c2s
  simp only [h1, h2]
  by_cases e : N.kind s = 12
  · have : isB N s = false := by simp [isB, e]
    simp [e, this]
  · simp [e]
def RdSt (N : Bd) (ab : Nat) (a0 : Array Value) (k : DK) (R : List Int) (e : Ending) (w' : World) : Prop := e = .returned (.tuple #[]) ∧ ∃ g A, DM k g w' R ∧
  (∃ v, g.bl 0 = some ⟨ab, 117, a0.setIfInBounds 9 v⟩ ∧ g.rw 0 = some ⟨156, 1, v, N.st.length, (List.range N.st.length).map (ifA N A)⟩) ∧ ∀ s, s < N.st.length → g.bl (2 * s + 1) = some ⟨A s, bTy (N.kind s), c2s N A ab s⟩

set_option maxRecDepth 100000 in
set_option maxHeartbeats 1000000 in
theorem rdst_any {N : Bd} (ko : KOk N) {k : DK} {g : DG} {w : World} {R : List Int} {ab : Nat} {a0 : Array Value} (h : DM k g w ((N.st.length : Int) :: (N.st.flatMap serS ++ (0 :: 0 :: R)))) (hb0 : g.bl 0 = some ⟨ab, 117, a0⟩) (ha : a0.size = 10) :
    Calls Tryz.prog 64 #[.pointer (some ⟨k.db, 0, none⟩), .pointer (some ⟨ab, 0, none⟩)] w fun e w' => RdSt N ab a0 k R e w' := by
  have D := Lib.hid h
  have B0 := Lib.hid hb0
  have KO := Lib.hid ko
  have hfew := ko.few
  obtain ⟨i1, hi1, hx0, hx1, hx2⟩ := info_parts info249e
  obtain ⟨i3, hi3, hz0, hz1, hz2⟩ := info_parts info250e
  obtain ⟨i2, hi2, hy0, hy1, hy2⟩ := info_parts info156
  have m1 := fun W => mk_row (P := Tryz.prog) 249 255 i1 _ Tryz.underlying249 hi1 hx0 0 0 N.st.length rfl (Nat.zero_le _) (by rw [hx2]; omega) (by omega) W
  have m2 := fun W => mk_row (P := Tryz.prog) 250 260 i3 _ Tryz.underlying250 hi3 hz0 0 0 N.st.length rfl (Nat.zero_le _) (by rw [hz2]; omega) (by omega) W
  have m3 := fun W => mk_row (P := Tryz.prog) 115 156 i2 _ Tryz.underlying115 hi2 hy0 0 0 N.st.length rfl (Nat.zero_le _) (by rw [hy2]; omega) (by omega) W
  obtain ⟨x9, h9⟩ : ∃ x9, a0[9]? = some x9 := ⟨a0[9]'(by omega), by simp⟩
  clear h hb0 ko
  go_enter Tryz.func64, Tryz.ntmps64
  go_upto_region 4 with (first | (go_at_call 92; refine (rdd_any D.out).mono ?_; rintro e w1 ⟨rfl, hd⟩; have D1 := Lib.hid hd; clear hd D; have b0 : Blk w1 ab 117 a0 := (D1.out.bl 0 _ B0.out).1; have q9 : ∀ o1 o2 o3, (((w1.alloc o1).alloc o2).alloc o3).cell? ⟨ab, 9, none⟩ = some x9 := (fun o1 o2 o3 => ((((b0.alloc o1).alloc o2).alloc o3).cell 9).trans h9); have q9f : ∀ o1 o2 o3, (((w1.alloc o1).alloc o2).alloc o3).frozen? ⟨ab, 9, none⟩ = false := (fun o1 o2 o3 => (((b0.alloc o1).alloc o2).alloc o3).free 9); clear b0))
  have E0 := ((D1.out.made 6 (e := 255) (sz := 2) (n := 0) (c := N.st.length) (madeCells #[.pointer none, .int .i64 0] (N.st.length * 2)) (size_madeCells _ _) (Nat.zero_le _) (by simp [maxLen]; omega)).made 7 (e := 260) (sz := 2) (n := 0) (c := N.st.length) (madeCells #[.nilIface, .int .i64 0] (N.st.length * 2)) (size_madeCells _ _) (Nat.zero_le _) (by simp [maxLen]; omega)).made 0 (e := 156) (sz := 1) (n := 0) (c := N.st.length) (madeCells #[.nilIface] N.st.length) (by rw [size_madeCells, Nat.mul_one]) (Nat.zero_le _) (by simp [maxLen]; omega)
  have E1 := E0.set (i := 0) (b := ⟨ab, 117, a0⟩) (by simpa using B0.out) 9 (.slice (some ⟨w1.heap.size + 1 + 1, 0, none⟩) 0 N.st.length)
  clear E0 D1
  have HE : ∃ g', DM k g' ((((w1.alloc (Obj.cells (madeCells #[Value.pointer none, Value.int IntKind.i64 0] (N.st.length * 2)) 255)).alloc
            (Obj.cells (madeCells #[Value.nilIface, Value.int IntKind.i64 0] (N.st.length * 2)) 260)).alloc
        (Obj.cells (madeCells #[Value.nilIface] N.st.length) 156)).setCell
    { block := ab, off := 9 } (Value.slice (some { block := w1.heap.size + 1 + 1, off := 0 }) 0 N.st.length)) (List.flatMap serS N.st ++ 0 :: 0 :: R) ∧ RS1 N ab a0 g' (fun _ => 0) 0 (Value.slice (some { block := w1.heap.size, off := 0 }) 0 N.st.length) (Value.slice (some { block := w1.heap.size + 1, off := 0 }) 0 N.st.length) := by
    refine ⟨_, E1, ?_, ?_, ?_, ?_⟩
    · exact ⟨_, by simp; rfl, by simp⟩
    · intro s hs; omega
    · simp [upO, leL]
    · simp [upO, bsL]
  obtain ⟨g1, hE1, hE2⟩ := HE
  have D2 := Lib.hid hE1
  have S2 := Lib.hid hE2
  clear E1 hE1 hE2 m1 m2 m3
  generalize (((w1.alloc (Obj.cells (madeCells #[Value.pointer none, Value.int IntKind.i64 0] (N.st.length * 2)) 255)).alloc
            (Obj.cells (madeCells #[Value.nilIface, Value.int IntKind.i64 0] (N.st.length * 2)) 260)).alloc
        (Obj.cells (madeCells #[Value.nilIface] N.st.length) 156)).setCell
    { block := ab, off := 9 } (Value.slice (some { block := w1.heap.size + 1 + 1, off := 0 }) 0 N.st.length) = w2 at D2 ⊢
  go_upto_region 5 with fail
  go_loopw [5, 6, 7] (fun t5 t6 t7 wr => LpRS N ab a0 k (0 :: 0 :: R) t5 t6 t7 wr) (fun _ _ t7 _ => N.st.length - (intOf t7).toNat)
  case atStart => exact ⟨0, g1, _, rfl, Nat.zero_le _, D2.out, S2.out⟩
  case round =>
    clear S2 D2 w2 q9 q9f h9 x9
    obtain ⟨n, gr, A, rfl, hn, hd, hs⟩ := hrel
    obtain ⟨v5a, v5c, rfl⟩ : ∃ a c, u5 = .slice a (leL N n).length c := own_slice (hd.rw 6 _ hs.le).1
    obtain ⟨v6a, v6c, rfl⟩ : ∃ a c, u6 = .slice a (bsL N n).length c := own_slice (hd.rw 7 _ hs.bs).1
    by_cases hnl : n < N.st.length
    · have hnl' : (n : Int) < (N.st.length : Int) := by omega
      obtain ⟨hk1, hk2⟩ := KO.out.kd n hnl
      have hk0 : ¬ ((N.kind n : Int) = 0) := by omega
      obtain ⟨vs, hat1, hat2⟩ := hs.atn
      have HS := Lib.hid hs
      have AT1 := Lib.hid hat1
      have AT2 := Lib.hid hat2
      rw [drop_ser N hnl] at hd
      have hl5 : (leL N n).length ≤ n := by unfold leL; exact Nat.le_trans (List.length_filter_le _ _) (by simp)
      have hl6 : (bsL N n).length ≤ n := by unfold bsL; exact Nat.le_trans (List.length_filter_le _ _) (by simp)
      have a9 : (a0.setIfInBounds 9 vs)[9]? = some vs := by rw [Array.getElem?_setIfInBounds_self_of_lt (by omega)]
      clear hs hat1 hat2
      by_cases h12 : N.kind n = 12
      · rw [serS_12 h12] at hd
        have ta : ∀ a w, (Instr.typeAssert (.iface (kTy 12) (.pointer (some a))) 156 253 false).run Tryz.prog w = .ok (.pointer (some a)) w := fun a w => taLE a w
        have D : Hid (DM k gr wr ((12 : Int) :: ((lsA N n).rule : Int) :: ((lsA N n).arg : Int) :: ((N.st.drop (n + 1)).flatMap serS ++ (0 :: 0 :: R)))) := Lib.hid (by rw [h12] at hd; simpa using hd)
        clear hd
        go_wp2_with (first | (go_at_call 92; refine (rdd_any D.out).mono ?_; rintro e wn ⟨rfl, hd⟩; replace D := Lib.hid hd; clear hd) | (go_at_call 96; refine (sfac2_any (kd := 12) D.out (2 * n + 1) (by omega) (by omega) _).mono ?_; rintro e wm ⟨H, g2, rfl, hd, hb2, hr2⟩; have B2 := Lib.hid hb2; have R2 := Lib.hid hr2; clear hb2 hr2; replace D := Lib.hid hd; clear hd) | (at_builtin; have hr6 : g2.rw 6 = some ⟨255, 2, .slice v5a (leL N n).length v5c, (leL N n).length, (leL N n).flatMap (leX N A)⟩ := (by rw [R2.out]; exact HS.out.le); refine wpList_append_lies _ rfl _ _ 249 rfl k.base 255 i1 _ 2 16 Tryz.underlying249 hi1 hx0 hx1 hx2 rfl (by omega) (.slice v5a (leL N n).length v5c) (leL N n).length ((leL N n).flatMap (leX N A)) rfl ((D.out.rw 6 _ hr6).1.alloc _) ⟨wn.heap.size, 0, none⟩ 1 1 [.pointer (some ⟨H, 0, none⟩), .int .i64 (lsA N n).arg] rfl rfl (World.news_of_block (cs := #[.pointer (some ⟨H, 0, none⟩), .int .i64 (lsA N n).arg]) (t := 255) (fr := (0, 0)) (heap_alloc_new wn _)) (by simp [Value.oneCell']) (by omega) (by simp [maxLen]; omega) (by omega) (by simp; exact Nat.le_succ_of_le D.out.bs) (wn.heap.size + 1) (by simp) ?_; intro gg cap w3 hown hgrow hat hlt; have k3 : Kp (fun q => some q ≠ (Value.slice v5a (leL N n).length v5c).ownBlock) wn w3 := (Kp.alloc _ _).trans (Kp.grown hgrow (fun q hq => hq)); have hp := D.out.putR (i := 6) hown k3 (D.out.rw 6 _ hr6).2 (hat.imp id (fun e => by omega)); obtain ⟨g3, hd3, hb3, hr3⟩ : ∃ g3, DM k g3 w3 ((N.st.drop (n + 1)).flatMap serS ++ (0 :: 0 :: R)) ∧ g3.bl = g2.bl ∧ g3.rw = upO g2.rw 6 ⟨255, 2, .slice (some ⟨gg, 0, none⟩) ((leL N n).length + 1) cap, (leL N n).length + 1, (leL N n).flatMap (leX N A) ++ [.pointer (some ⟨H, 0, none⟩), .int .i64 (lsA N n).arg]⟩ := ⟨_, hp, rfl, rfl⟩; replace D := Lib.hid hd3; have B3 := Lib.hid hb3; have R3 := Lib.hid hr3; clear hp hown hgrow hat hlt k3 hr6 hd3 hb3 hr3) | (go_at_call 95; have hb0 : g3.bl 0 = some ⟨ab, 117, a0.setIfInBounds 9 vs⟩ := (by rw [B3.out, B2.out, upO_ne _ _ (by omega)]; exact AT1.out); have hr0 : g3.rw 0 = some ⟨156, 1, vs, n, (List.range n).map (ifA N A)⟩ := (by rw [R3.out, upO_ne _ _ (by omega), R2.out]; exact AT2.out); have hbi : g3.bl (2 * n + 1) = some ⟨H, bTy (12), sC (12) (.pointer none) (lsA N n).rule (-1)⟩ := (by rw [B3.out, B2.out, upO_self]); refine (addSt_any D.out hb0 a9 hr0 (by omega) hbi (by omega)).mono ?_; rintro e w5 ⟨rfl, g5, gg5, c5, hd5, hb5, hr5⟩; rw [B3.out, B2.out] at hb5; have D5 := Lib.hid hd5; have B5 := Lib.hid hb5; have R5 := Lib.hid hr5; clear hd5 hb5 hr5 hb0 hr0 hbi D))
        have hB : isB N n = false := by simp [isB, h12]
        refine ⟨⟨n + 1, g5, _, by simp, by omega, D5.out, RS1.next HS.out (H := H) (v := vs) (v' := .slice (some ⟨gg5, 0, none⟩) (n + 1) c5) (x1 := ⟨H, bTy 12, sC 12 (.pointer none) (lsA N n).rule (-1)⟩) (by rw [B5.out]; unfold cBs; rw [h12]) (by rw [R5.out, upO_self, h12]) ?_ ?_⟩, by simp [intOf]; omega⟩
        · rw [R5.out, upO_ne _ _ (by omega), R3.out, upO_self, if_pos h12, if_pos h12]
        · rw [R5.out, upO_ne _ _ (by omega), R3.out, upO_ne _ _ (by omega), R2.out, HS.out.bs]; simp [hB]
      · have h12i : ¬ ((N.kind n : Int) = 12) := by omega
        by_cases hB : isB N n = true
        · have hT := isB_ty hB
          have ta := fun a w => taB3 hT a w
          rw [serS_b hB] at hd
          have D : Hid (DM k gr wr ((N.kind n : Int) :: ((lsA N n).rule : Int) :: ((lsA N n).arg : Int) :: ((N.st.drop (n + 1)).flatMap serS ++ (0 :: 0 :: R)))) := Lib.hid (by simpa using hd)
          clear hd
          go_wp2_with (first | (go_at_call 92; refine (rdd_any D.out).mono ?_; rintro e wn ⟨rfl, hd⟩; replace D := Lib.hid hd; clear hd) | (go_at_call 96; refine (sfac2_any (kd := N.kind n) D.out (2 * n + 1) (by omega) (by omega) _).mono ?_; rintro e wm ⟨H, g2, rfl, hd, hb2, hr2⟩; have B2 := Lib.hid hb2; have R2 := Lib.hid hr2; clear hb2 hr2; replace D := Lib.hid hd; clear hd) | (at_builtin; have hr6 : g2.rw 7 = some ⟨260, 2, .slice v6a (bsL N n).length v6c, (bsL N n).length, (bsL N n).flatMap (bsX N A)⟩ := (by rw [R2.out]; exact HS.out.bs); refine wpList_append_lies _ rfl _ _ 250 rfl k.base 260 i3 _ 2 24 Tryz.underlying250 hi3 hz0 hz1 hz2 rfl (by omega) (.slice v6a (bsL N n).length v6c) (bsL N n).length ((bsL N n).flatMap (bsX N A)) rfl ((D.out.rw 7 _ hr6).1.alloc _) ⟨wn.heap.size, 0, none⟩ 1 1 [.iface (kTy (N.kind n)) (.pointer (some ⟨H, 0, none⟩)), .int .i64 (lsA N n).arg] rfl rfl (World.news_of_block (cs := #[.iface (kTy (N.kind n)) (.pointer (some ⟨H, 0, none⟩)), .int .i64 (lsA N n).arg]) (t := 260) (fr := (0, 0)) (heap_alloc_new wn _)) (by simp [Value.oneCell']) (by omega) (by simp [maxLen]; omega) (by omega) (by simp; exact Nat.le_succ_of_le D.out.bs) (wn.heap.size + 1) (by simp) ?_; intro gg cap w3 hown hgrow hat hlt; have k3 : Kp (fun q => some q ≠ (Value.slice v6a (bsL N n).length v6c).ownBlock) wn w3 := (Kp.alloc _ _).trans (Kp.grown hgrow (fun q hq => hq)); have hp := D.out.putR (i := 7) hown k3 (D.out.rw 7 _ hr6).2 (hat.imp id (fun e => by omega)); obtain ⟨g3, hd3, hb3, hr3⟩ : ∃ g3, DM k g3 w3 ((N.st.drop (n + 1)).flatMap serS ++ (0 :: 0 :: R)) ∧ g3.bl = g2.bl ∧ g3.rw = upO g2.rw 7 ⟨260, 2, .slice (some ⟨gg, 0, none⟩) ((bsL N n).length + 1) cap, (bsL N n).length + 1, (bsL N n).flatMap (bsX N A) ++ [.iface (kTy (N.kind n)) (.pointer (some ⟨H, 0, none⟩)), .int .i64 (lsA N n).arg]⟩ := ⟨_, hp, rfl, rfl⟩; replace D := Lib.hid hd3; have B3 := Lib.hid hb3; have R3 := Lib.hid hr3; clear hp hown hgrow hat hlt k3 hr6 hd3 hb3 hr3) | (go_at_call 95; have hb0 : g3.bl 0 = some ⟨ab, 117, a0.setIfInBounds 9 vs⟩ := (by rw [B3.out, B2.out, upO_ne _ _ (by omega)]; exact AT1.out); have hr0 : g3.rw 0 = some ⟨156, 1, vs, n, (List.range n).map (ifA N A)⟩ := (by rw [R3.out, upO_ne _ _ (by omega), R2.out]; exact AT2.out); have hbi : g3.bl (2 * n + 1) = some ⟨H, bTy (N.kind n), sC (N.kind n) (.pointer none) (lsA N n).rule (-1)⟩ := (by rw [B3.out, B2.out, upO_self]); refine (addSt_any D.out hb0 a9 hr0 (by omega) hbi (by omega)).mono ?_; rintro e w5 ⟨rfl, g5, gg5, c5, hd5, hb5, hr5⟩; rw [B3.out, B2.out] at hb5; have D5 := Lib.hid hd5; have B5 := Lib.hid hb5; have R5 := Lib.hid hr5; clear hd5 hb5 hr5 hb0 hr0 hbi D))
          refine ⟨⟨n + 1, g5, _, by simp, by omega, D5.out, RS1.next HS.out (H := H) (v := vs) (v' := .slice (some ⟨gg5, 0, none⟩) (n + 1) c5) B5.out (by rw [R5.out, upO_self]) ?_ ?_⟩, by simp [intOf]; omega⟩
          · rw [R5.out, upO_ne _ _ (by omega), R3.out, upO_ne _ _ (by omega), R2.out, HS.out.le]; simp [h12]
          · rw [R5.out, upO_ne _ _ (by omega), R3.out, upO_self, if_pos hB, if_pos hB]
        · have hB' : isB N n = false := by simpa using hB
          have hT := noB_ty hk1 hk2 hB'
          have ta := fun a w => taB0 hT a w
          rw [serS_o h12 hB'] at hd
          have D : Hid (DM k gr wr ((N.kind n : Int) :: ((lsA N n).rule : Int) :: ((N.st.drop (n + 1)).flatMap serS ++ (0 :: 0 :: R)))) := Lib.hid (by simpa using hd)
          clear hd
          go_wp2_with (first | (go_at_call 92; refine (rdd_any D.out).mono ?_; rintro e wn ⟨rfl, hd⟩; replace D := Lib.hid hd; clear hd) | (go_at_call 96; refine (sfac2_any (kd := N.kind n) D.out (2 * n + 1) (by omega) (by omega) _).mono ?_; rintro e wm ⟨H, g2, rfl, hd, hb2, hr2⟩; have B2 := Lib.hid hb2; have R2 := Lib.hid hr2; clear hb2 hr2; replace D := Lib.hid hd; clear hd) | (go_at_call 95; have hb0 : g2.bl 0 = some ⟨ab, 117, a0.setIfInBounds 9 vs⟩ := (by rw [B2.out, upO_ne _ _ (by omega)]; exact AT1.out); have hr0 : g2.rw 0 = some ⟨156, 1, vs, n, (List.range n).map (ifA N A)⟩ := (by rw [R2.out]; exact AT2.out); have hbi : g2.bl (2 * n + 1) = some ⟨H, bTy (N.kind n), sC (N.kind n) (.pointer none) (lsA N n).rule (-1)⟩ := (by rw [B2.out, upO_self]); refine (addSt_any D.out hb0 a9 hr0 (by omega) hbi (by omega)).mono ?_; rintro e w5 ⟨rfl, g5, gg5, c5, hd5, hb5, hr5⟩; rw [B2.out] at hb5; have D5 := Lib.hid hd5; have B5 := Lib.hid hb5; have R5 := Lib.hid hr5; clear hd5 hb5 hr5 hb0 hr0 hbi D))
          refine ⟨⟨n + 1, g5, _, by simp, by omega, D5.out, RS1.next HS.out (H := H) (v := vs) (v' := .slice (some ⟨gg5, 0, none⟩) (n + 1) c5) B5.out (by rw [R5.out, upO_self]) ?_ ?_⟩, by simp [intOf]; omega⟩
          · rw [R5.out, upO_ne _ _ (by omega), R2.out, HS.out.le]; simp [h12]
          · rw [R5.out, upO_ne _ _ (by omega), R2.out, HS.out.bs]; simp [hB']
    · have hnl' : ¬ (n : Int) < (N.st.length : Int) := by omega
      have hne : n = N.st.length := by omega
      subst hne
      have hd2 : DM k gr wr (0 :: 0 :: R) := by simpa using hd
      obtain ⟨vs, hat1, hat2⟩ := hs.atn
      obtain ⟨vsa, vsc, rfl⟩ : ∃ a c, vs = .slice a N.st.length c := own_slice (hd2.rw 0 _ hat2).1
      have R0 := Lib.hid (show RS2 N ab a0 gr A (.slice vsa N.st.length vsc) (.slice v5a (leL N N.st.length).length v5c) (.slice v6a (bsL N N.st.length).length v6c) (fE N A ab ((leL N N.st.length).take 0)) from ⟨hat1, hat2, fun s hs' => by simpa [fE] using hs.st s hs', hs.le, hs.bs⟩)
      have D := Lib.hid hd2
      clear hd hs hat1 hat2 hd2 hn hnl hi1 hx0 hx1 hx2 hi2 hy0 hy1 hy2 hi3 hz0 hz1 hz2
      have hl5 : (leL N N.st.length).length ≤ 1000 := by unfold leL; exact Nat.le_trans (List.length_filter_le _ _) (by simpa using hfew)
      have hl6 : (bsL N N.st.length).length ≤ 1000 := by unfold bsL; exact Nat.le_trans (List.length_filter_le _ _) (by simpa using hfew)
      have a9 : (a0.setIfInBounds 9 (.slice vsa N.st.length vsc))[9]? = some (.slice vsa N.st.length vsc) := by rw [Array.getElem?_setIfInBounds_self_of_lt (by omega)]
      go_upto_region 21 with fail
      go_loopw [83] (fun t83 wq => LpE1 N ab a0 k (0 :: 0 :: R) A (.slice vsa N.st.length vsc) (.slice v5a (leL N N.st.length).length v5c) (.slice v6a (bsL N N.st.length).length v6c) t83 wq) (fun t83 _ => (leL N N.st.length).length - (intOf t83).toNat)
      case atStart => exact ⟨0, gr, rfl, Nat.zero_le _, D.out, R0.out⟩
      case round =>
        clear D R0
        obtain ⟨i, gi, rfl, hi, hd, hs⟩ := hrel
        by_cases hil : i < (leL N N.st.length).length
        · have hil' : (i : Int) < ((leL N N.st.length).length : Int) := by omega
          obtain ⟨s, hs1⟩ : ∃ s, (leL N N.st.length)[i]? = some s := ⟨(leL N N.st.length)[i]'hil, by simp⟩
          have hsm := List.mem_of_getElem? hs1
          have hsM := leL_lt hsm
          have hs12 : N.kind s = 12 := by unfold leL at hsm; simpa using (List.mem_filter.1 hsm).2
          have harg := KO.out.le s hsM hs12
          have o6 := (hd.rw 6 _ hs.le).1
          have o0 := (hd.rw 0 _ hs.a2).1
          simp only at o6 o0
          obtain ⟨q5, c5, hq5, _⟩ := own_form o6 (by omega)
          obtain ⟨q0, c0, hq0, _⟩ := own_form o0 (by omega)
          cases hq5
          cases hq0
          have e0 : wr.cell? ⟨q5, i * 2, none⟩ = some (.pointer (some ⟨A s, 0, none⟩)) := own_cell o6 _ _ (by have := flatMap_at (leX N A) 2 (fun _ => rfl) _ i s hs1 0 (by omega); simpa [leX] using this)
          have e1 : wr.cell? ⟨q5, i * 2 + 1, none⟩ = some (.int .i64 (lsA N s).arg) := own_cell o6 _ _ (by have := flatMap_at (leX N A) 2 (fun _ => rfl) _ i s hs1 1 (by omega); simpa [leX] using this)
          have e2 : wr.cell? ⟨q0, (lsA N s).arg, none⟩ = some (ifA N A (lsA N s).arg) := own_cell o0 _ _ (by simp [harg])
          have bb : Blk wr ab 117 (a0.setIfInBounds 9 (.slice (some ⟨q0, 0, none⟩) N.st.length vsc)) := (hd.bl 0 _ hs.a1).1
          have e9 : wr.cell? ⟨ab, 9, none⟩ = some (.slice (some ⟨q0, 0, none⟩) N.st.length vsc) := (bb.cell 9).trans a9
          have hcap5 : ((leL N N.st.length).length : Int) ≤ (v5c : Int) := by have := own_cap o6; omega
          have hcap0 : (N.st.length : Int) ≤ (vsc : Int) := by have := own_cap o0; omega
          have hargi : ((lsA N s).arg : Int) < (N.st.length : Int) := by omega
          have D := Lib.hid hd
          have S := Lib.hid hs
          clear hd hs o6 o0 bb
          go_upto_region 23 with fail
          have bE := Blk.new wr 255 #[.pointer (some ⟨A s, 0, none⟩), .int .i64 (lsA N s).arg]
          have DE := Lib.hid (D.out.alloc (.cells #[.pointer (some ⟨A s, 0, none⟩), .int .i64 (lsA N s).arg] 255))
          have kE : Kp (fun _ => True) wr (wr.alloc (.cells #[.pointer (some ⟨A s, 0, none⟩), .int .i64 (lsA N s).arg] 255)) := Kp.alloc _ _
          replace e2 := (World.cell?_of_block (kE.blk _ (cell_lt e2) trivial)).trans e2
          replace e9 := (World.cell?_of_block (kE.blk _ (cell_lt e9) trivial)).trans e9
          obtain ⟨eb, heb⟩ : ∃ eb, eb = wr.heap.size := ⟨_, rfl⟩
          rw [← heb] at bE ⊢
          clear e0 e1 D kE heb
          generalize wr.alloc (.cells #[.pointer (some ⟨A s, 0, none⟩), .int .i64 (lsA N s).arg] 255) = wE at bE DE e2 e9 ⊢
          have e0 : wE.cell? ⟨eb, 0, none⟩ = some (.pointer (some ⟨A s, 0, none⟩)) := bE.cell 0
          have e1 : wE.cell? ⟨eb, 1, none⟩ = some (.int .i64 (lsA N s).arg) := bE.cell 1
          have bs7 : Blk wE (A s) (bTy (N.kind s)) (fE N A ab ((leL N N.st.length).take i) s) := (DE.out.bl _ _ (S.out.st s hsM)).1
          have z7 : (wE.cell? ⟨A s, 7, none⟩).isSome = true := by rw [bs7.cell 7]; unfold fE cBs; rw [hs12]; split <;> simp [sC, sXt]
          have z7f : wE.frozen? ⟨A s, 7, none⟩ = false := bs7.free 7
          obtain ⟨z7u, z7v⟩ := Option.isSome_iff_exists.1 z7
          have hD2 := (DE.out.set (S.out.st s hsM) 7 (ifA N A (lsA N s).arg)).drew
          have hS2 := S.out.set (s := s) 7 (ifA N A (lsA N s).arg) (fE_snoc N A ab ((leL N N.st.length).take i) s) (fun q hq => fE_ne N A ab _ s q hq)
          have et : (leL N N.st.length).take (i + 1) = (leL N N.st.length).take i ++ [s] := by rw [List.take_add_one, hs1]; rfl
          rw [← et] at hS2
          have D2 := Lib.hid hD2
          have S2 := Lib.hid hS2
          clear hD2 hS2 bE bs7 z7 S DE a9 et
          unfold ifA at e2 D2
          go_still_tail 12, (by kernel_rfl)
          change wpList _ _ _ _ _ wE.drew
          go_wp2_with fail
          exact ⟨⟨i + 1, _, by simp, by omega, D2.out, S2.out⟩, by simp [intOf]; omega⟩
        · have hil' : ¬ (i : Int) < ((leL N N.st.length).length : Int) := by omega
          have hie : i = (leL N N.st.length).length := by omega
          subst hie
          have D := Lib.hid hd
          have S0 := Lib.hid (show RS2 N ab a0 gi A (.slice vsa N.st.length vsc) (.slice v5a (leL N N.st.length).length v5c) (.slice v6a (bsL N N.st.length).length v6c) (fBl N A ab ((bsL N N.st.length).take 0)) from by
            have e : fBl N A ab ((bsL N N.st.length).take 0) = fE N A ab ((leL N N.st.length).take (leL N N.st.length).length) := by
              funext q; simp [fBl]
            rw [e]; exact hs)
          clear hd hs hi hil
          go_upto_region 26 with fail
          go_loopw [102] (fun t102 wq => LpE2 N ab a0 k (0 :: 0 :: R) A (.slice vsa N.st.length vsc) (.slice v5a (leL N N.st.length).length v5c) (.slice v6a (bsL N N.st.length).length v6c) t102 wq) (fun t102 _ => (bsL N N.st.length).length - (intOf t102).toNat)
          case atStart => exact ⟨0, gi, rfl, Nat.zero_le _, D.out, S0.out⟩
          case round =>
            clear D S0 hil'
            obtain ⟨i, gi, rfl, hi, hd, hs⟩ := hrel
            by_cases hil : i < (bsL N N.st.length).length
            · have hil' : (i : Int) < ((bsL N N.st.length).length : Int) := by omega
              obtain ⟨s, hs1⟩ : ∃ s, (bsL N N.st.length)[i]? = some s := ⟨(bsL N N.st.length)[i]'hil, by simp⟩
              have hsm := List.mem_of_getElem? hs1
              have hsM := bsL_lt hsm
              have hsB : isB N s = true := by unfold bsL at hsm; simpa using (List.mem_filter.1 hsm).2
              obtain ⟨harg, hk8⟩ := KO.out.bs s hsM hsB
              have o6 := (hd.rw 7 _ hs.bs).1
              have o0 := (hd.rw 0 _ hs.a2).1
              simp only at o6 o0
              obtain ⟨q5, c5, hq5, _⟩ := own_form o6 (by omega)
              obtain ⟨q0, c0, hq0, _⟩ := own_form o0 (by omega)
              cases hq5
              cases hq0
              have e0 : wr.cell? ⟨q5, i * 2, none⟩ = some (ifA N A s) := own_cell o6 _ _ (by have := flatMap_at (bsX N A) 2 (fun _ => rfl) _ i s hs1 0 (by omega); simpa [bsX] using this)
              have e1 : wr.cell? ⟨q5, i * 2 + 1, none⟩ = some (.int .i64 (lsA N s).arg) := own_cell o6 _ _ (by have := flatMap_at (bsX N A) 2 (fun _ => rfl) _ i s hs1 1 (by omega); simpa [bsX] using this)
              have e2 : wr.cell? ⟨q0, (lsA N s).arg, none⟩ = some (ifA N A (lsA N s).arg) := own_cell o0 _ _ (by simp [harg])
              have e28 : ifA N A (lsA N s).arg = .iface 264 (.pointer (some ⟨A (lsA N s).arg, 0, none⟩)) := by unfold ifA; rw [hk8]; rfl
              rw [e28] at e2
              unfold ifA at e0
              have hT := isB_ty hsB
              have bb : Blk wr ab 117 (a0.setIfInBounds 9 (.slice (some ⟨q0, 0, none⟩) N.st.length vsc)) := (hd.bl 0 _ hs.a1).1
              have e9 : wr.cell? ⟨ab, 9, none⟩ = some (.slice (some ⟨q0, 0, none⟩) N.st.length vsc) := (bb.cell 9).trans a9
              have hcap5 : ((bsL N N.st.length).length : Int) ≤ (v6c : Int) := by have := own_cap o6; omega
              have hcap0 : (N.st.length : Int) ≤ (vsc : Int) := by have := own_cap o0; omega
              have hargi : ((lsA N s).arg : Int) < (N.st.length : Int) := by omega
              have D := Lib.hid hd
              have S := Lib.hid hs
              clear hd hs o6 o0 bb e28
              have d1 := fun a w => dSetEnd hT a w
              have d2 := fun a w => taEnd a w
              generalize hTT : kTy (N.kind s) = T at *
              go_upto_region 28 with fail
              have bE := Blk.new wr 260 #[.iface T (.pointer (some ⟨A s, 0, none⟩)), .int .i64 (lsA N s).arg]
              have DE := Lib.hid (D.out.alloc (.cells #[.iface T (.pointer (some ⟨A s, 0, none⟩)), .int .i64 (lsA N s).arg] 260))
              have kE : Kp (fun _ => True) wr (wr.alloc (.cells #[.iface T (.pointer (some ⟨A s, 0, none⟩)), .int .i64 (lsA N s).arg] 260)) := Kp.alloc _ _
              replace e2 := (World.cell?_of_block (kE.blk _ (cell_lt e2) trivial)).trans e2
              replace e9 := (World.cell?_of_block (kE.blk _ (cell_lt e9) trivial)).trans e9
              obtain ⟨eb, heb⟩ : ∃ eb, eb = wr.heap.size := ⟨_, rfl⟩
              rw [← heb] at bE ⊢
              clear e0 e1 D kE heb
              generalize wr.alloc (.cells #[.iface T (.pointer (some ⟨A s, 0, none⟩)), .int .i64 (lsA N s).arg] 260) = wE at bE DE e2 e9 ⊢
              have e0 : wE.cell? ⟨eb, 0, none⟩ = some (.iface T (.pointer (some ⟨A s, 0, none⟩))) := bE.cell 0
              have e1 : wE.cell? ⟨eb, 1, none⟩ = some (.int .i64 (lsA N s).arg) := bE.cell 1
              have bs7 : Blk wE.drew (A s) (bTy (N.kind s)) (fBl N A ab ((bsL N N.st.length).take i) s) := (DE.out.drew.bl _ _ (S.out.st s hsM)).1
              have z7 : (wE.drew.cell? ⟨A s, 9, none⟩).isSome = true := by rw [bs7.cell 9]; exact fBl9 hsB
              have z7f : wE.drew.frozen? ⟨A s, 9, none⟩ = false := bs7.free 9
              have hD2 := DE.out.drew.set (S.out.st s hsM) 9 (.pointer (some ⟨A (lsA N s).arg, 0, none⟩))
              have hS2 := S.out.set (s := s) 9 (.pointer (some ⟨A (lsA N s).arg, 0, none⟩)) (fBl_snoc N A ab ((bsL N N.st.length).take i) s) (fun q hq => fBl_ne N A ab _ s q hq)
              have et : (bsL N N.st.length).take (i + 1) = (bsL N N.st.length).take i ++ [s] := by rw [List.take_add_one, hs1]; rfl
              rw [← et] at hS2
              have D2 := Lib.hid hD2
              have S2 := Lib.hid hS2
              clear hD2 hS2 bE bs7 S DE a9 et
              go_still_tail 13, (by kernel_rfl)
              change wpList _ _ _ _ _ wE.drew
              go_wp2_with (first | (go_at_call 306; refine (sEnd _ _ _ z7 z7f).mono ?_; rintro e wz ⟨rfl, hw⟩; simp only at D2; replace D2 := Lib.hid (show DM k _ wz (0 :: 0 :: R) from hw ▸ D2.out); clear hw))
              exact ⟨⟨i + 1, _, by simp, by omega, D2.out, S2.out⟩, by simp [intOf]; omega⟩
            · have hil' : ¬ (i : Int) < ((bsL N N.st.length).length : Int) := by omega
              have hie : i = (bsL N N.st.length).length := by omega
              subst hie
              have D := Lib.hid hd
              have S := Lib.hid hs
              clear hd hs hi hil
              go_wp2_with (first | (go_at_call 92; refine (rdd_any D.out).mono ?_; rintro e wn ⟨rfl, hd⟩; replace D := Lib.hid hd; clear hd))
              go_loopw [20] (fun t20 wq => t20 = .int .i64 0 ∧ wq = wn) (fun _ _ => 0)
              case atStart => exact ⟨rfl, rfl⟩
              case round =>
                obtain ⟨rfl, rfl⟩ := hrel
                go_wp2_with (first | (go_at_call 92; refine (rdd_any D.out).mono ?_; rintro e wm ⟨rfl, hd⟩; replace D := Lib.hid hd; clear hd))
                go_loopw [23] (fun t23 wq => t23 = .int .i64 0 ∧ wq = wm) (fun _ _ => 0)
                case atStart => exact ⟨rfl, rfl⟩
                case round =>
                  obtain ⟨rfl, rfl⟩ := hrel
                  go_wp2_with fail
                  go_end0
                  have S2 := S.out
                  rw [List.take_of_length_le (Nat.le_refl _)] at S2
                  exact ⟨rfl, gi, A, D.out, ⟨_, S2.a1, S2.a2⟩, fun s hs => by rw [S2.st s hs, c2s_eq hs]⟩
end Go.Proofs
end
