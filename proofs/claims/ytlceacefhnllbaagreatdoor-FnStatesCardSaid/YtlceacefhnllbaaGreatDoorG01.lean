/- A part of the proof of the statement on the law FnStates, which the last text proves: part G01. -/
import Derived.Test.YtlceacefhnllbaaGreatDoorG00
set_option linter.all false
section
namespace Go.Proofs
open Go.RowKit
/-! ## maps keyed by ints -/

def MapI (w : World) (r : Nat) (kvs : List (Int × Value)) : Prop :=
  ∃ es clock, w.heap[r]? = some (.map es clock) ∧ es.toList.map (fun e => (e.key, e.val)) = kvs.map fun x => (Value.int .i64 x.1, x.2)

theorem findNow_list (k : Int) : ∀ (es : List MapEntry) (kvs : List (Int × Value)) (i : Nat), es.map (fun e => (e.key, e.val)) = kvs.map (fun x => (Value.int .i64 x.1, x.2)) →
    (kvs.lookup k = none → Instr.findNow (.int .i64) (.int .i64 k) es i = some none) ∧
    (∀ v, kvs.lookup k = some v → ∃ j, Instr.findNow (.int .i64) (.int .i64 k) es i = some (some (j, v)))
  | [], kvs, i, h => by
    have : kvs = [] := by cases kvs with | nil => rfl | cons a b => simp at h
    subst this
    exact ⟨fun _ => rfl, fun v hv => by simp at hv⟩
  | e :: es, [], i, h => by simp at h
  | e :: es, (k', v') :: kvs, i, h => by
    simp only [List.map_cons, List.cons.injEq, Prod.mk.injEq] at h
    obtain ⟨⟨h1, h2⟩, h3⟩ := h
    have ih := findNow_list k es kvs (i + 1) h3
    simp only [Instr.findNow, h1, Instr.sameNow, if_true, List.lookup_cons]
    by_cases hk : k = k'
    · subst hk
      simp [h2]
    · have hk' : (k == k') = false := by simpa using hk
      simp only [hk']
      exact ih

section
variable {P : Program} (w : World)

theorem run_checkI (h3 : P.underlying 3 = some (.int .i64)) (b : Bool) (n : Nat) (k : Int) : (Instr.checkKey b (n + 1) 3 (.int .i64 k)).run P w = .ok () w := by
  unfold Instr.checkKey
  simp [run_underlying h3]

theorem run_lookupI (T E : TypeId) (ht : P.underlying T = some (.map 3 E)) (h3 : P.underlying 3 = some (.int .i64)) (z : Value) (hz : (zeroValue E).run P w = .ok z w) (r : Nat) (kvs : List (Int × Value)) (hm : MapI w r kvs) (k : Int) :
    (Instr.lookup T (.map (some r)) (.int .i64 k) false).run P w = .ok ((kvs.lookup k).getD z) w := by
  obtain ⟨es, clock, hb, he⟩ := hm
  have hf := findNow_list k es.toList kvs 0 he
  cases hl : kvs.lookup k with
  | none =>
    have h1 := hf.1 hl
    simp [Instr.lookup, run_underlying ht, getObj, Sem.run, hb, run_checkI w h3 _ 9999, run_underlying h3, Instr.findKey, h1, hz]
  | some v =>
    obtain ⟨j, h1⟩ := hf.2 v hl
    simp [Instr.lookup, run_underlying ht, getObj, Sem.run, hb, run_checkI w h3 _ 9999, run_underlying h3, Instr.findKey, h1]

end

/-- What is found, as a function of the world. -/
def lkv (w : World) (r : Nat) (k : Int) (z : Value) : Value :=
  match w.heap[r]? with
  | some (.map es _) => match Instr.findNow (.int .i64) (.int .i64 k) es.toList 0 with | some (some (_, v)) => v | _ => z
  | _ => z
/-- The world with a key's value stored. -/
def updI (w : World) (r : Nat) (k : Int) (v : Value) : World :=
  match w.heap[r]? with
  | some (.map es clock) => match Instr.findNow (.int .i64) (.int .i64 k) es.toList 0 with
    | some (some (i, _)) => ChangeMaps.setBlock w r (.map (es.modify i fun e => { e with key := .int .i64 k, val := v }) clock)
    | _ => ChangeMaps.setBlock w r (.map (es.push { key := .int .i64 k, val := v, born := clock }) (clock + 1))
  | _ => w
def upK (k : Int) (v : Value) : List (Int × Value) → List (Int × Value)
  | [] => [(k, v)]
  | (k', v') :: r => if k' = k then (k, v) :: r else (k', v') :: upK k v r

theorem lookup_upK (k : Int) (v : Value) (k' : Int) : ∀ kvs : List (Int × Value), (upK k v kvs).lookup k' = if k' = k then some v else kvs.lookup k'
  | [] => by
    by_cases h : k' = k
    · simp [upK, h]
    · have h3 : (k' == k) = false := by simpa using h
      simp [upK, List.lookup_cons, h, h3]
  | (a, b) :: r => by
    have ih := lookup_upK k v k' r
    by_cases h : a = k
    · subst h
      by_cases h2 : k' = a
      · simp [upK, h2]
      · have h3 : (k' == a) = false := by simpa using h2
        simp [upK, List.lookup_cons, h2, h3]
    · by_cases h2 : k' = a
      · subst h2; simp [upK, h, List.lookup_cons]
      · have h3 : (k' == a) = false := by simpa using h2
        simp [upK, h, List.lookup_cons, h3, ih]

theorem upK_mem (k : Int) (v : Value) (x : Int × Value) : ∀ kvs : List (Int × Value), x ∈ upK k v kvs → x = (k, v) ∨ x ∈ kvs
  | [], h => by simpa [upK] using h
  | (a, b) :: r, h => by
    unfold upK at h
    split at h
    · rcases List.mem_cons.mp h with h | h
      · exact .inl h
      · exact .inr (List.mem_cons_of_mem _ h)
    · rcases List.mem_cons.mp h with h | h
      · exact .inr (h ▸ List.mem_cons_self)
      · rcases upK_mem k v x r h with h | h
        · exact .inl h
        · exact .inr (List.mem_cons_of_mem _ h)

theorem findNow_up (k : Int) (v : Value) : ∀ (es : List MapEntry) (kvs : List (Int × Value)) (i : Nat), es.map (fun e => (e.key, e.val)) = kvs.map (fun x => (Value.int .i64 x.1, x.2)) →
    match Instr.findNow (.int .i64) (.int .i64 k) es i with
    | some (some (j, u)) => ∃ j', j = i + j' ∧ (es[j']?).map (·.key) = some (.int .i64 k) ∧ kvs.lookup k = some u ∧ (es.modify j' fun e => { e with key := .int .i64 k, val := v }).map (fun e => (e.key, e.val)) = (upK k v kvs).map (fun x => (Value.int .i64 x.1, x.2))
    | some none => kvs.lookup k = none ∧ upK k v kvs = kvs ++ [(k, v)]
    | none => False
  | [], kvs, i, h => by
    have : kvs = [] := by cases kvs with | nil => rfl | cons a b => simp at h
    subst this
    exact ⟨rfl, rfl⟩
  | e :: es, [], i, h => by simp at h
  | e :: es, (k', v') :: kvs, i, h => by
    simp only [List.map_cons, List.cons.injEq, Prod.mk.injEq] at h
    obtain ⟨⟨h1, h2⟩, h3⟩ := h
    have ih := findNow_up k v es kvs (i + 1) h3
    simp only [Instr.findNow, h1, Instr.sameNow]
    by_cases hk : k = k'
    · subst hk
      simp only [beq_self_eq_true, h1]
      exact ⟨0, rfl, by simp [h1], by simp [h2], by simp [upK, h3]⟩
    · have hk' : (k == k') = false := by simpa using hk
      have hk2 : ¬ k' = k := fun h => hk h.symm
      simp only [hk', if_true]
      revert ih
      cases Instr.findNow (.int .i64) (.int .i64 k) es (i + 1) with
      | none => exact id
      | some o =>
        cases o with
        | none => intro ih; exact ⟨by simp [List.lookup_cons, hk', ih.1], by simp [upK, hk2, ih.2]⟩
        | some p =>
          rintro ⟨j', hj0, hj1, hj2, hj3⟩
          exact ⟨j' + 1, by omega, by simpa using hj1, by simp [List.lookup_cons, hk', hj2], by simp [upK, hk2, h1, h2, hj3]⟩

theorem MapI.of {w w' : World} {r : Nat} {kvs : List (Int × Value)} (he : w'.heap[r]? = w.heap[r]?) (h : MapI w r kvs) : MapI w' r kvs := by
  unfold MapI; rw [he]; exact h
theorem MapI.lt {w : World} {r : Nat} {kvs : List (Int × Value)} (h : MapI w r kvs) : r < w.heap.size := by
  obtain ⟨_, _, h, _⟩ := h; exact lt_of_block h
theorem MapI.drew {w : World} {r : Nat} {kvs : List (Int × Value)} (h : MapI w r kvs) : MapI w.drew r kvs := h.of rfl
theorem MapI.alloc {w : World} {r : Nat} {kvs : List (Int × Value)} (o) (h : MapI w r kvs) : MapI (w.alloc o) r kvs := h.of (Below.heap_alloc w o r h.lt)
theorem MapI.grown {w w' : World} {r : Nat} {kvs : List (Int × Value)} {x : Option Nat} (hg : w.grownBy w' x) (hx : some r ≠ x) (h : MapI w r kvs) : MapI w' r kvs := h.of (hg.block r h.lt hx)

theorem updI_size (w : World) (r : Nat) (k : Int) (v : Value) : (updI w r k v).heap.size = w.heap.size := by
  unfold updI; repeat' split
  all_goals simp [ChangeMaps.setBlock]
theorem updI_other (w : World) (r : Nat) (k : Int) (v : Value) (j : Nat) (h : j ≠ r) : (updI w r k v).heap[j]? = w.heap[j]? := by
  unfold updI; repeat' split
  all_goals first | rfl | simp [ChangeMaps.setBlock, Ne.symm h]
theorem MapI.upd {w : World} {r : Nat} {kvs : List (Int × Value)} (h : MapI w r kvs) (k : Int) (v : Value) : MapI (updI w r k v) r (upK k v kvs) := by
  obtain ⟨es, clock, hb, he⟩ := h
  have hlt := lt_of_block hb
  have hf := findNow_up k v es.toList kvs 0 he
  unfold updI
  simp only [hb]
  split
  · rename_i i u hfi
    simp only [hfi] at hf
    obtain ⟨j', rfl, h1, h2, h3⟩ := hf
    refine ⟨es.modify (0 + j') fun e => { e with key := .int .i64 k, val := v }, clock, by simp [ChangeMaps.setBlock, hlt], ?_⟩
    rw [← h3, Nat.zero_add, Array.toList_modify]
  · rename_i hno
    have hnone : upK k v kvs = kvs ++ [(k, v)] := by
      cases hfi : Instr.findNow (.int .i64) (.int .i64 k) es.toList 0 with
      | none => rw [hfi] at hf; exact hf.elim
      | some o => cases o with
        | none => rw [hfi] at hf; exact hf.2
        | some p => exact (hno p.1 p.2 hfi).elim
    refine ⟨es.push { key := .int .i64 k, val := v, born := clock }, clock + 1, by simp [ChangeMaps.setBlock, hlt], ?_⟩
    simp [he, hnone]

section
variable {P : Program} (w : World)
theorem lkv_eq {r : Nat} {kvs : List (Int × Value)} (hm : MapI w r kvs) (k : Int) (z : Value) : lkv w r k z = (kvs.lookup k).getD z := by
  obtain ⟨es, clock, hb, he⟩ := hm
  have hf := findNow_up k z es.toList kvs 0 he
  unfold lkv
  simp only [hb]
  cases hfi : Instr.findNow (.int .i64) (.int .i64 k) es.toList 0 with
  | none => rw [hfi] at hf; exact hf.elim
  | some o => cases o with
    | none => rw [hfi] at hf; simp [hf.1]
    | some p => rw [hfi] at hf; obtain ⟨_, _, _, h, _⟩ := hf; simp [h]
theorem run_lookupL (T E : TypeId) (ht : P.underlying T = some (.map 3 E)) (h3 : P.underlying 3 = some (.int .i64)) (z : Value) (hz : (zeroValue E).run P w = .ok z w) (r : Nat) (kvs : List (Int × Value)) (hm : MapI w r kvs) (k : Int) :
    (Instr.lookup T (.map (some r)) (.int .i64 k) false).run P w = .ok (lkv w r k z) w := by
  rw [lkv_eq w hm, run_lookupI w T E ht h3 z hz r kvs hm k]
theorem run_updI (T E : TypeId) (ht : P.underlying T = some (.map 3 E)) (h3 : P.underlying 3 = some (.int .i64)) (r : Nat) (kvs : List (Int × Value)) (hm : MapI w r kvs) (k : Int) (v : Value) :
    (Instr.mapUpdate T (.map (some r)) (.int .i64 k) v).run P w = .ok () (updI w r k v) := by
  obtain ⟨es, clock, hb, he⟩ := hm
  have hf := findNow_up k v es.toList kvs 0 he
  cases hfi : Instr.findNow (.int .i64) (.int .i64 k) es.toList 0 with
  | none => rw [hfi] at hf; exact hf.elim
  | some o => cases o with
    | none => simp [Instr.mapUpdate, run_underlying ht, getObj, setObj, Sem.run, hb, run_checkI w h3 _ 9999, run_underlying h3, Instr.findKey, hfi, ChangeMaps.setBlock, updI]
    | some p =>
      rw [hfi] at hf
      obtain ⟨j', hj, h1, h2, h3'⟩ := hf
      have h1' : Option.map (fun x => x.key) es[p.1]? = some (.int .i64 k) := by
        have : p.1 = j' := by omega
        rw [this]; simpa using h1
      simp [Instr.mapUpdate, run_underlying ht, getObj, setObj, Sem.run, hb, run_checkI w h3 _ 9999, run_underlying h3, Instr.findKey, hfi, ChangeMaps.setBlock, updI, h1', Instr.keyThatStays, Instr.sameBits]
end
end Go.Proofs
end
section
namespace Go.Proofs
open Go.RowKit
theorem dH1 (a : Addr) (w : World) : (method 715 394 (.pointer (some a)) "Hash1").run Tryz.prog w = .ok (360, .pointer (some a)) w := by kernel_rfl
theorem dE2 (a : Addr) (w : World) : (method 715 394 (.pointer (some a)) "Equals2").run Tryz.prog w = .ok (359, .pointer (some a)) w := by kernel_rfl
theorem info153 : (Tryz.prog.info? 153).map (fun i => (i.zero, i.size, i.bytes)) = some (some (.pointer none), 1, 8) := by kernel_rfl

/-- Nothing is said outward. -/
structure SO (w w' : World) : Prop where
  os : w'.os = w.os
  out : w'.output = w.output
theorem SO.trans {a b c : World} (h : SO a b) (g : SO b c) : SO a c := ⟨g.os.trans h.os, g.out.trans h.out⟩
theorem so_updI (w : World) (r : Nat) (k : Int) (v : Value) : SO w (updI w r k v) := by
  unfold updI
  constructor
  · split
    · split <;> rfl
    · rfl
  · split
    · split <;> rfl
    · rfl
theorem SO.set {a b : World} (h : SO a b) (x : Addr) (v : Value) : SO a (b.setCell x v) := ⟨h.os, h.out⟩
structure Kp (P : Nat → Prop) (w w' : World) : Prop where
  so : SO w w'
  size : w.heap.size ≤ w'.heap.size
  blk : ∀ k, k < w.heap.size → P k → w'.heap[k]? = w.heap[k]?
theorem Kp.rfl' {P : Nat → Prop} {w : World} : Kp P w w := ⟨⟨rfl, rfl⟩, Nat.le_refl _, fun _ _ _ => rfl⟩
theorem Kp.trans {P : Nat → Prop} {a b c : World} (h : Kp P a b) (g : Kp P b c) : Kp P a c :=
  ⟨SO.trans (h.so) (g.so), Nat.le_trans h.size g.size, fun k hk hp => (g.blk k (Nat.lt_of_lt_of_le hk h.size) hp).trans (h.blk k hk hp)⟩
theorem Kp.weak {P Q : Nat → Prop} {a b : World} (h : Kp P a b) (hq : ∀ k, Q k → P k) : Kp Q a b := ⟨h.so, h.size, fun k hk hp => h.blk k hk (hq k hp)⟩
theorem Kp.alloc {P : Nat → Prop} (w : World) (o : Obj) : Kp P w (w.alloc o) := ⟨⟨rfl, rfl⟩, by simp, fun k hk _ => Below.heap_alloc w o k hk⟩
theorem Kp.drew {P : Nat → Prop} (w : World) : Kp P w w.drew := ⟨⟨rfl, rfl⟩, Nat.le_refl _, fun _ _ _ => rfl⟩
theorem Kp.grown {P : Nat → Prop} {w w' : World} {x : Option Nat} (h : w.grownBy w' x) (hx : ∀ k, P k → some k ≠ x) : Kp P w w' := ⟨⟨h.os, h.output⟩, h.size, fun k hk hp => h.block k hk (hx k hp)⟩
theorem Kp.updI {P : Nat → Prop} (w : World) (r : Nat) (k : Int) (v : Value) (h : ¬ P r) : Kp P w (updI w r k v) := ⟨so_updI w r k v, by rw [updI_size]; exact Nat.le_refl _, fun j _ hp => updI_other w r k v j (fun e => h (e ▸ hp))⟩

theorem Blk.kept {w w' : World} {b : Nat} {T : TypeId} {c : Array Value} (h : Blk w b T c) (he : w'.heap[b]? = w.heap[b]?) : Blk w' b T c := by
  unfold Blk at *; rw [he]; exact h
theorem Kp.setCell {P : Nat → Prop} (w : World) (a : Addr) (v : Value) (h : ¬ P a.block) : Kp P w (w.setCell a v) := ⟨⟨rfl, rfl⟩, by simp, fun k _ hp => heap_setCell_other w a k v (fun e => h (e ▸ hp))⟩
theorem Blk.set {w : World} {b : Nat} {T : TypeId} {c : Array Value} (h : Blk w b T c) (i : Nat) (v : Value) (c' : Array Value) (hc : c.setIfInBounds i v = c') : Blk (w.setCell ⟨b, i, none⟩ v) b T c' := by
  subst hc; exact heap_setCell_same w b i c T v h
theorem own_kept {w w' : World} {base : Nat} {e : TypeId} {size g cap n : Nat} {xs : List Value} (h : w.ownsRow base e size (.slice (some ⟨g, 0, none⟩) n cap) n xs) (he : w'.heap[g]? = w.heap[g]?) :
    w'.ownsRow base e size (.slice (some ⟨g, 0, none⟩) n cap) n xs := by
  refine ⟨h.1, ?_⟩
  rcases h.2 with h | ⟨g', cap', cur, h1, h2⟩
  · exact .inl h
  · have : g = g' := (by injection h1 with h1; injection h1 with h1; injection h1)
    subst this
    exact .inr ⟨g, cap', cur, h1, by rw [he]; exact h2⟩
structure St (w : World) (stB mB : Nat) (cmp : Addr) (len : Int) (kvs : List (Int × Value)) : Prop where
  blk : Blk w stB 314 #[.map (some mB), .int .i64 len, .iface 394 (.pointer (some cmp))]
  map : MapI w mB kvs

set_option maxRecDepth 100000 in
/-- What a region keeps of a store. -/
theorem S_of {w' : World} {stB mB T E : Nat} (k : Int) (z : Value) (ht : Tryz.prog.underlying T = some (.map 3 E)) (hz : ∀ w, (zeroValue E).run Tryz.prog w = .ok z w) (h1 : w'.cell? ⟨stB, 0, none⟩ = some (.map (some mB))) (h2 : ∃ kvs, MapI w' mB kvs) :
    w'.cell? ⟨stB, 0, none⟩ = some (.map (some mB)) ∧ (Instr.lookup T (.map (some mB)) (.int .i64 k) false).run Tryz.prog w' = .ok (lkv w' mB k z) w' ∧
    (∀ v, (Instr.mapUpdate T (.map (some mB)) (.int .i64 k) v).run Tryz.prog w' = .ok () (updI w' mB k v)) ∧ ∃ kvs, MapI w' mB kvs := by
  obtain ⟨kvs, h2⟩ := h2
  exact ⟨h1, run_lookupL w' T E ht Tryz.underlying3 z (hz _) mB kvs h2 k, fun v => run_updI w' T E ht Tryz.underlying3 mB kvs h2 k v, kvs, h2⟩

theorem EMapI.drew {w : World} {r : Nat} (h : ∃ kvs, MapI w r kvs) : ∃ kvs, MapI w.drew r kvs := h.imp fun _ h => h.drew
theorem EMapI.alloc {w : World} {r : Nat} (o) (h : ∃ kvs, MapI w r kvs) : ∃ kvs, MapI (w.alloc o) r kvs := h.imp fun _ h => h.alloc o
theorem EMapI.grown {w w' : World} {r : Nat} {x : Option Nat} (hg : w.grownBy w' x) (hx : some r ≠ x) (h : ∃ kvs, MapI w r kvs) : ∃ kvs, MapI w' r kvs := h.imp fun _ h => h.grown hg hx
theorem EMapI.upd {w : World} {r : Nat} (k : Int) (v : Value) (h : ∃ kvs, MapI w r kvs) : ∃ kvs, MapI (updI w r k v) r kvs := let ⟨_, h⟩ := h; ⟨_, h.upd k v⟩
theorem updI_cell (w : World) (r : Nat) (k : Int) (v : Value) (a : Addr) (h : a.block ≠ r) : (updI w r k v).cell? a = w.cell? a := World.cell?_of_block (updI_other w r k v a.block h)

set_option maxRecDepth 100000 in
set_option maxHeartbeats 400000 in
theorem put_new (stB mB : Nat) (cmp : Addr) (len : Int) (kvs : List (Int × Value)) (b : Nat) (T : TypeId) (sb : Nat) (n alt : Int) (cb pb : Nat) (w : World) (hs : St w stB mB cmp len kvs) (h : CfAt w b T sb n alt cb pb)
    (hk : kvs.lookup (lhI n alt) = none) :
    Calls Tryz.prog 189 #[.pointer (some ⟨stB, 0, none⟩), .pointer (some ⟨b, 0, none⟩)] w fun e w' => e = .returned (.tuple #[.pointer (some ⟨b, 0, none⟩), .bool false]) ∧ ∃ g cap len', Kp (fun k => k ≠ stB ∧ k ≠ mB) w w' ∧ w.heap.size ≤ g ∧
      w'.ownsRow 0 153 1 (.slice (some ⟨g, 0, none⟩) 1 cap) 1 [.pointer (some ⟨b, 0, none⟩)] ∧ St w' stB mB cmp len' (upK (lhI n alt) (.slice (some ⟨g, 0, none⟩) 1 cap) kvs) := by
  obtain ⟨i0, hi0, hz0, hz1, hz2⟩ := info_parts info153
  have hc := hs.blk.cell
  have hfz := hs.blk.free
  have hmm : ∃ kvs, MapI w mB kvs := ⟨_, hs.map⟩
  have lt1 := hs.blk.lt
  have lt2 := hs.map.lt
  have hne : stB ≠ mB := by
    intro e; subst e
    obtain ⟨_, _, h1, _⟩ := hs.map
    have h2 := hs.blk
    unfold Blk at h2
    rw [h1] at h2
    simp at h2
  have hlk := run_lookupI w 312 144 Tryz.underlying312 Tryz.underlying3 (.slice none 0 0) rfl mB kvs hs.map (lhI n alt)
  rw [hk] at hlk
  have l1 : lkv w.drew mB (lhI n alt) (.slice none 0 0) = .slice none 0 0 := by rw [lkv_eq _ hs.map.drew, hk]; rfl
  have l2 : ∀ o, lkv (w.drew.alloc o) mB (lhI n alt) (.slice none 0 0) = .slice none 0 0 := fun o => by rw [lkv_eq _ (hs.map.drew.alloc o), hk]; rfl
  have H := Lib.hid h
  have d1 := fun a => dH1 a w
  clear h
  go_enter Tryz.func189, Tryz.ntmps189
  go_wp2_with (first | (go_at_call 360; refine (hash1_any _ _ _ _ _ _ _ _ _ H.out).mono ?_; rintro e w' ⟨rfl, rfl⟩))
  refine wp_loop_once ?_
  go_wp2_with fail
  have c0 : w.cell? ⟨stB, 0, none⟩ = some (.map (some mB)) := (hc 0).trans rfl
  have hown : w.ownsRow 0 153 1 (.slice none 0 0) 0 [] := ⟨rfl, .inl ⟨rfl, rfl⟩⟩
  go_region_held3 (fun w' => w'.cell? ⟨stB, 0, none⟩ = some (.map (some mB)) ∧ (Instr.lookup 312 (.map (some mB)) (.int .i64 (lhI n alt)) false).run Tryz.prog w' = .ok (lkv w' mB (lhI n alt) (.slice none 0 0)) w' ∧
      (∀ v, (Instr.mapUpdate 312 (.map (some mB)) (.int .i64 (lhI n alt)) v).run Tryz.prog w' = .ok () (updI w' mB (lhI n alt) v)) ∧ ∃ kvs, MapI w' mB kvs)
    ((go_split_ands; refine S_of _ _ Tryz.underlying312 (fun _ => rfl) ?_ ?_ <;> first | assumption | go_keep | exact EMapI.drew (by assumption) | exact EMapI.drew (EMapI.alloc _ (by assumption)) | exact EMapI.upd _ _ (by assumption) | (rw [updI_cell _ _ _ _ _ hne]; assumption) | (rw [hgrow.cell_far _ (by simp; omega) (by simp [Value.ownBlock])]; first | assumption | go_keep) | exact EMapI.grown hgrow (by simp [Value.ownBlock]) (by first | assumption | exact EMapI.drew (by assumption) | exact EMapI.drew (EMapI.alloc _ (by assumption)))))
    ((refine step_append_lies _ (by rfl) _ _ _ (by rfl) 0 153 i0 _ 1 8 Tryz.underlying144 hi0 hz0 hz1 hz2 rfl (by omega) (.slice none 0 0) 0 [] (by first | rfl | exact l1 | exact l2 _) ((hown.alloc _).drew) ⟨w.heap.size, 0, none⟩ 1 1 [.pointer (some ⟨b, 0, none⟩)] (by rfl) (by rfl) (World.news_of_block (cs := #[.pointer (some ⟨b, 0, none⟩)]) (t := 153) (fr := (0, 0)) (heap_alloc_new w _)) (by simp [Value.oneCell']) (by omega) (by simp [maxLen]) (by omega) (by simp) (w.heap.size + 1) (by simp) ?_; intro gg cap w1 hown1 hgrow hat hlt))
  all_goals go_split_ands
  all_goals have hm1 : MapI w1 mB kvs := by first | exact MapI.grown hgrow (by simp [Value.ownBlock]) (MapI.drew (MapI.alloc _ hs.map)) | exact MapI.grown hgrow (by simp [Value.ownBlock]) (MapI.alloc _ (MapI.drew hs.map))
  all_goals have g1 : w.heap.size ≤ gg := by rcases hat with h | h <;> first | (simp [Value.ownBlock] at h; done) | omega
  all_goals have kp1 : Kp (fun _ => True) w w1 := by first | exact ((Kp.alloc _ _).trans (Kp.drew _)).trans (Kp.grown hgrow (by simp [Value.ownBlock])) | exact ((Kp.drew _).trans (Kp.alloc _ _)).trans (Kp.grown hgrow (by simp [Value.ownBlock])) 
  all_goals have kp2 : Kp (fun k => k ≠ mB) w (updI w1 mB (lhI n alt) (.slice (some ⟨gg, 0, none⟩) 1 cap)) := (kp1.weak (fun _ _ => trivial)).trans (Kp.updI _ _ _ _ (by simp))
  all_goals have b1 : Blk (updI w1 mB (lhI n alt) (.slice (some ⟨gg, 0, none⟩) 1 cap)) stB 314 _ := hs.blk.kept (kp2.blk stB lt1 hne)
  all_goals have b1c := b1.cell
  all_goals have b1f := b1.free
  all_goals go_wp2
  all_goals go_ret2
  all_goals
    refine ⟨by simp, gg, cap, _, (kp2.weak (fun _ h => h.2)).trans (Kp.setCell _ _ _ (by simp)), g1, own_kept (w := w1) hown1 ?_, b1.set 1 _ _ rfl, ((hm1.upd _ _).of ?_)⟩
    · rw [heap_setCell_other _ _ _ _ (by simp; omega), updI_other _ _ _ _ _ (by omega)]
    · rw [heap_setCell_other _ _ _ _ (by simp; omega)]
end Go.Proofs
end
section
namespace Go.Proofs
open Go.RowKit
set_option maxRecDepth 100000 in
set_option maxHeartbeats 400000 in
/-- The same stands already under this hash. -/
theorem put_present (stB mB : Nat) (cmp : Addr) (len : Int) (kvs : List (Int × Value)) (b : Nat) (T : TypeId) (sb : Nat) (n alt : Int) (cb pb : Nat) (w : World) (hs : St w stB mB cmp len kvs) (h : CfAt w b T sb n alt cb pb)
    (g cap : Nat) (hk : kvs.lookup (lhI n alt) = some (.slice (some ⟨g, 0, none⟩) 1 cap)) (b0 : Nat) (T0 : TypeId) (s0 c0 p0 : Nat) (a0 : Int) (h0 : Blk w b0 161 (confCells T0 s0 a0 c0 p0))
    (hg : w.cell? ⟨g, 0, none⟩ = some (.pointer (some ⟨b0, 0, none⟩))) :
    Calls Tryz.prog 189 #[.pointer (some ⟨stB, 0, none⟩), .pointer (some ⟨b, 0, none⟩)] w fun e w' => e = .returned (.tuple #[.pointer (some ⟨b0, 0, none⟩), .bool true]) ∧ ∃ n, w.drewN n = w' := by
  have hc := hs.blk.cell
  have hlk := run_lookupI w 312 144 Tryz.underlying312 Tryz.underlying3 (.slice none 0 0) rfl mB kvs hs.map (lhI n alt)
  rw [hk] at hlk
  have H := Lib.hid h
  have H0 := Lib.hid h0
  have d1 := fun a => dH1 a w
  have d2 := fun a => dE2 a w
  clear h h0
  go_enter Tryz.func189, Tryz.ntmps189
  go_wp2_with (first | (go_at_call 360; refine (hash1_any _ _ _ _ _ _ _ _ _ H.out).mono ?_; rintro e w' ⟨rfl, rfl⟩))
  refine wp_loop_once ?_
  go_wp2_with fail
  refine (eq2_any _ _ _ _ _ _ _ _ _ _ _ _ _ _ H.out.blk H0.out).mono ?_
  rintro e w' ⟨rfl, m, rfl⟩
  go_wp2_with fail
  go_ret2
  exact ⟨rfl, m, rfl⟩
end Go.Proofs
end
section
namespace Go.Proofs
open Go.RowKit
set_option maxRecDepth 100000 in
set_option maxHeartbeats 400000 in
theorem pempty_any (a : Nat) (w : World) (ha : Ctx w a) :
    Calls Tryz.prog 164 #[.pointer (some ⟨a, 0, none⟩)] w fun e w' => e = .returned (.bool true) ∧ w = w' := by
  have h1 := ha.cell
  clear ha
  go_enter Tryz.func164, Tryz.ntmps164
  go_wp2_with fail
  go_ret
  exact ⟨rfl, rfl⟩

theorem inf157 : Tryz.prog.info? 157 = some Tryz.t157 := by kernel_rfl
theorem inf329 : Tryz.prog.info? 329 = some Tryz.t329 := by kernel_rfl
theorem eqI_same (a : Addr) (w : World) : (binOp .eql 497 (.iface 157 (.pointer (some a))) (.iface 157 (.pointer (some a)))).run Tryz.prog w = .ok (.bool true) w := run_eql_iface_ptr_same w a Tryz.underlying497 Tryz.underlying157 inf157 rfl inf329
theorem eqI_other {b1 b2 : Nat} {w : World} {T1 T2 : TypeId} {c1 c2 : Array Value} (h1 : Blk w b1 T1 c1) (h2 : Blk w b2 T2 c2) (hne : b1 ≠ b2) :
    (binOp .eql 497 (.iface 157 (.pointer (some ⟨b1, 0, none⟩))) (.iface 157 (.pointer (some ⟨b2, 0, none⟩)))).run Tryz.prog w = .ok (.bool false) w :=
  run_eql_iface_ptr_other w Tryz.underlying497 Tryz.underlying157 inf157 rfl inf329 (by decide) (by intro e; cases e; exact hne rfl) h1 h2
theorem taCtx (a : Addr) (w : World) : (Instr.typeAssert (.iface 157 (.pointer (some a))) 497 157 false).run Tryz.prog w = .ok (.pointer (some a)) w := by kernel_rfl

set_option maxRecDepth 100000 in
set_option maxHeartbeats 400000 in
theorem peq_any (a b : Nat) (w : World) (ha : Ctx w a) (hb : Ctx w b) :
    Calls Tryz.prog 209 #[.pointer (some ⟨a, 0, none⟩), .iface 157 (.pointer (some ⟨b, 0, none⟩))] w fun e w' => e = .returned (.bool true) ∧ ∃ n, w.drewN n = w' := by
  have h1 := ha.cell
  have h2 := hb.cell
  by_cases he : a = b
  · subst he
    have e1 := fun a w => eqI_same a w
    clear ha hb
    go_enter Tryz.func209, Tryz.ntmps209
    go_wp2_with fail
    go_ret
    exact ⟨rfl, 0, rfl⟩
  · have e1 := eqI_other ha hb he
    have H := Lib.hid hb
    have t1 := fun a w => taCtx a w
    clear ha hb
    go_enter Tryz.func209, Tryz.ntmps209
    go_wp2_with (go_at_call 164; refine (pempty_any _ _ H.out).mono ?_; rintro e w' ⟨rfl, rfl⟩)
    go_ret
    exact ⟨rfl, 0, rfl⟩

theorem inf329b : True := trivial
theorem eqP_same (a : Addr) (w : World) : (binOp .eql 157 (.pointer (some a)) (.pointer (some a))).run Tryz.prog w = .ok (.bool true) w := run_eql_ptr_same w a Tryz.underlying157 inf329
theorem eqP_other {b1 b2 : Nat} {w : World} {T1 T2 : TypeId} {c1 c2 : Array Value} (h1 : Blk w b1 T1 c1) (h2 : Blk w b2 T2 c2) (hne : b1 ≠ b2) :
    (binOp .eql 157 (.pointer (some ⟨b1, 0, none⟩)) (.pointer (some ⟨b2, 0, none⟩))).run Tryz.prog w = .ok (.bool false) w :=
  run_eql_ptr_other w Tryz.underlying157 inf329 (by decide) (by intro e; cases e; exact hne rfl) h1 h2

set_option maxRecDepth 100000 in
set_option maxHeartbeats 400000 in
theorem merge_any (a b : Nat) (r : Bool) (w : World) (ha : Ctx w a) (hb : Ctx w b) :
    Calls Tryz.prog 190 #[.pointer (some ⟨a, 0, none⟩), .pointer (some ⟨b, 0, none⟩), .bool r, .pointer none] w fun e w' => e = .returned (.pointer (some ⟨a, 0, none⟩)) ∧ ∃ n, w.drewN n = w' := by
  by_cases he : a = b
  · subst he
    have e1 := fun a w => eqP_same a w
    clear ha hb
    go_enter Tryz.func190, Tryz.ntmps190
    go_wp2_with fail
    go_ret
    exact ⟨rfl, 0, rfl⟩
  · have e1 := eqP_other ha hb he
    have H1 := Lib.hid ha
    have H := Lib.hid hb
    clear ha hb
    go_enter Tryz.func190, Tryz.ntmps190
    go_wp2_with (go_at_call 209; refine (peq_any _ _ _ H1.out H.out).mono ?_; rintro e w' ⟨rfl, n, rfl⟩)
    go_ret
    exact ⟨rfl, n, rfl⟩
end Go.Proofs
end
section
namespace Go.Proofs
open Go.RowKit
/-- A configuration: its block, its state's dynamic type and block and number, its alternative, the blocks of its contexts. -/
structure Cf where
  b : Nat
  T : TypeId
  s : Nat
  n : Int
  alt : Int
  c : Nat
  p : Nat

def Cf.cells (x : Cf) : Array Value := confCells x.T x.s x.alt x.c x.p
def Cf.h (x : Cf) : Int := lhI x.n x.alt

/-- Where a set that grows lies. -/
structure SU where
  sB : Nat
  stB : Nat
  mB : Nat
  cmp : Addr
  ask : Value
  cfg : Value
  len : Int
  kvs : List (Int × Value)

def SU.own (u : SU) (k : Nat) : Prop := k = u.sB ∨ k = u.stB ∨ k = u.mB ∨ u.ask.ownBlock = some k ∨ u.cfg.ownBlock = some k

/-- What of a configuration stays. -/
structure CfX (w : World) (u : SU) (x : Cf) : Prop where
  ty : x.T ∈ stTypes
  sn : w.cell? ⟨x.s, 4, none⟩ = some (.int .i64 x.n)
  ctx : Ctx w x.c
  sem : Sn w x.p
  ms : ¬ u.own x.s
  mc : ¬ u.own x.c
  mp : ¬ u.own x.p

structure CfB (w : World) (u : SU) (x : Cf) : Prop where
  blk : Blk w x.b 161 x.cells
  mb : ¬ u.own x.b
  x : CfX w u x

def flatC (l : List Cf) : List Value := l.flatMap fun x => x.cells.toList
def ptrC (l : List Cf) : List Value := l.map fun x => .pointer (some ⟨x.b, 0, none⟩)
def setCells (u : SU) : Array Value := #[u.ask, .int .i64 (-1), .pointer (some ⟨u.stB, 0, none⟩), u.cfg, .pointer none, .bool false, .bool false, .bool false, .bool false, .int .i64 0]

/-- A set that grows, from block B on. -/
structure SetU (B : Nat) (w : World) (u : SU) (adds cfs : List Cf) : Prop where
  blk : Blk w u.sB 147 (setCells u)
  ask : w.ownsRow B 161 9 u.ask adds.length (flatC adds)
  cfg : w.ownsRow B 153 1 u.cfg cfs.length (ptrC cfs)
  st : St w u.stB u.mB u.cmp u.len u.kvs
  bs : B ≤ u.sB
  bt : B ≤ u.stB
  bm : B ≤ u.mB
  x : ∀ x ∈ adds, CfX w u x
  b : ∀ x ∈ cfs, CfB w u x
  bu : ∀ x ∈ cfs, ∃ g cap, u.kvs.lookup x.h = some (.slice (some ⟨g, 0, none⟩) 1 cap) ∧ w.cell? ⟨g, 0, none⟩ = some (.pointer (some ⟨x.b, 0, none⟩)) ∧ ¬ u.own g
  only : ∀ h, u.kvs.lookup h ≠ none → ∃ x ∈ cfs, x.h = h

/-- From one state of a set to a later one: all else stays, and stays apart from the set. -/
structure Fr (w : World) (u : SU) (w' : World) (u' : SU) : Prop where
  so : SO w w'
  size : w.heap.size ≤ w'.heap.size
  blk : ∀ k, k < w.heap.size → ¬ u.own k → w'.heap[k]? = w.heap[k]?
  sep : ∀ k, k < w.heap.size → ¬ u.own k → ¬ u'.own k
theorem Fr.trans {w1 w2 w3 : World} {u1 u2 u3 : SU} (h : Fr w1 u1 w2 u2) (g : Fr w2 u2 w3 u3) : Fr w1 u1 w3 u3 :=
  ⟨SO.trans (h.so) (g.so), Nat.le_trans h.size g.size, fun k hk hm => (g.blk k (Nat.lt_of_lt_of_le hk h.size) (h.sep k hk hm)).trans (h.blk k hk hm), fun k hk hm => g.sep k (Nat.lt_of_lt_of_le hk h.size) (h.sep k hk hm)⟩
theorem Fr.refl (w : World) (u : SU) : Fr w u w u := ⟨⟨rfl, rfl⟩, Nat.le_refl _, fun _ _ _ => rfl, fun _ _ h => h⟩
theorem Fr.alloc (w : World) (u : SU) (o : Obj) : Fr w u (w.alloc o) u := ⟨⟨rfl, rfl⟩, by simp, fun k hk _ => Below.heap_alloc w o k hk, fun _ _ h => h⟩
theorem Fr.drewN (w : World) (u : SU) (n : Nat) : Fr w u (w.drewN n) u := ⟨⟨rfl, rfl⟩, Nat.le_refl _, fun _ _ _ => rfl, fun _ _ h => h⟩

theorem cell_lt {w : World} {b i : Nat} {v : Value} (h : w.cell? ⟨b, i, none⟩ = some v) : b < w.heap.size := World.block_lt_of_cell? w _ h

theorem CfX.fr {w w' : World} {u u' : SU} {x : Cf} (h : CfX w u x) (f : Fr w u w' u') : CfX w' u' x where
  ty := h.ty
  sn := (World.cell?_of_block (f.blk x.s (cell_lt h.sn) h.ms)).trans h.sn
  ctx := Blk.kept h.ctx (f.blk x.c h.ctx.lt h.mc)
  sem := Blk.kept h.sem (f.blk x.p h.sem.lt h.mp)
  ms := f.sep _ (cell_lt h.sn) h.ms
  mc := f.sep _ h.ctx.lt h.mc
  mp := f.sep _ h.sem.lt h.mp
theorem CfB.fr {w w' : World} {u u' : SU} {x : Cf} (h : CfB w u x) (f : Fr w u w' u') : CfB w' u' x where
  x := h.x.fr f
  blk := h.blk.kept (f.blk x.b h.blk.lt h.mb)
  mb := f.sep _ h.blk.lt h.mb

theorem SetU.blkne {B : Nat} {w : World} {u : SU} {adds cfs : List Cf} (h : SetU B w u adds cfs) : u.sB ≠ u.stB ∧ u.sB ≠ u.mB ∧ u.stB ≠ u.mB ∧ u.ask.ownBlock ≠ some u.sB ∧ u.ask.ownBlock ≠ some u.stB ∧ u.ask.ownBlock ≠ some u.mB ∧
    u.cfg.ownBlock ≠ some u.sB ∧ u.cfg.ownBlock ≠ some u.stB ∧ u.cfg.ownBlock ≠ some u.mB ∧ (∀ k, u.ask.ownBlock = some k → u.cfg.ownBlock ≠ some k) := by
  have hb := h.blk
  have hs := h.st.blk
  obtain ⟨es, cl, hm, _⟩ := h.st.map
  unfold Blk at hb hs
  have ha : ∀ k, u.ask.ownBlock = some k → ∃ c, w.heap[k]? = some (.cells c 161 (0, 0)) := by
    intro k hk
    rcases h.ask.2 with ⟨h0, _⟩ | ⟨g, cap, cur, h1, _, h2, _⟩
    · rw [h0] at hk; simp [Value.ownBlock] at hk
    · rw [h1] at hk; simp [Value.ownBlock] at hk; subst hk; exact ⟨_, h2⟩
  have hcf : ∀ k, u.cfg.ownBlock = some k → ∃ c, w.heap[k]? = some (.cells c 153 (0, 0)) := by
    intro k hk
    rcases h.cfg.2 with ⟨h0, _⟩ | ⟨g, cap, cur, h1, _, h2, _⟩
    · rw [h0] at hk; simp [Value.ownBlock] at hk
    · rw [h1] at hk; simp [Value.ownBlock] at hk; subst hk; exact ⟨_, h2⟩
  refine ⟨?_, ?_, ?_, ?_, ?_, ?_, ?_, ?_, ?_, ?_⟩
  · intro e; rw [e, hs] at hb; simp at hb
  · intro e; rw [e, hm] at hb; simp at hb
  · intro e; rw [e, hm] at hs; simp at hs
  · intro e; obtain ⟨c, hc⟩ := ha _ e; rw [hc] at hb; simp at hb
  · intro e; obtain ⟨c, hc⟩ := ha _ e; rw [hc] at hs; simp at hs
  · intro e; obtain ⟨c, hc⟩ := ha _ e; rw [hc] at hm; simp at hm
  · intro e; obtain ⟨c, hc⟩ := hcf _ e; rw [hc] at hb; simp at hb
  · intro e; obtain ⟨c, hc⟩ := hcf _ e; rw [hc] at hs; simp at hs
  · intro e; obtain ⟨c, hc⟩ := hcf _ e; rw [hc] at hm; simp at hm
  · intro k hk e
    obtain ⟨c, hc⟩ := ha _ hk
    obtain ⟨c', hc'⟩ := hcf _ e
    rw [hc] at hc'; simp at hc'
end Go.Proofs
end
section
namespace Go.Proofs
open Go.RowKit
def ddC (l : List Cf) : List Cf := l.foldl (fun acc x => if acc.any (fun y => y.h == x.h) then acc else acc ++ [x]) []


theorem own_blk {w : World} {B : Nat} {e : TypeId} {size n : Nat} {v : Value} {xs : List Value} (h : w.ownsRow B e size v n xs) {k : Nat} (hk : v.ownBlock = some k) : B ≤ k ∧ k < w.heap.size ∧ ∃ c, w.heap[k]? = some (.cells c e (0, 0)) := by
  rcases h.2 with ⟨h0, _⟩ | ⟨g, cap, cur, h1, h3, h2, _⟩
  · rw [h0] at hk; simp [Value.ownBlock] at hk
  · rw [h1] at hk; simp [Value.ownBlock] at hk; subst hk; exact ⟨h3, lt_of_block h2, _, h2⟩
theorem own_kept' {w w' : World} {base : Nat} {e : TypeId} {size n : Nat} {v : Value} {xs : List Value} (h : w.ownsRow base e size v n xs) (he : ∀ k, v.ownBlock = some k → w'.heap[k]? = w.heap[k]?) :
    w'.ownsRow base e size v n xs := by
  refine ⟨h.1, ?_⟩
  rcases h.2 with h | ⟨g', cap', cur, h1, h2⟩
  · exact .inl h
  · exact .inr ⟨g', cap', cur, h1, by rw [he g' (by rw [h1]; rfl)]; exact h2⟩
theorem St.kept {w w' : World} {stB mB : Nat} {cmp : Addr} {len : Int} {kvs : List (Int × Value)} (h : St w stB mB cmp len kvs) (h1 : w'.heap[stB]? = w.heap[stB]?) (h2 : w'.heap[mB]? = w.heap[mB]?) : St w' stB mB cmp len kvs :=
  ⟨h.blk.kept h1, h.map.of h2⟩
theorem Fr.bu {w w' : World} {u u' : SU} (f : Fr w u w' u') {g : Nat} {v : Value} (h : w.cell? ⟨g, 0, none⟩ = some v ∧ ¬ u.own g) : w'.cell? ⟨g, 0, none⟩ = some v ∧ ¬ u'.own g :=
  ⟨(World.cell?_of_block (f.blk g (cell_lt h.1) h.2)).trans h.1, f.sep g (cell_lt h.1) h.2⟩

theorem SetU.asked {B : Nat} {w : World} {u : SU} {adds cfs : List Cf} (hs : SetU B w u adds cfs) {x : Cf} (hx : CfX w u x) {w1 : World} {gg cap : Nat} 
    (hown : w1.ownsRow B 161 9 (.slice (some ⟨gg, 0, none⟩) (adds.length + 1) cap) (adds.length + 1) (flatC adds ++ x.cells.toList))
    (kp : Kp (fun k => u.ask.ownBlock ≠ some k) w w1) (hat : u.ask.ownBlock = some gg ∨ w.heap.size ≤ gg) :
    SetU B (w1.setCell ⟨u.sB, 0, none⟩ (.slice (some ⟨gg, 0, none⟩) (adds.length + 1) cap)) { u with ask := .slice (some ⟨gg, 0, none⟩) (adds.length + 1) cap } (adds ++ [x]) cfs ∧
    Fr w u (w1.setCell ⟨u.sB, 0, none⟩ (.slice (some ⟨gg, 0, none⟩) (adds.length + 1) cap)) { u with ask := .slice (some ⟨gg, 0, none⟩) (adds.length + 1) cap } := by
  obtain ⟨n1, n2, n3, n4, n5, n6, n7, n8, n9, n10⟩ := hs.blkne
  have lsB := hs.blk.lt
  have lst := hs.st.blk.lt
  have lmB := hs.st.map.lt
  have hgs : gg ≠ u.sB ∧ gg ≠ u.stB ∧ gg ≠ u.mB := by
    rcases hat with h | h
    · exact ⟨fun e => n4 (e ▸ h), fun e => n5 (e ▸ h), fun e => n6 (e ▸ h)⟩
    · exact ⟨by omega, by omega, by omega⟩
  have hb1 : Blk w1 u.sB 147 (setCells u) := hs.blk.kept (kp.blk _ lsB n4)
  have far : ∀ k, k ≠ u.sB → (w1.setCell ⟨u.sB, 0, none⟩ (.slice (some ⟨gg, 0, none⟩) (adds.length + 1) cap)).heap[k]? = w1.heap[k]? := fun k hk => heap_setCell_other _ _ _ _ hk
  have f : Fr w u (w1.setCell ⟨u.sB, 0, none⟩ (.slice (some ⟨gg, 0, none⟩) (adds.length + 1) cap)) { u with ask := .slice (some ⟨gg, 0, none⟩) (adds.length + 1) cap } := by
    refine ⟨SO.set kp.so _ _, by simpa using kp.size, fun k hk hm => ?_, fun k hk hm => ?_⟩
    · rw [far k (fun e => hm (.inl e)), kp.blk k hk (fun e => hm (.inr (.inr (.inr (.inl e)))))]
    · rintro (e | e | e | e | e)
      · exact hm (.inl e)
      · exact hm (.inr (.inl e))
      · exact hm (.inr (.inr (.inl e)))
      · have e' : gg = k := by simpa [Value.ownBlock] using e
        rcases hat with h | h
        · exact hm (.inr (.inr (.inr (.inl (e' ▸ h)))))
        · omega
      · exact hm (.inr (.inr (.inr (.inr e))))
  refine ⟨{ blk := ?_, ask := ?_, cfg := ?_, st := ?_, bs := hs.bs, bt := hs.bt, bm := hs.bm, x := ?_, b := fun y hy => (hs.b y hy).fr f, bu := ?_, only := hs.only }, f⟩
  · exact hb1.set 0 _ _ (by simp [setCells])
  · have := own_kept' hown (w' := w1.setCell ⟨u.sB, 0, none⟩ (.slice (some ⟨gg, 0, none⟩) (adds.length + 1) cap)) (fun k hk => far k (by
      have e' : gg = k := by simpa [Value.ownBlock] using hk
      rw [← e']; exact hgs.1))
    simpa [flatC] using this
  · exact own_kept' hs.cfg (fun k hk => by
      have := own_blk hs.cfg hk
      rw [far k (fun e => n7 (e ▸ hk)), kp.blk k this.2.1 (fun e => n10 k e hk)])
  · exact hs.st.kept (by rw [far _ (Ne.symm n1), kp.blk _ lst n5]) (by rw [far _ (Ne.symm n2), kp.blk _ lmB n6])
  · intro y hy
    rcases List.mem_append.mp hy with hy | hy
    · exact (hs.x y hy).fr f
    · obtain rfl := List.mem_singleton.mp hy
      exact hx.fr f
  · intro y hy
    obtain ⟨g, cap', h1, h2⟩ := hs.bu y hy
    exact ⟨g, cap', h1, f.bu h2⟩

theorem SetU.puts {B : Nat} {w : World} {u : SU} {adds cfs : List Cf} (hs : SetU B w u adds cfs) {x : Cf} (hx : CfB w u x) (hk : u.kvs.lookup x.h = none) {w6 : World} {cfgV : Value} {len' : Int} {g cap : Nat}
    (kp : Kp (fun k => ¬ u.own k ∨ u.ask.ownBlock = some k) w w6) (blk : Blk w6 u.sB 147 (setCells { u with cfg := cfgV }))
    (cfgo : w6.ownsRow B 153 1 cfgV (cfs.length + 1) (ptrC cfs ++ [.pointer (some ⟨x.b, 0, none⟩)])) (hg : w.heap.size ≤ g) (hgc : w6.cell? ⟨g, 0, none⟩ = some (.pointer (some ⟨x.b, 0, none⟩)))
    (hgne : cfgV.ownBlock ≠ some g) (st : St w6 u.stB u.mB u.cmp len' (upK x.h (.slice (some ⟨g, 0, none⟩) 1 cap) u.kvs)) (hat : ∀ k, cfgV.ownBlock = some k → u.cfg.ownBlock = some k ∨ w.heap.size ≤ k) :
    SetU B w6 { u with cfg := cfgV, len := len', kvs := upK x.h (.slice (some ⟨g, 0, none⟩) 1 cap) u.kvs } adds (cfs ++ [x]) ∧ Fr w u w6 { u with cfg := cfgV, len := len', kvs := upK x.h (.slice (some ⟨g, 0, none⟩) 1 cap) u.kvs } := by
  have f : Fr w u w6 { u with cfg := cfgV, len := len', kvs := upK x.h (.slice (some ⟨g, 0, none⟩) 1 cap) u.kvs } := by
    refine ⟨kp.so, kp.size, fun k hk hm => kp.blk k hk (.inl hm), fun k hk hm => ?_⟩
    rintro (e | e | e | e | e)
    · exact hm (.inl e)
    · exact hm (.inr (.inl e))
    · exact hm (.inr (.inr (.inl e)))
    · exact hm (.inr (.inr (.inr (.inl e))))
    · rcases hat k e with h | h
      · exact hm (.inr (.inr (.inr (.inr h))))
      · omega
  refine ⟨{ blk := blk, ask := ?_, cfg := ?_, st := st, bs := hs.bs, bt := hs.bt, bm := hs.bm, x := fun y hy => (hs.x y hy).fr f, b := ?_, bu := ?_, only := ?_ }, f⟩
  · exact own_kept' hs.ask (fun k hk => kp.blk k (own_blk hs.ask hk).2.1 (.inr hk))
  · simpa [ptrC] using cfgo
  · intro y hy
    rcases List.mem_append.mp hy with hy | hy
    · exact (hs.b y hy).fr f
    · obtain rfl := List.mem_singleton.mp hy
      exact hx.fr f
  · intro y hy
    rcases List.mem_append.mp hy with hy | hy
    · obtain ⟨g', cap', h1, h2⟩ := hs.bu y hy
      by_cases he : y.h = x.h
      · rw [← he, h1] at hk; cases hk
      · exact ⟨g', cap', by simp only [lookup_upK, he, if_false]; exact h1, f.bu h2⟩
    · obtain rfl := List.mem_singleton.mp hy
      refine ⟨g, cap, by simp [lookup_upK], hgc, ?_⟩
      rintro (e | e | e | e | e)
      · exact absurd hs.blk.lt (by simp at e; omega)
      · exact absurd hs.st.blk.lt (by simp at e; omega)
      · exact absurd hs.st.map.lt (by simp at e; omega)
      · exact absurd (own_blk hs.ask e).2.1 (by omega)
      · exact hgne e
  · intro h hh
    by_cases he : h = x.h
    · exact ⟨x, by simp, he.symm⟩
    · simp only [lookup_upK, he, if_false] at hh
      obtain ⟨y, hy, e⟩ := hs.only h hh
      exact ⟨y, by simp [hy], e⟩


theorem CfB.at {w : World} {u : SU} {x : Cf} (h : CfB w u x) : CfAt w x.b x.T x.s x.n x.alt x.c x.p := ⟨h.blk, h.x.ty, h.x.sn, h.x.ctx, h.x.sem⟩
theorem setCell_self {w : World} {b i : Nat} {T : TypeId} {c : Array Value} {v : Value} (h : Blk w b T c) (hv : c[i]? = some v) : w.setCell ⟨b, i, none⟩ v = w := by
  have h1 : (w.setCell ⟨b, i, none⟩ v).heap = w.heap := by
    apply Array.ext_getElem?
    intro k
    by_cases hk : k = b
    · subst hk
      rw [heap_setCell_same w k i c T v h]
      have : c.setIfInBounds i v = c := by
        apply Array.ext_getElem?
        intro j
        by_cases hj : j = i
        · subst hj
          have := Array.getElem?_eq_some_iff.mp hv
          obtain ⟨hlt, he⟩ := this
          simp [Array.getElem?_setIfInBounds, hlt, he]
        · simp [Array.getElem?_setIfInBounds, Ne.symm hj]
      rw [this]; exact h.symm
    · exact heap_setCell_other w ⟨b, i, none⟩ k v hk
  have h2 : ∀ w' : World, w'.heap = w.heap → w'.tape = w.tape → w'.drawn = w.drawn → w'.os = w.os → w'.output = w.output → w' = w := by
    intro w' a1 a2 a3 a4 a5
    cases w'; cases w; simp_all
  exact h2 _ h1 rfl rfl rfl rfl

theorem SetU.puts2 {B : Nat} {w2 : World} {u : SU} {adds cfs : List Cf} (hs : SetU B w2 u adds cfs) {x : Cf} (hx : CfB w2 u x) (hk : u.kvs.lookup x.h = none) {w3 : World} {g cap' : Nat} {len' : Int}
    (kp3 : Kp (fun k => k ≠ u.stB ∧ k ≠ u.mB) w2 w3) (hg3 : w2.heap.size ≤ g) (own3 : w3.ownsRow 0 153 1 (.slice (some ⟨g, 0, none⟩) 1 cap') 1 [.pointer (some ⟨x.b, 0, none⟩)])
    (st3 : St w3 u.stB u.mB u.cmp len' (upK (lhI x.n x.alt) (.slice (some ⟨g, 0, none⟩) 1 cap') u.kvs)) {w5 : World} {g5 cap5 : Nat}
    (hown5 : w5.ownsRow B 153 1 (.slice (some ⟨g5, 0, none⟩) (cfs.length + 1) cap5) (cfs.length + 1) (ptrC cfs ++ [.pointer (some ⟨x.b, 0, none⟩)])) (kp5 : Kp (fun k => u.cfg.ownBlock ≠ some k) w3 w5) (hat5 : u.cfg.ownBlock = some g5 ∨ w3.heap.size ≤ g5) :
    SetU B (w5.setCell ⟨u.sB, 3, none⟩ (.slice (some ⟨g5, 0, none⟩) (cfs.length + 1) cap5)) { u with cfg := .slice (some ⟨g5, 0, none⟩) (cfs.length + 1) cap5, len := len', kvs := upK x.h (.slice (some ⟨g, 0, none⟩) 1 cap') u.kvs } adds (cfs ++ [x]) ∧
    Fr w2 u (w5.setCell ⟨u.sB, 3, none⟩ (.slice (some ⟨g5, 0, none⟩) (cfs.length + 1) cap5)) { u with cfg := .slice (some ⟨g5, 0, none⟩) (cfs.length + 1) cap5, len := len', kvs := upK x.h (.slice (some ⟨g, 0, none⟩) 1 cap') u.kvs } := by
  obtain ⟨n1, n2, n3, n4, n5, n6, n7, n8, n9, n10⟩ := hs.blkne
  have lsB := hs.blk.lt
  have lst := hs.st.blk.lt
  have lmB := hs.st.map.lt
  have hsz := kp3.size
  have gl : g < w3.heap.size := (own_blk own3 rfl).2.1
  have far : ∀ k, k ≠ u.sB → (w5.setCell ⟨u.sB, 3, none⟩ (.slice (some ⟨g5, 0, none⟩) (cfs.length + 1) cap5)).heap[k]? = w5.heap[k]? := fun k hk => heap_setCell_other _ _ _ _ hk
  have hg5 : g5 ≠ u.sB ∧ g5 ≠ u.stB ∧ g5 ≠ u.mB ∧ g5 ≠ g := by
    rcases hat5 with h | h
    · have := (own_blk hs.cfg h).2.1
      exact ⟨fun e => n7 (e ▸ h), fun e => n8 (e ▸ h), fun e => n9 (e ▸ h), by omega⟩
    · exact ⟨by omega, by omega, by omega, by omega⟩
  have hcg : u.cfg.ownBlock ≠ some g := fun e => by have := (own_blk hs.cfg e).2.1; omega
  have kp : Kp (fun k => ¬ u.own k ∨ u.ask.ownBlock = some k) w2 (w5.setCell ⟨u.sB, 3, none⟩ (.slice (some ⟨g5, 0, none⟩) (cfs.length + 1) cap5)) := by
    refine ((kp3.weak (fun k hk => ?_)).trans (kp5.weak (fun k hk => ?_))).trans (Kp.setCell _ _ _ ?_)
    · rcases hk with hk | hk
      · exact ⟨fun e => hk (.inr (.inl e)), fun e => hk (.inr (.inr (.inl e)))⟩
      · exact ⟨fun e => n5 (e ▸ hk), fun e => n6 (e ▸ hk)⟩
    · rcases hk with hk | hk
      · exact fun e => hk (.inr (.inr (.inr (.inr e))))
      · exact n10 k hk
    · rintro (hk | hk)
      · exact hk (.inl rfl)
      · exact n4 hk
  have hb3 : Blk w3 u.sB 147 (setCells u) := hs.blk.kept (kp3.blk _ lsB ⟨n1, n2⟩)
  have hb5 : Blk w5 u.sB 147 (setCells u) := hb3.kept (kp5.blk _ hb3.lt n7)
  refine SetU.puts hs hx hk kp (hb5.set 3 _ _ (by simp [setCells])) ?_ hg3 ?_ ?_ ?_ ?_
  · exact own_kept' hown5 (fun k hk => far k (by
      have e' : g5 = k := by simpa [Value.ownBlock] using hk
      rw [← e']; exact hg5.1))
  · rw [World.cell?_of_block (w := w3)]
    · have := own3.cells (g := g) rfl 0 _ rfl
      simpa [Addr.add] using this
    · rw [far g (by omega)]
      exact kp5.blk g gl hcg
  · simpa [Value.ownBlock] using hg5.2.2.2
  · exact st3.kept (by rw [far _ (Ne.symm n1), kp5.blk _ (by omega) n8]) (by rw [far _ (Ne.symm n2), kp5.blk _ (by omega) n9])
  · intro k hk
    have e' : g5 = k := by simpa [Value.ownBlock] using hk
    subst e'
    rcases hat5 with h | h
    · exact .inl h
    · exact .inr (by omega)
end Go.Proofs
end
section
namespace Go.Proofs
open Go.RowKit
theorem info161b : (Tryz.prog.info? 161).map (fun i => (i.zero, i.size, i.bytes)) = some (some (.agg #[.bool false, .nilIface, .int .i64 0, .pointer none, .nilIface, .int .i64 0, .int .i64 0, .pointer none, .bool false]), 9, 88) := by kernel_rfl

set_option maxRecDepth 100000 in
set_option maxHeartbeats 400000 in
theorem add_new (B : Nat) (w : World) (u : SU) (adds cfs : List Cf) (hs : SetU B w u adds cfs) (x : Cf) (hx : CfB w u x) (hk : u.kvs.lookup x.h = none) (hl : (adds.length + 1) * 88 ≤ 140737488355328) (hle : cfs.length ≤ adds.length) :
    Calls Tryz.prog 165 #[.pointer (some ⟨u.sB, 0, none⟩), .pointer (some ⟨x.b, 0, none⟩), .pointer none] w fun e w' => e = .returned (.bool true) ∧ ∃ u', SetU B w' u' (adds ++ [x]) (cfs ++ [x]) ∧ Fr w u w' u' ∧ u'.sB = u.sB := by
  have hc := hs.blk.cell
  have hf := hs.blk.free
  simp only [setCells] at hc
  have hxc := hx.blk.cell
  simp only [Cf.cells, confCells] at hxc
  obtain ⟨i0, hi0, hz0, hz1, hz2⟩ := info_parts info161b
  have hask := hs.ask
  have hlt := hs.blk.lt
  have hbs := hs.bs
  have hblk := Lib.hid hs.blk
  have hltx := hx.blk.lt
  have hna := hs.blkne.2.2.2.1
  have H := Lib.hid hx
  have HS := Lib.hid hs
  clear hx hs
  go_enter Tryz.func165, Tryz.ntmps165
  go_wp2_with (first | (go_at_call 186; refine (isNone_any _ _ H.out.x.sem).mono ?_; rintro e w' ⟨rfl, rfl⟩) | (go_at_call 187; refine (gSem _ _ _ (by go_simp; first | done | rfl)).mono ?_; rintro e w' ⟨rfl, rfl⟩) | (go_at_call 188; refine (gRch _ _ _ (by go_simp; first | done | rfl)).mono ?_; rintro e w' ⟨rfl, rfl⟩))
  go_region_law ((refine step_append_lies _ (by rfl) _ _ _ (by rfl) B 161 i0 _ 9 88 Tryz.underlying142 hi0 hz0 hz1 hz2 rfl (by omega) u.ask adds.length (flatC adds) (by rfl) (by first | exact (hask.alloc _).drew | exact (hask.drew).alloc _) ⟨w.heap.size, 0, none⟩ 1 1 x.cells.toList (by rfl) (by rfl) (World.news_of_block (cs := x.cells) (t := 161) (fr := (0, 0)) (heap_alloc_new w _)) (by simp [Value.oneCell', Cf.cells, confCells]) (by omega) (by simp [maxLen]; omega) (by omega) (by simp; omega) (w.heap.size + 1) (by simp) ?_; intro gg cap w1 hown1 hgrow hat hlt9; have kp1 : Kp (fun k => u.ask.ownBlock ≠ some k) w w1 := (by first | exact ((Kp.drew _).trans (Kp.alloc _ _)).trans (Kp.grown hgrow (fun k hk => fun e => hk e.symm)) | exact ((Kp.alloc _ _).trans (Kp.drew _)).trans (Kp.grown hgrow (fun k hk => fun e => hk e.symm))); have hB1 := Lib.hid (Blk.kept hblk.out (kp1.blk _ hlt hna)); have c1 : w1.cell? ⟨u.sB, 0, none⟩ = some u.ask := (hB1.out.cell 0).trans rfl; have f1 := hB1.out.free 0))
  all_goals
    have hat' : u.ask.ownBlock = some gg ∨ w.heap.size ≤ gg := by rcases hat with h | h <;> first | exact .inl h | (right; omega)
    obtain ⟨hs2, f2⟩ := SetU.asked HS.out H.out.x hown1 kp1 hat'
    generalize w1.setCell ⟨u.sB, 0, none⟩ (.slice (some ⟨gg, 0, none⟩) (adds.length + 1) cap) = w2 at hs2 f2 ⊢
    have hx2 := H.out.fr f2
    have hc2 := hs2.blk.cell
    have hf2 := hs2.blk.free
    simp only [setCells] at hc2
    have H2 := Lib.hid hx2
    have HS2 := Lib.hid hs2
    have hk2 : ({ u with ask := .slice (some ⟨gg, 0, none⟩) (adds.length + 1) cap } : SU).kvs.lookup (lhI x.n x.alt) = none := hk
    clear hx2 hs2 hc hf hxc c1 f1
    obtain ⟨i3, hi3, hy0, hy1, hy2⟩ := info_parts info153
    go_wp2_with (first | (go_at_call 189; refine (put_new _ _ _ _ _ _ _ _ _ _ _ _ _ HS2.out.st (CfB.at H2.out) hk2).mono ?_; rintro e w3 ⟨rfl, g, cap', len', kp3, hg3, own3, st3⟩; have nes := Lib.hid HS2.out.blkne; have b3 := Lib.hid (HS2.out.blk.kept (kp3.blk _ HS2.out.blk.lt ⟨HS2.out.blkne.1, HS2.out.blkne.2.1⟩)); have c31 : w3.cell? ⟨u.sB, 1, none⟩ = some (.int .i64 (-1)) := b3.out.cell 1; have f31 := b3.out.free 1; have c33 : w3.cell? ⟨u.sB, 3, none⟩ = some u.cfg := b3.out.cell 3; have f33 := b3.out.free 3; have q1 : w3.setCell ⟨u.sB, 1, none⟩ (.int .i64 (-1)) = w3 := setCell_self b3.out rfl; have cfg3 : w3.ownsRow B 153 1 u.cfg cfs.length (ptrC cfs) := own_kept' HS2.out.cfg (fun k hk => kp3.blk k (own_blk HS2.out.cfg hk).2.1 ⟨fun e => nes.out.2.2.2.2.2.2.2.1 (e ▸ hk), fun e => nes.out.2.2.2.2.2.2.2.2.1 (e ▸ hk)⟩); have lt4 : u.sB < w3.heap.size := b3.out.lt; have hB4 : B ≤ w3.heap.size := (by omega); have hnc : u.cfg.ownBlock ≠ some u.sB := nes.out.2.2.2.2.2.2.1) | (at_builtin; refine wpList_append_lies _ rfl _ _ 144 rfl B 153 i3 _ 1 8 Tryz.underlying144 hi3 hy0 hy1 hy2 rfl (by omega) u.cfg cfs.length (ptrC cfs) rfl (cfg3.alloc _) ⟨w3.heap.size, 0, none⟩ 1 1 [.pointer (some ⟨x.b, 0, none⟩)] rfl rfl (World.news_of_block (cs := #[.pointer (some ⟨x.b, 0, none⟩)]) (t := 153) (fr := (0, 0)) (heap_alloc_new w3 _)) (by simp [Value.oneCell']) (by omega) (by simp [maxLen]; omega) (by omega) (by simp; omega) _ rfl ?_; intro g5 cap5 w5 hown5 hgrow5 hat5 hlt5; have kp5 : Kp (fun k => u.cfg.ownBlock ≠ some k) w3 w5 := (Kp.alloc _ _).trans (Kp.grown hgrow5 (fun k hk => fun e => hk e.symm)); have hB5 := Lib.hid (Blk.kept b3.out (kp5.blk _ lt4 hnc)); have c5 : w5.cell? ⟨u.sB, 3, none⟩ = some u.cfg := hB5.out.cell 3; have f5 := hB5.out.free 3))
    go_ret
    obtain ⟨hs6, f6⟩ := SetU.puts2 HS2.out H2.out hk2 kp3 hg3 own3 st3 hown5 kp5 (hat5.imp id (fun e => by simp at e; omega))
    exact ⟨by simp, _, hs6, f2.trans f6, rfl⟩
end Go.Proofs
end
