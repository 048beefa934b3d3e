/- A part of the proof of the statement on the law FnStates, which the last text proves: part G36. -/
import Derived.ProofKit
import Derived.OpenShut
import Derived.SizedLaws
import Derived.WideKeyArgs
import Derived.Test.YtlceacefhnllbaaGreatDoorG35
set_option linter.all false
section
namespace Go.Proofs
open Go.RowKit
open Pl
open Go.ChangeShapes Go.WideShapes
/-! ## from the reading of the argument to expressions in memory -/
theorem cells46 : Tryz.prog.cellsOf 46 = 4 := by kernel_rfl
theorem cells22 : Tryz.prog.cellsOf 22 = 1 := by kernel_rfl
theorem cells3 : Tryz.prog.cellsOf 3 = 1 := by kernel_rfl
theorem bytes46 : Tryz.prog.bytesOf 46 = 48 := by kernel_rfl
theorem cells_four {w : World} {base : Nat} {a : Addr} {cs : List Value} (h : w.cells? base a 4 = some cs) :
    ∃ c0 c1 c2 c3, cs = [c0, c1, c2, c3] ∧ w.cell? (a.add 0) = some c0 ∧ w.cell? (a.add 1) = some c1 ∧ w.cell? (a.add 2) = some c2 ∧ w.cell? (a.add 3) = some c3 := by
  unfold World.cells? at h
  split at h
  · have hr : List.range 4 = [0, 1, 2, 3] := rfl
    rw [hr] at h
    simp only [List.mapM_cons, List.mapM_nil] at h
    cases h0 : w.cell? (a.add 0) with
    | none => simp [h0] at h
    | some c0 => cases h1 : w.cell? (a.add 1) with
      | none => simp [h0, h1] at h
      | some c1 => cases h2 : w.cell? (a.add 2) with
        | none => simp [h0, h1, h2] at h
        | some c2 => cases h3 : w.cell? (a.add 3) with
          | none => simp [h0, h1, h2, h3] at h
          | some c3 =>
            simp [h0, h1, h2, h3] at h
            exact ⟨c0, c1, c2, c3, h.symm, rfl, rfl, rfl, rfl⟩
  · cases h
theorem weights_mem_all {H : Type} {P : Program} {t : TypeId} {d : DataW H} {m : Nat} (hm : m ∈ d.weights P t) : ∀ {l : List (DataW H)}, d ∈ l → m ∈ DataW.weightsAll P t l
  | [], h => by cases h
  | x :: l, h => by
    simp only [DataW.weightsAll, List.mem_append]
    rcases List.mem_cons.1 h with rfl | h
    · exact .inl hm
    · exact .inr (weights_mem_all hm h)
theorem exR_of {w : World} {g : Nat} : ∀ (n o : Nat), (∀ i, i < n → ∃ e, ExE w g (o + i * 4) e ∧ Sm e) → ∃ es : List Ex, es.length = n ∧ ExR w g o es ∧ SmL es
  | 0, _, _ => ⟨[], rfl, by simp [ExR], by simp [SmL]⟩
  | n + 1, o, h => by
    obtain ⟨e, h1, h2⟩ := h 0 (by omega)
    obtain ⟨es, h3, h4, h5⟩ := exR_of n (o + 4) (fun i hi => by
      have := h (i + 1) (by omega)
      rwa [show o + (i + 1) * 4 = o + 4 + i * 4 by omega] at this)
    refine ⟨e :: es, by simp [h3], ?_, ?_⟩
    · simp only [ExR]; exact ⟨by simpa using h1, h4⟩
    · simp only [SmL]; exact ⟨h2, h5⟩
/-- An argument that reads as a slice of expressions IS one, and no slice of it is long. -/
theorem open_exprs {H : Type} {enc : TypeId × Value → H} {w : World} {base : Nat} {sp : Nat → Bool} {held : Bool} : ∀ (n : Nat) (cs : List Value) (x : DataW H × List MemPlace), DataW.trod enc Tryz.prog w base sp held n 22 cs = some x →
    (∀ m ∈ x.1.weights Tryz.prog 22, m ≤ reachBytes) → ∃ (la : Option Addr) (ln lc : Nat) (es : List Ex), cs = [.slice la ln lc] ∧ SlE w (.slice la ln lc) es ∧ SmL es ∧ es.length ≤ 2932031007402 := by
  intro n
  induction n using Nat.strongRecOn with
  | ind n ih =>
    intro cs x h hw
    rcases DataW.trod_slice Tryz.underlying22 h with ⟨rfl, rfl⟩ | ⟨a, len, cap, elems, rest, n', rfl, rfl, rfl, _, hlc, _, hel, hE, _, _⟩
    · exact ⟨none, 0, 0, [], rfl, .inl ⟨none, 0, rfl, rfl⟩, by simp [SmL], by simp⟩
    · have hwt := hw
      simp only [DataW.weights, Tryz.underlying22, bytes46, List.mem_cons, List.mem_append] at hwt
      have hlen : len ≤ 2932031007402 := by
        have h1 := hwt _ (.inl rfl)
        simp only [List.length_map] at h1
        unfold reachBytes at h1
        omega
      have hE' : ∀ i, i < len → (w.cells? base (a.add (i * 4)) 4).bind (DataW.trod enc Tryz.prog w base sp held n' 46) = elems[i]? := fun i hi => by
        have h1 := hE i hi
        rwa [cells46] at h1
      have one : ∀ i, i < len → a.spot = none ∧ ∃ e, ExE w a.block (a.off + i * 4) e ∧ Sm e := by
        intro i hi
        have h1 := hE' i hi
        obtain ⟨z, hz⟩ : ∃ z, elems[i]? = some z := ⟨elems[i]'(by omega), by simp⟩
        rw [hz] at h1
        simp only [Option.bind_eq_some_iff] at h1
        obtain ⟨c, hc, ht⟩ := h1
        obtain ⟨c0, c1, c2, c3, rfl, k0, k1, k2, k3⟩ := cells_four hc
        have s1 : (a.add (i * 4)).add 0 = a.add (i * 4) := by simp [Addr.add]
        have hsp : (a.add (i * 4)).spot = none := by rw [s1] at k0; exact World.cell?_spot k0
        have hA : ∀ j, (a.add (i * 4)).add j = ⟨a.block, a.off + i * 4 + j, none⟩ := by
          intro j
          by_cases hi0 : i * 4 = 0
          · by_cases hj : j = 0
            · subst hj
              rw [s1]
              obtain ⟨b, o, s⟩ := a
              simp only [Addr.add, hi0, if_true] at hsp ⊢
              subst hsp
              simp
            · simp [Addr.add, hi0, hj]
          · by_cases hj : j = 0
            · simp [Addr.add, hi0, hj]
            · simp [Addr.add, hi0, hj]
        rw [hA] at k0 k1 k2 k3
        obtain ⟨xs, n2, rfl, hx, _, hxl, hf⟩ := DataW.trod_struct Tryz.underlying46 ht
        have f0 : DataW.trod enc Tryz.prog w base sp held n2 3 ((([c0, c1, c2, c3].drop 0).take (Tryz.prog.cellsOf 3))) = xs[0]? := hf 0 _ rfl
        have f1 : DataW.trod enc Tryz.prog w base sp held n2 3 ((([c0, c1, c2, c3].drop 1).take (Tryz.prog.cellsOf 3))) = xs[1]? := hf 1 _ rfl
        have f2 : DataW.trod enc Tryz.prog w base sp held n2 3 ((([c0, c1, c2, c3].drop 2).take (Tryz.prog.cellsOf 3))) = xs[2]? := hf 2 _ rfl
        have f3 : DataW.trod enc Tryz.prog w base sp held n2 22 ((([c0, c1, c2, c3].drop 3).take (Tryz.prog.cellsOf 22))) = xs[3]? := hf 3 _ rfl
        rw [cells3] at f0 f1 f2
        rw [cells22] at f3
        have hxl4 : xs.length = 4 := by simpa using hxl
        obtain ⟨x0, x1, x2, x3, rfl⟩ : ∃ x0 x1 x2 x3, xs = [x0, x1, x2, x3] := by
          rcases xs with _ | ⟨x0, _ | ⟨x1, _ | ⟨x2, _ | ⟨x3, _ | ⟨x4, r⟩⟩⟩⟩⟩ <;> simp at hxl4
          exact ⟨x0, x1, x2, x3, rfl⟩
        replace f0 : DataW.trod enc Tryz.prog w base sp held n2 3 [c0] = some x0 := f0
        replace f1 : DataW.trod enc Tryz.prog w base sp held n2 3 [c1] = some x1 := f1
        replace f2 : DataW.trod enc Tryz.prog w base sp held n2 3 [c2] = some x2 := f2
        replace f3 : DataW.trod enc Tryz.prog w base sp held n2 22 [c3] = some x3 := f3
        obtain ⟨op, e0, _, _⟩ := DataW.trod_int Tryz.underlying3 f0
        obtain ⟨av, e1, _, _⟩ := DataW.trod_int Tryz.underlying3 f1
        obtain ⟨bv, e2, _, _⟩ := DataW.trod_int Tryz.underlying3 f2
        simp only [List.cons.injEq, and_true] at e0 e1 e2
        subst e0; subst e1; subst e2
        obtain ⟨la, ln, lc, es, e3, hs, hm, hl⟩ := ih n2 (by omega) _ _ f3 (fun m hm => by
          refine hw m ?_
          simp only [DataW.weights, Tryz.underlying22, List.mem_cons, List.mem_append]
          refine .inr (.inl (weights_mem_all (d := z.1) ?_ (List.mem_map.2 ⟨z, List.mem_of_getElem? hz, rfl⟩)))
          rw [hx]
          simp only [DataW.weights, Tryz.underlying46]
          exact DataW.weights_mem_each (j := 3) (t := 22) (d := x3.1) (by simp) (by simp) m hm)
        simp only [List.cons.injEq, and_true] at e3
        subst e3
        refine ⟨?_, .mk op av bv es, ?_, ?_⟩
        · have k0' := k0
          rw [← hA 0] at k0'
          by_cases hi0 : i * 4 = 0
          · simpa [Addr.add, hi0] using hsp
          · have h00 := hE' 0 (by omega)
            obtain ⟨z0, hz0⟩ : ∃ z, elems[0]? = some z := ⟨elems[0]'(by omega), by simp⟩
            rw [hz0] at h00
            simp only [Option.bind_eq_some_iff] at h00
            obtain ⟨cc, hcc, _⟩ := h00
            obtain ⟨_, _, _, _, _, k, _⟩ := cells_four hcc
            simpa [Addr.add] using World.cell?_spot k
        · rw [ExE_iff]
          exact ⟨k0, k1, k2, _, k3, hs⟩
        · simp only [Sm]; exact ⟨hl, hm⟩
      by_cases h0 : len = 0
      · subst h0
        exact ⟨some a, 0, cap, [], rfl, .inl ⟨_, _, rfl, rfl⟩, by simp [SmL], by simp⟩
      · have hsp := (one 0 (by omega)).1
        obtain ⟨es, e1, e2, e3⟩ := exR_of len a.off (fun i hi => (one i hi).2)
        obtain ⟨b, o, s⟩ := a
        simp only at hsp
        subst hsp
        exact ⟨_, _, _, es, rfl, .inr ⟨b, o, cap, by rw [e1], by omega, e2⟩, e3, by omega⟩
/-! ## what the frame gives the row -/
theorem kept_of_kp {w w' : World} (k : Kp (fun _ => True) w w') (may : MemPlace → Prop) : w.keptBut w' may := by
  refine ⟨k.so.os, k.so.out, fun i hi => ?_⟩
  rw [k.blk i hi trivial]
  cases w.heap[i]? with
  | none => trivial
  | some o => cases o with
    | cells c t fr => exact ⟨rfl, rfl, rfl, fun _ _ => rfl⟩
    | map es cl => exact .inr ⟨rfl, rfl⟩
    | _ => rfl
theorem same_of_kp {w w' : World} (k : Kp (fun _ => True) w w') {p : MemPlace} (hp : p.block < w.heap.size) : w.sameAt w' p := by
  cases p with
  | cell b o => exact World.cell?_of_block (k.blk b hp trivial)
  | map b => exact k.blk b hp trivial
end Go.Proofs
end
section
namespace Go.Proofs
open Go.RowKit
open Pl
/-! ## a text too long for the law's reader -/
theorem fn_long {w : World} (la : Option Addr) (ln lc : Nat) (s : ByteArray) (hsz : ¬ s.size ≤ 2147483647) :
    Calls Tryz.prog 3 #[.slice la ln lc, .string s] w fun e w' => e = .returned (.bool true) ∧ Kp (fun _ => True) w w' := by
  by_cases hl : (2147483647 : Int) < (ln : Int)
  · go_enter Tryz.func3, Tryz.ntmps3
    go_wp2
    go_ret
    exact ⟨rfl, Kp.rfl'⟩
  · have hs : (2147483647 : Int) < (s.size : Int) := by omega
    go_enter Tryz.func3, Tryz.ntmps3
    go_wp2
    go_ret
    exact ⟨rfl, Kp.rfl'⟩
theorem fn_all {w : World} {la : Option Addr} {ln lc : Nat} {es : List Ex} (hs : SlE w (.slice la ln lc) es) (hsm : SmL es) (s : ByteArray) :
    Calls Tryz.prog 3 #[.slice la ln lc, .string s] w fun e w' => e = .returned (.bool true) ∧ Kp (fun _ => True) w w' := by
  by_cases hsz : s.size ≤ 2147483647
  · exact fn_walk hs hsm s hsz
  · exact fn_long la ln lc s hsz
end Go.Proofs
end
