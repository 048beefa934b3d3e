/- A part of the proof of the statement on the law FnStates, which the last text proves: part G38. -/
import Derived.Test.YtlceacefhnllbaaGreatDoorCards
import Derived.Test.YtlceacefhnllbaaGreatDoorTie
import Derived.Deep.DeepHandedRow
import Derived.Lib.LaidTab
import Derived.Lay
import Derived.Test.YtlceacefhnllbaaGreatDoorG36
set_option linter.all false
section
namespace Go.Proofs
open Go.RowKit
namespace YtlceacefhnllbaaGreatDoor
open Go.ChangeShapes Go.WideShapes Go.ChangeAt Go.RowKit Pl
theorem seatOwn : ownKnob Tryz.prog.godebug = none := by kernel_rfl
theorem seatLaidOut : laidOutB Tryz.prog = true := by kernel_rfl
theorem seatReads22 : Tryz.prog.readableRec 22 = true := by kernel_rfl
theorem seatReads9 : Tryz.prog.readableRec 9 = true := by kernel_rfl

set_option maxRecDepth 100000 in
/-- WHAT THE WALKS GIVE, FOR EVERY ARGUMENT: the same for both forms. -/
theorem fnContract (H : Type) (enc : TypeId × Value → H) (W : World) (base : Nat) (args : Array Value) (ds gs : List (DataW H)) (before : List MemPlace)
    (hval : ∀ (j : Nat) t v, Tryz.f3.params[j]? = some t → args[j]? = some v → Value.okWide Tryz.prog W .any base t v)
    (hW : DataW.Whole enc Tryz.prog Tryz.f3.params.toList Rows.fnStatesSpec.vars false W args.toList ds gs before)
    (hsz : (DataW.weightsEach Tryz.prog (Tryz.f3.params.toList ++ Rows.fnStatesSpec.plain.varTypes Tryz.prog) (ds ++ gs)).all (· ≤ reachBytes) = true) :
    Calls Tryz.prog 3 args W fun e W' => ∃ v, e = .returned v ∧ Rows.fnStatesSpec.post enc Tryz.prog Tryz.f3 false true false false W args v W' := by
  have hW' := hW
  obtain ⟨p, q, hA0, hV, rfl, hfz, hnd⟩ := hW
  have hA : DataW.TrodAll enc Tryz.prog W 0 (fun _ => true) true Tryz.f3.params.toList args.toList ds p := hA0
  have hB : ∀ x ∈ p ++ q, x.block < W.heap.size := fun x hx => by simpa using hW'.lt x hx
  rw [Tryz.params3] at hA hval hsz
  obtain ⟨v0, v1, d0, d1, p0, p1, rfl, rfl, rfl, h0, h1⟩ := trodAll_two hA
  obtain ⟨rfl, rfl⟩ := trodVars_none hV
  have hv0 : Value.okWide Tryz.prog W .any base 22 v0 := hval 0 22 v0 (by simp) (by simp)
  have hv1 : Value.okWide Tryz.prog W .any base 9 v1 := hval 1 9 v1 (by simp) (by simp)
  obtain ⟨qa, qn, qc, rfl⟩ := okWide_slice Tryz.underlying22 hv0
  have h1k := h1
  obtain ⟨s, rfl, hd1, rfl, hs⟩ := Go.ChangeMaps.open_string Tryz.underlying9 hv1 h1
  have h0k := h0
  obtain ⟨n0, hn0⟩ := h0
  obtain ⟨la, ln, lc, es, hc, hse, hsm, _⟩ := open_exprs n0 _ _ hn0 (fun m hm => by
    have := List.all_eq_true.1 hsz m (DataW.weights_mem_each (j := 0) (t := 22) (d := d0) rfl rfl m hm)
    simpa using this)
  simp only [Value.cells, List.cons.injEq, and_true] at hc
  rw [hc] at h0k hW' ⊢
  refine (fn_all hse hsm s).mono fun e W' ⟨he, hk⟩ => ?_
  subst he
  have a0 := WideElems.Trod_stays (sp' := fun b => decide (b < W.heap.size)) seatLaidOut seatReads22 (of_decide_eq_true (by kernel_rfl)) h0k (fun x hx => same_of_kp hk (hB x (by simp [hx]))) (fun x hx => by simpa using hB x (by simp [hx]))
  have a1 := WideElems.Trod_stays (sp' := fun b => decide (b < W.heap.size)) seatLaidOut seatReads9 (of_decide_eq_true (by kernel_rfl)) h1k (fun x hx => same_of_kp hk (hB x (by simp at hx))) (fun x hx => by simp at hx)
  exact ⟨_, rfl, _, _, _, [], p0 ++ [], [], hW', trodAll_mk1 (shut_bool Tryz.underlying4 _), trodAll_mk2 a0 a1, rfl, kept_of_kp hk _, fun h => by cases h⟩

end YtlceacefhnllbaaGreatDoor
end Go.Proofs
end
