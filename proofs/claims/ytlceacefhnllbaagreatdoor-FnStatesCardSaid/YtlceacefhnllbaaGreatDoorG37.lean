/- A part of the proof of the statement on the law FnStates, which the last text proves: part G37. -/
import Derived.Test.YtlceacefhnllbaaGreatDoorRows
import Derived.ProofKit
import Derived.JoinedOf
import Derived.Test.YtlceacefhnllbaaGreatDoorG22
set_option linter.all false
section
namespace Go.Proofs
open Go.RowKit
namespace YtlceacefhnllbaaGreatDoor
open Go.ChangeShapes Go.WideShapes Go.ChangeAt Go.RowKit
/-! ## the row's closed facts, each by the kernel -/
theorem andTt {a b : Bool} (h : a = true) (k : b = true) : (a && b) = true := by rw [h, k]; rfl
set_option maxRecDepth 100000 in
theorem jf0 : (Rows.fnStatesRow.wf (OpenSpec.ofChange ((OpenSpec.ofChange Rows.fnStatesSpec).bare))) = true := by kernel_rfl
set_option maxRecDepth 100000 in
theorem jf1 : (laidOutB Tryz.pinned.checked.prog) = true := by kernel_rfl
set_option maxRecDepth 100000 in
theorem jf2 : (mapsRowed Tryz.pinned.checked.prog) = true := by kernel_rfl
set_option maxRecDepth 100000 in
theorem jf3 : (Tryz.f3.params.all (Tryz.pinned.checked.prog.readableRec ·)) = true := by kernel_rfl
set_option maxRecDepth 100000 in
theorem jf4 : (namedTie Tryz.pinned.checked.prog Rows.fnStatesRow.named (OpenSpec.ofChange Rows.fnStatesSpec).bare.vars) = true := by kernel_rfl
set_option maxRecDepth 100000 in
theorem jf5 : ((Rows.fnStatesRow.stops == [])) = true := by kernel_rfl
set_option maxRecDepth 100000 in
theorem jf6 : ((Tryz.pinned.checked.prog.stops == [])) = true := by kernel_rfl
set_option maxRecDepth 100000 in
theorem jf7 : ((Rows.fnStatesRow.knobs == [])) = true := by kernel_rfl
set_option maxRecDepth 100000 in
theorem jf8 : ((Tryz.pinned.checked.prog.stopKnobs == [])) = true := by kernel_rfl
set_option maxRecDepth 100000 in
theorem jf9 : ((Rows.fnStatesRow.inPlace == Tryz.pinned.checked.prog.inPlace 3)) = true := by kernel_rfl
set_option maxRecDepth 100000 in
theorem jf10 : ((Rows.fnStatesRow.unfollowed == Tryz.pinned.checked.prog.unfollowed 3)) = true := by kernel_rfl
set_option maxRecDepth 100000 in
theorem jf11 : ((Rows.fnStatesRow.recurses == Tryz.pinned.checked.prog.recurses 3)) = true := by kernel_rfl
set_option maxRecDepth 100000 in
theorem jf12 : ((Rows.fnStatesRow.named == Tryz.pinned.checked.prog.varsNamed 3)) = true := by kernel_rfl
set_option maxRecDepth 100000 in
theorem jf13 : ((Rows.fnStatesRow.maps == (Tryz.f3.params.toList ++ (OpenSpec.ofChange Rows.fnStatesSpec).bare.plain.varTypes Tryz.pinned.checked.prog).any (Tryz.pinned.checked.prog.mapsRec ·))) = true := by kernel_rfl
set_option maxRecDepth 100000 in
theorem jf14 : ((Rows.fnStatesRow.ifaces == (Tryz.f3.params.toList ++ (OpenSpec.ofChange Rows.fnStatesSpec).bare.plain.varTypes Tryz.pinned.checked.prog).any (Tryz.pinned.checked.prog.ifacesRec ·))) = true := by kernel_rfl
set_option maxRecDepth 100000 in
theorem jf15 : ((Rows.fnStatesRow.mapsOut == Tryz.pinned.checked.prog.mapsAmong Tryz.f3.resultTypes.toList)) = true := by kernel_rfl
set_option maxRecDepth 100000 in
theorem jf16 : ((Rows.fnStatesRow.loops == (Tryz.f3.params.toList ++ (OpenSpec.ofChange Rows.fnStatesSpec).bare.plain.varTypes Tryz.pinned.checked.prog).any (Tryz.pinned.checked.prog.loopsFrom ·))) = true := by kernel_rfl
set_option maxRecDepth 100000 in
theorem jf17 : ((Rows.fnStatesRow.wideKeys == (Tryz.f3.params.toList ++ (OpenSpec.ofChange Rows.fnStatesSpec).bare.plain.varTypes Tryz.pinned.checked.prog ++ Tryz.f3.resultTypes.toList).any (Tryz.pinned.checked.prog.wideKeysFrom ·))) = true := by kernel_rfl
set_option maxRecDepth 100000 in
theorem jf18 : ((OpenSpec.ofChange Rows.fnStatesSpec).bare.vars.all (Tryz.pinned.checked.prog.varReadable ·)) = true := by kernel_rfl
set_option maxRecDepth 100000 in
theorem jf19 : (Tryz.f3.resultTypes.all (fun t => Tryz.pinned.checked.prog.readableRec t && decide (t < Tryz.pinned.checked.prog.types.size))) = true := by kernel_rfl
set_option maxRecDepth 100000 in
theorem jf20 : ((Rows.fnStatesRow.ifacesOut == Tryz.f3.resultTypes.toList.any (Tryz.pinned.checked.prog.ifacesRec ·))) = true := by kernel_rfl
set_option maxRecDepth 100000 in
theorem jf21 : ((Rows.fnStatesRow.loopsOut == Tryz.f3.resultTypes.toList.any (Tryz.pinned.checked.prog.loopsFrom ·))) = true := by kernel_rfl
set_option maxRecDepth 100000 in
theorem jf22 : ((Rows.fnStatesRow.plainKeys == Tryz.pinned.checked.prog.plainKeys)) = true := by kernel_rfl
set_option maxRecDepth 100000 in
theorem jf23 : (Rows.fnStatesRow.shortTexts.isNone) = true := by kernel_rfl
set_option maxRecDepth 100000 in
theorem jf24 : (Tryz.pinned.checked.prog.stopsHeard) = true := by kernel_rfl
set_option maxRecDepth 100000 in
theorem jf25 : (Tryz.pinned.checked.prog.mayEnter) = true := by kernel_rfl
set_option maxRecDepth 100000 in
theorem jf26 : ((Rows.fnStatesRow.lifted == Tryz.pinned.checked.prog.liftsFinal)) = true := by kernel_rfl
set_option maxRecDepth 100000 in
theorem jf27 : ((Tryz.pinned.checked.prog.make == some Rows.fnStatesRow.make)) = true := by kernel_rfl
set_option maxRecDepth 100000 in
theorem jf28 : ((Rows.fnStatesRow.kinds == (if Rows.fnStatesRow.domain.isEmpty then [] else Tryz.f3.params.toList.map fun t => match Tryz.pinned.checked.prog.underlying t with | some (.int k) => some k | _ => none))) = true := by kernel_rfl
set_option maxRecDepth 100000 in
theorem jf29 : ((Rows.fnStatesRow.pinned == Rows.fnStatesRow.pinnedBy)) = true := by kernel_rfl
set_option maxRecDepth 100000 in
theorem jf30 : ((Rows.fnStatesRow.veiled == (Tryz.f3.params.toList ++ (OpenSpec.ofChange Rows.fnStatesSpec).bare.plain.varTypes Tryz.pinned.checked.prog ++ Tryz.f3.resultTypes.toList).any (Tryz.pinned.checked.prog.veiledRec ·))) = true := by kernel_rfl
set_option maxRecDepth 100000 in
theorem jf31 : (Rows.fnStatesRow.veiledFits Tryz.pinned.checked.prog Tryz.f3.params.toList (Tryz.f3.params.toList ++ (OpenSpec.ofChange Rows.fnStatesSpec).bare.plain.varTypes Tryz.pinned.checked.prog ++ Tryz.f3.resultTypes.toList)) = true := by kernel_rfl
set_option maxRecDepth 100000 in
theorem fnClosed : joinedFacts Tryz.pinned.checked.prog 3 Tryz.f3 (OpenSpec.ofChange Rows.fnStatesSpec).bare Rows.fnStatesRow = true := by
  unfold joinedFacts
  exact (andTt (andTt (andTt (andTt (andTt (andTt (andTt (andTt (andTt (andTt (andTt (andTt (andTt (andTt (andTt (andTt (andTt (andTt (andTt (andTt (andTt (andTt (andTt (andTt (andTt (andTt (andTt (andTt (andTt (andTt (andTt jf0 jf1) jf2) jf3) jf4) jf5) jf6) jf7) jf8) jf9) jf10) jf11) jf12) jf13) jf14) jf15) jf16) jf17) jf18) jf19) jf20) jf21) jf22) jf23) jf24) jf25) jf26) jf27) jf28) jf29) jf30) jf31)
end YtlceacefhnllbaaGreatDoor
end Go.Proofs
end
