/- PROVED HERE: the tied card of the law laws.FnStates: for every list of expressions and every text the call returns true, and both arguments read afterwards as they read before.
   CONDITIONS, the row's own cells alone: the arguments can be read as data (loops); three tables of Go's library, math/bits.deBruijn32tab, math/bits.deBruijn64tab and internal/strconv.uint64pow10, hold what the program's text lays (laid; the card ties them; the walks do not use it); linux/amd64; each string and slice that is read takes at most 2^47 - 4096 bytes. No bound on a length besides. -/
import Derived.Test.YtlceacefhnllbaaGreatDoorG38
import Derived.Test.YtlceacefhnllbaaGreatDoorG37
set_option linter.all false
section
namespace Go.Proofs
open Go.RowKit
namespace YtlceacefhnllbaaGreatDoor
open Go.ChangeShapes Go.WideShapes Go.ChangeAt Go.RowKit Pl
theorem seatMet (os : Os) : laidMet Tryz.prog Rows.fnStatesRow.laid ((World.laidAll Tryz.prog os Rows.fnStatesRow.laid).forCall (fun _ _ => 0) ⟨#[], #[.slice none 0 0, .string ByteArray.empty], []⟩).memory :=
  laidMet_laidAll _ (by kernel_rfl) (by kernel_rfl)
theorem seatReads (os : Os) {H : Type} (enc : TypeId × Value → H) : ∃ places, DataW.whole enc Tryz.prog ((World.laidAll Tryz.prog os Rows.fnStatesRow.laid).forCall (fun _ _ => 0) ⟨#[], #[.slice none 0 0, .string ByteArray.empty], []⟩).memory Tryz.f3.params.toList Rows.fnStatesSpec.vars false #[Value.slice none 0 0, .string ByteArray.empty].toList 8 = some ([.nil, .lit (.string [])], [], places) :=
  ⟨[], by kernel_rfl⟩

set_option maxRecDepth 100000 in
theorem fnLifted (os : Os) (started : os.Started) (H : Type) (enc : TypeId × Value → H) (F : Stop.Interp) :
    ReturnsInHanded {} Tryz.checked os 3 .any ((OpenSpec.ofChange Rows.fnStatesSpec).preRow enc Tryz.prog Tryz.f3 Rows.fnStatesRow.domain false Rows.fnStatesRow.laid) (((OpenSpec.ofChange Rows.fnStatesSpec).at F).post enc Tryz.prog Tryz.f3 false true false false) := by
  obtain ⟨places, hx⟩ := seatReads os enc
  refine returnsInHanded_of_row (C := Tryz.checked) (s := OpenSpec.ofChange Rows.fnStatesSpec) seatOwn started (by kernel_rfl) Tryz.func3
    (witness_row_at (enc := enc) (C := Tryz.checked) false (World.laidAll Tryz.prog os Rows.fnStatesRow.laid) #[.slice none 0 0, .string ByteArray.empty] (World.laidAll_os _ _ _) (by kernel_rfl) (by kernel_rfl) (by kernel_rfl)
      (OpenSpec.preRow_of_cond 8 hx (by kernel_rfl) (fun k hk => by cases hk) (by kernel_rfl) (seatMet os))) ?_
  intro W base args ds gs before hval hW _ _ hsz _ _ _
  exact fnContract H enc W base args ds gs before hval hW hsz

end YtlceacefhnllbaaGreatDoor
end Go.Proofs
end
section
namespace Go.Proofs
open Go.RowKit
namespace YtlceacefhnllbaaGreatDoor
open Go.ChangeShapes Go.WideShapes Go.ChangeAt Go.RowKit Pl
theorem fnNamed : Tryz.pinned.checked.prog.funcNamed Rows.fnStatesRow.func = some 3 := by kernel_rfl
theorem fnInst : Tryz.f3.isInstance Tryz.pinned.checked.prog Rows.fnStatesRow.origin Rows.fnStatesRow.targs := of_decide_eq_true (by kernel_rfl)
theorem fnWrap : Tryz.f3.isWrapper Tryz.pinned.checked.prog Rows.fnStatesRow.wrapper Rows.fnStatesRow.mainSum := by
  unfold Func.isWrapper; first | (rw [if_pos (by decide +kernel)]; kernel_rfl) | (rw [if_neg (by decide +kernel)]; exact ⟨rfl, rfl⟩)
set_option maxRecDepth 100000 in
theorem fnSaid : Rows.FnStatesSaid :=
  OpenClaim.holds_of_cond 3 Tryz.f3 rfl rfl rfl rfl rfl rfl rfl ⟨rfl, rfl, rfl, rfl, rfl⟩ rfl rfl rfl rfl rfl fnNamed Tryz.func3 fnClosed fnInst fnWrap
    (fun os started H enc _ F => by rw [OpenClaim.pre_eq_preRow]; exact fnLifted os started H enc F)

/-- No parameter wants a stand-in. -/
theorem fnPlain (f : FuncId) (fn : Func) (hf : Tryz.pinned.checked.prog.funcNamed "loop.example/pub-treesoftexts/laws.FnStates" = some f) (hfn : Tryz.pinned.checked.prog.funcs[f]? = some fn) :
    true = Tryz.pinned.checked.prog.looks [] ∧ ∀ (j : Nat) t, fn.params[j]? = some t → Tryz.pinned.checked.prog.wantsStandIn t = false := by
  obtain rfl : f = 3 := Option.some.inj ((show Tryz.prog.funcNamed "loop.example/pub-treesoftexts/laws.FnStates" = some 3 by kernel_rfl).symm.trans hf) |>.symm
  obtain rfl : fn = Tryz.f3 := (Option.some.inj (Tryz.func3.symm.trans hfn)).symm
  refine ⟨by kernel_rfl, fun j t ht => ?_⟩
  rw [Tryz.params3] at ht
  have hm := Array.mem_of_getElem? ht
  simp at hm
  rcases hm with rfl | rfl
  · exact (show Tryz.prog.wantsStandIn 22 = false by kernel_rfl)
  · exact (show Tryz.prog.wantsStandIn 9 = false by kernel_rfl)

set_option maxRecDepth 100000 in
/-- ████ THE CARD ████ -/
theorem fnStates_card_holds : Rows.FnStatesCardSaid :=
  Claim7.holds_tied_plain_at .later [] _ _ _ _ fnSaid (fun _ h => by cases h) (by kernel_rfl) (fun _ h => by cases h) fnStates_row_tie rfl ⟨rfl, rfl⟩ (by kernel_rfl) rfl fnPlain (by kernel_rfl)
end YtlceacefhnllbaaGreatDoor
end Go.Proofs
end
