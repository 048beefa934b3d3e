/- A part of the proof of the statement on the law FnStates, which the last text proves: part G04. -/
import Derived.Test.YtlceacefhnllbaaGreatDoorG02
set_option linter.all false
section
namespace Go.Proofs
open Go.RowKit
open Pl
/-- It returned a truth value. -/
def BoolRet (e : Ending) : Prop := ∃ r, e = .returned (.bool r)
set_option maxRecDepth 100000 in
set_option maxHeartbeats 1000000 in
/-- At a rule's end. -/
theorem closure_stop (l ip : Value) (B : Nat) (w : World) (u : SU) (adds : List Cf) (hs : SetD B w u adds) (x : Cf) (hx : CfB w u x) (hT : x.T = 269) (hl : (adds.length + 1) * 88 ≤ 140737488355328) (ca sp eof : Bool) :
    Calls Tryz.prog 112 #[l, ip, .pointer (some ⟨x.b, 0, none⟩), .pointer (some ⟨u.sB, 0, none⟩), .bool ca, .bool sp, .bool eof] w fun e w' =>
      e = .returned (.bool true) ∧ ∃ u', SetD B w' u' (adds ++ [x]) ∧ Fr w u w' u' ∧ u'.sB = u.sB := by
  have hxc := hx.blk.cell
  simp only [Cf.cells, confCells, hT] at hxc
  have t1 := fun a w => taStop a w
  have H := Lib.hid hx
  have HS := Lib.hid hs
  clear hx hs
  go_enter Tryz.func112, Tryz.ntmps112
  go_wp2_with (first | (go_at_call 163; refine (phep_any _ _ H.out.x.ctx).mono ?_; rintro e w' ⟨rfl, rfl⟩) | (go_at_call 164; refine (pempty_any _ _ H.out.x.ctx).mono ?_; rintro e w' ⟨rfl, rfl⟩) | (go_at_call 165; refine (add_any _ _ _ _ HS.out _ H.out hl).mono ?_; rintro e w' ⟨rfl, u', hs', f', e'⟩))
  go_ret
  exact ⟨rfl, u', hs', f', e'⟩
end Go.Proofs
end
