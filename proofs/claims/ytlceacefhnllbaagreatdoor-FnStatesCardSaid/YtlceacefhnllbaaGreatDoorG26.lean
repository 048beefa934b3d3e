/- A part of the proof of the statement on the law FnStates, which the last text proves: part G26. -/
import Derived.Test.YtlceacefhnllbaaGreatDoorG25
set_option linter.all false
section
namespace Go.Proofs
open Go.RowKit
open Pl
/-! ## states are made -/
def bTy (k : Nat) : TypeId := [393, 393, 267, 388, 300, 412, 413, 272, 290, 303, 182, 294, 262].getD k 393
def sXt (k : Nat) : List Value := ([[], [], [.nilIface, .bool false], [.int .i64 0, .bool false, .pointer none], [.int .i64 0, .bool false, .pointer none, .nilIface], [.int .i64 0, .bool false, .pointer none], [.int .i64 0, .bool false], [], [.nilIface], [], [.int .i64 0, .bool false, .nilIface, .bool false], [.int .i64 0, .bool false], [.nilIface]] : List (List Value)).getD k []
/-- A state's cells. -/
def sC (k : Nat) (at_ : Value) (ru sn : Int) : Array Value := (([.pointer none, at_, .bool false, .int .i64 ru, .int .i64 sn, .int .i64 k, .slice none 0 0] : List Value) ++ sXt k).toArray
theorem mk1_any (w : World) : Calls Tryz.prog 128 #[] w fun e w' => e = .returned (.pointer (some ⟨w.heap.size, 0, none⟩)) ∧ w' = w.alloc (.cells #[.pointer none, .pointer none, .bool false, .int .i64 0, .int .i64 (-1), .int .i64 1, .slice none 0 0] 393) := by
  go_enter Tryz.func128, Tryz.ntmps128
  go_wp2_with fail
  go_ret
  exact ⟨rfl, rfl⟩
theorem mk2_any (w : World) : Calls Tryz.prog 129 #[] w fun e w' => e = .returned (.pointer (some ⟨w.heap.size, 0, none⟩)) ∧ w' = w.alloc (.cells #[.pointer none, .pointer none, .bool false, .int .i64 0, .int .i64 (-1), .int .i64 2, .slice none 0 0, .nilIface, .bool false] 267) := by
  go_enter Tryz.func129, Tryz.ntmps129
  go_wp2_with fail
  go_ret
  exact ⟨rfl, rfl⟩
theorem mk3_any (w : World) : Calls Tryz.prog 130 #[] w fun e w' => e = .returned (.pointer (some ⟨w.heap.size, 0, none⟩)) ∧ w' = w.alloc (.cells #[.pointer none, .pointer none, .bool false, .int .i64 0, .int .i64 (-1), .int .i64 3, .slice none 0 0, .int .i64 0, .bool false, .pointer none] 388) := by
  go_enter Tryz.func130, Tryz.ntmps130
  go_wp2_with fail
  go_ret
  exact ⟨rfl, rfl⟩
theorem mk4_any (w : World) : Calls Tryz.prog 131 #[] w fun e w' => e = .returned (.pointer (some ⟨w.heap.size, 0, none⟩)) ∧ w' = w.alloc (.cells #[.pointer none, .pointer none, .bool false, .int .i64 0, .int .i64 (-1), .int .i64 4, .slice none 0 0, .int .i64 0, .bool false, .pointer none, .nilIface] 300) := by
  go_enter Tryz.func131, Tryz.ntmps131
  go_wp2_with fail
  go_ret
  exact ⟨rfl, rfl⟩
theorem mk5_any (w : World) : Calls Tryz.prog 132 #[] w fun e w' => e = .returned (.pointer (some ⟨w.heap.size, 0, none⟩)) ∧ w' = w.alloc (.cells #[.pointer none, .pointer none, .bool false, .int .i64 0, .int .i64 (-1), .int .i64 5, .slice none 0 0, .int .i64 0, .bool false, .pointer none] 412) := by
  go_enter Tryz.func132, Tryz.ntmps132
  go_wp2_with fail
  go_ret
  exact ⟨rfl, rfl⟩
theorem mk6_any (w : World) : Calls Tryz.prog 133 #[] w fun e w' => e = .returned (.pointer (some ⟨w.heap.size, 0, none⟩)) ∧ w' = w.alloc (.cells #[.pointer none, .pointer none, .bool false, .int .i64 0, .int .i64 (-1), .int .i64 6, .slice none 0 0, .int .i64 0, .bool false] 413) := by
  go_enter Tryz.func133, Tryz.ntmps133
  go_wp2_with fail
  go_ret
  exact ⟨rfl, rfl⟩
theorem mk7_any (w : World) : Calls Tryz.prog 134 #[] w fun e w' => e = .returned (.pointer (some ⟨w.heap.size, 0, none⟩)) ∧ w' = w.alloc (.cells #[.pointer none, .pointer none, .bool false, .int .i64 0, .int .i64 (-1), .int .i64 7, .slice none 0 0] 272) := by
  go_enter Tryz.func134, Tryz.ntmps134
  go_wp2_with fail
  go_ret
  exact ⟨rfl, rfl⟩
theorem mk8_any (w : World) : Calls Tryz.prog 135 #[] w fun e w' => e = .returned (.pointer (some ⟨w.heap.size, 0, none⟩)) ∧ w' = w.alloc (.cells #[.pointer none, .pointer none, .bool false, .int .i64 0, .int .i64 (-1), .int .i64 8, .slice none 0 0, .nilIface] 290) := by
  go_enter Tryz.func135, Tryz.ntmps135
  go_wp2_with fail
  go_ret
  exact ⟨rfl, rfl⟩
theorem mk9_any (w : World) : Calls Tryz.prog 136 #[] w fun e w' => e = .returned (.pointer (some ⟨w.heap.size, 0, none⟩)) ∧ w' = w.alloc (.cells #[.pointer none, .pointer none, .bool false, .int .i64 0, .int .i64 (-1), .int .i64 9, .slice none 0 0] 303) := by
  go_enter Tryz.func136, Tryz.ntmps136
  go_wp2_with fail
  go_ret
  exact ⟨rfl, rfl⟩
theorem mk10_any (w : World) : Calls Tryz.prog 137 #[] w fun e w' => e = .returned (.pointer (some ⟨w.heap.size, 0, none⟩)) ∧ w' = w.alloc (.cells #[.pointer none, .pointer none, .bool false, .int .i64 0, .int .i64 (-1), .int .i64 10, .slice none 0 0, .int .i64 0, .bool false, .nilIface, .bool false] 182) := by
  go_enter Tryz.func137, Tryz.ntmps137
  go_wp2_with fail
  go_ret
  exact ⟨rfl, rfl⟩
theorem mk11_any (w : World) : Calls Tryz.prog 138 #[] w fun e w' => e = .returned (.pointer (some ⟨w.heap.size, 0, none⟩)) ∧ w' = w.alloc (.cells #[.pointer none, .pointer none, .bool false, .int .i64 0, .int .i64 (-1), .int .i64 11, .slice none 0 0, .int .i64 0, .bool false] 294) := by
  go_enter Tryz.func138, Tryz.ntmps138
  go_wp2_with fail
  go_ret
  exact ⟨rfl, rfl⟩
theorem mk12_any (w : World) : Calls Tryz.prog 139 #[] w fun e w' => e = .returned (.pointer (some ⟨w.heap.size, 0, none⟩)) ∧ w' = w.alloc (.cells #[.pointer none, .pointer none, .bool false, .int .i64 0, .int .i64 (-1), .int .i64 12, .slice none 0 0, .nilIface] 262) := by
  go_enter Tryz.func139, Tryz.ntmps139
  go_wp2_with fail
  go_ret
  exact ⟨rfl, rfl⟩
theorem sC_set3 (k : Nat) (ru : Int) : (sC k (.pointer none) 0 (-1)).setIfInBounds 3 (.int .i64 ru) = sC k (.pointer none) ru (-1) := by simp [sC]
set_option maxHeartbeats 1000000 in
theorem sf1_any {w : World} (d : Addr) (ru : Int) :
    Calls Tryz.prog 96 #[.pointer (some d), .int .i64 1, .int .i64 ru] w fun e w' => e = .returned (.iface 330 (.pointer (some ⟨w.heap.size, 0, none⟩))) ∧ w' = w.alloc (.cells (sC 1 (.pointer none) ru (-1)) 393) := by
  have hd := fun a w => dSRI (show (330 : TypeId) ∈ stTypes by decide) a w
  have bb := fun w => Blk.new w 393 (sC 1 (.pointer none) 0 (-1))
  go_enter Tryz.func96, Tryz.ntmps96
  go_wp2_with (first | (go_at_call 128; refine (mk1_any w).mono ?_; rintro e w' ⟨rfl, hw⟩; change w' = w.alloc (.cells (sC 1 (.pointer none) 0 (-1)) 393) at hw; subst hw) | (go_at_call 282; refine (sRI _ _ _ (by rw [(bb _).cell 3]; rfl) ((bb _).free 3)).mono ?_; rintro e w' ⟨rfl, rfl⟩))
  go_ret
  exact ⟨rfl, by rw [sC_set3]⟩
set_option maxHeartbeats 1000000 in
theorem sf2_any {w : World} (d : Addr) (ru : Int) :
    Calls Tryz.prog 96 #[.pointer (some d), .int .i64 2, .int .i64 ru] w fun e w' => e = .returned (.iface 268 (.pointer (some ⟨w.heap.size, 0, none⟩))) ∧ w' = w.alloc (.cells (sC 2 (.pointer none) ru (-1)) 267) := by
  have hd := fun a w => dSRI (show (268 : TypeId) ∈ stTypes by decide) a w
  have bb := fun w => Blk.new w 267 (sC 2 (.pointer none) 0 (-1))
  go_enter Tryz.func96, Tryz.ntmps96
  go_wp2_with (first | (go_at_call 129; refine (mk2_any w).mono ?_; rintro e w' ⟨rfl, hw⟩; change w' = w.alloc (.cells (sC 2 (.pointer none) 0 (-1)) 267) at hw; subst hw) | (go_at_call 282; refine (sRI _ _ _ (by rw [(bb _).cell 3]; rfl) ((bb _).free 3)).mono ?_; rintro e w' ⟨rfl, rfl⟩))
  go_ret
  exact ⟨rfl, by rw [sC_set3]⟩
set_option maxHeartbeats 1000000 in
theorem sf3_any {w : World} (d : Addr) (ru : Int) :
    Calls Tryz.prog 96 #[.pointer (some d), .int .i64 3, .int .i64 ru] w fun e w' => e = .returned (.iface 333 (.pointer (some ⟨w.heap.size, 0, none⟩))) ∧ w' = w.alloc (.cells (sC 3 (.pointer none) ru (-1)) 388) := by
  have hd := fun a w => dSRI (show (333 : TypeId) ∈ stTypes by decide) a w
  have bb := fun w => Blk.new w 388 (sC 3 (.pointer none) 0 (-1))
  go_enter Tryz.func96, Tryz.ntmps96
  go_wp2_with (first | (go_at_call 130; refine (mk3_any w).mono ?_; rintro e w' ⟨rfl, hw⟩; change w' = w.alloc (.cells (sC 3 (.pointer none) 0 (-1)) 388) at hw; subst hw) | (go_at_call 282; refine (sRI _ _ _ (by rw [(bb _).cell 3]; rfl) ((bb _).free 3)).mono ?_; rintro e w' ⟨rfl, rfl⟩))
  go_ret
  exact ⟨rfl, by rw [sC_set3]⟩
set_option maxHeartbeats 1000000 in
theorem sf4_any {w : World} (d : Addr) (ru : Int) :
    Calls Tryz.prog 96 #[.pointer (some d), .int .i64 4, .int .i64 ru] w fun e w' => e = .returned (.iface 295 (.pointer (some ⟨w.heap.size, 0, none⟩))) ∧ w' = w.alloc (.cells (sC 4 (.pointer none) ru (-1)) 300) := by
  have hd := fun a w => dSRI (show (295 : TypeId) ∈ stTypes by decide) a w
  have bb := fun w => Blk.new w 300 (sC 4 (.pointer none) 0 (-1))
  go_enter Tryz.func96, Tryz.ntmps96
  go_wp2_with (first | (go_at_call 131; refine (mk4_any w).mono ?_; rintro e w' ⟨rfl, hw⟩; change w' = w.alloc (.cells (sC 4 (.pointer none) 0 (-1)) 300) at hw; subst hw) | (go_at_call 282; refine (sRI _ _ _ (by rw [(bb _).cell 3]; rfl) ((bb _).free 3)).mono ?_; rintro e w' ⟨rfl, rfl⟩))
  go_ret
  exact ⟨rfl, by rw [sC_set3]⟩
set_option maxHeartbeats 1000000 in
theorem sf5_any {w : World} (d : Addr) (ru : Int) :
    Calls Tryz.prog 96 #[.pointer (some d), .int .i64 5, .int .i64 ru] w fun e w' => e = .returned (.iface 309 (.pointer (some ⟨w.heap.size, 0, none⟩))) ∧ w' = w.alloc (.cells (sC 5 (.pointer none) ru (-1)) 412) := by
  have hd := fun a w => dSRI (show (309 : TypeId) ∈ stTypes by decide) a w
  have bb := fun w => Blk.new w 412 (sC 5 (.pointer none) 0 (-1))
  go_enter Tryz.func96, Tryz.ntmps96
  go_wp2_with (first | (go_at_call 132; refine (mk5_any w).mono ?_; rintro e w' ⟨rfl, hw⟩; change w' = w.alloc (.cells (sC 5 (.pointer none) 0 (-1)) 412) at hw; subst hw) | (go_at_call 282; refine (sRI _ _ _ (by rw [(bb _).cell 3]; rfl) ((bb _).free 3)).mono ?_; rintro e w' ⟨rfl, rfl⟩))
  go_ret
  exact ⟨rfl, by rw [sC_set3]⟩
set_option maxHeartbeats 1000000 in
theorem sf6_any {w : World} (d : Addr) (ru : Int) :
    Calls Tryz.prog 96 #[.pointer (some d), .int .i64 6, .int .i64 ru] w fun e w' => e = .returned (.iface 232 (.pointer (some ⟨w.heap.size, 0, none⟩))) ∧ w' = w.alloc (.cells (sC 6 (.pointer none) ru (-1)) 413) := by
  have hd := fun a w => dSRI (show (232 : TypeId) ∈ stTypes by decide) a w
  have bb := fun w => Blk.new w 413 (sC 6 (.pointer none) 0 (-1))
  go_enter Tryz.func96, Tryz.ntmps96
  go_wp2_with (first | (go_at_call 133; refine (mk6_any w).mono ?_; rintro e w' ⟨rfl, hw⟩; change w' = w.alloc (.cells (sC 6 (.pointer none) 0 (-1)) 413) at hw; subst hw) | (go_at_call 282; refine (sRI _ _ _ (by rw [(bb _).cell 3]; rfl) ((bb _).free 3)).mono ?_; rintro e w' ⟨rfl, rfl⟩))
  go_ret
  exact ⟨rfl, by rw [sC_set3]⟩
set_option maxHeartbeats 1000000 in
theorem sf7_any {w : World} (d : Addr) (ru : Int) :
    Calls Tryz.prog 96 #[.pointer (some d), .int .i64 7, .int .i64 ru] w fun e w' => e = .returned (.iface 269 (.pointer (some ⟨w.heap.size, 0, none⟩))) ∧ w' = w.alloc (.cells (sC 7 (.pointer none) ru (-1)) 272) := by
  have hd := fun a w => dSRI (show (269 : TypeId) ∈ stTypes by decide) a w
  have bb := fun w => Blk.new w 272 (sC 7 (.pointer none) 0 (-1))
  go_enter Tryz.func96, Tryz.ntmps96
  go_wp2_with (first | (go_at_call 134; refine (mk7_any w).mono ?_; rintro e w' ⟨rfl, hw⟩; change w' = w.alloc (.cells (sC 7 (.pointer none) 0 (-1)) 272) at hw; subst hw) | (go_at_call 282; refine (sRI _ _ _ (by rw [(bb _).cell 3]; rfl) ((bb _).free 3)).mono ?_; rintro e w' ⟨rfl, rfl⟩))
  go_ret
  exact ⟨rfl, by rw [sC_set3]⟩
set_option maxHeartbeats 1000000 in
theorem sf8_any {w : World} (d : Addr) (ru : Int) :
    Calls Tryz.prog 96 #[.pointer (some d), .int .i64 8, .int .i64 ru] w fun e w' => e = .returned (.iface 264 (.pointer (some ⟨w.heap.size, 0, none⟩))) ∧ w' = w.alloc (.cells (sC 8 (.pointer none) ru (-1)) 290) := by
  have hd := fun a w => dSRI (show (264 : TypeId) ∈ stTypes by decide) a w
  have bb := fun w => Blk.new w 290 (sC 8 (.pointer none) 0 (-1))
  go_enter Tryz.func96, Tryz.ntmps96
  go_wp2_with (first | (go_at_call 135; refine (mk8_any w).mono ?_; rintro e w' ⟨rfl, hw⟩; change w' = w.alloc (.cells (sC 8 (.pointer none) 0 (-1)) 290) at hw; subst hw) | (go_at_call 282; refine (sRI _ _ _ (by rw [(bb _).cell 3]; rfl) ((bb _).free 3)).mono ?_; rintro e w' ⟨rfl, rfl⟩))
  go_ret
  exact ⟨rfl, by rw [sC_set3]⟩
set_option maxHeartbeats 1000000 in
theorem sf9_any {w : World} (d : Addr) (ru : Int) :
    Calls Tryz.prog 96 #[.pointer (some d), .int .i64 9, .int .i64 ru] w fun e w' => e = .returned (.iface 301 (.pointer (some ⟨w.heap.size, 0, none⟩))) ∧ w' = w.alloc (.cells (sC 9 (.pointer none) ru (-1)) 303) := by
  have hd := fun a w => dSRI (show (301 : TypeId) ∈ stTypes by decide) a w
  have bb := fun w => Blk.new w 303 (sC 9 (.pointer none) 0 (-1))
  go_enter Tryz.func96, Tryz.ntmps96
  go_wp2_with (first | (go_at_call 136; refine (mk9_any w).mono ?_; rintro e w' ⟨rfl, hw⟩; change w' = w.alloc (.cells (sC 9 (.pointer none) 0 (-1)) 303) at hw; subst hw) | (go_at_call 282; refine (sRI _ _ _ (by rw [(bb _).cell 3]; rfl) ((bb _).free 3)).mono ?_; rintro e w' ⟨rfl, rfl⟩))
  go_ret
  exact ⟨rfl, by rw [sC_set3]⟩
set_option maxHeartbeats 1000000 in
theorem sf10_any {w : World} (d : Addr) (ru : Int) :
    Calls Tryz.prog 96 #[.pointer (some d), .int .i64 10, .int .i64 ru] w fun e w' => e = .returned (.iface 173 (.pointer (some ⟨w.heap.size, 0, none⟩))) ∧ w' = w.alloc (.cells (sC 10 (.pointer none) ru (-1)) 182) := by
  have hd := fun a w => dSRI (show (173 : TypeId) ∈ stTypes by decide) a w
  have bb := fun w => Blk.new w 182 (sC 10 (.pointer none) 0 (-1))
  go_enter Tryz.func96, Tryz.ntmps96
  go_wp2_with (first | (go_at_call 137; refine (mk10_any w).mono ?_; rintro e w' ⟨rfl, hw⟩; change w' = w.alloc (.cells (sC 10 (.pointer none) 0 (-1)) 182) at hw; subst hw) | (go_at_call 282; refine (sRI _ _ _ (by rw [(bb _).cell 3]; rfl) ((bb _).free 3)).mono ?_; rintro e w' ⟨rfl, rfl⟩))
  go_ret
  exact ⟨rfl, by rw [sC_set3]⟩
set_option maxHeartbeats 1000000 in
theorem sf11_any {w : World} (d : Addr) (ru : Int) :
    Calls Tryz.prog 96 #[.pointer (some d), .int .i64 11, .int .i64 ru] w fun e w' => e = .returned (.iface 291 (.pointer (some ⟨w.heap.size, 0, none⟩))) ∧ w' = w.alloc (.cells (sC 11 (.pointer none) ru (-1)) 294) := by
  have hd := fun a w => dSRI (show (291 : TypeId) ∈ stTypes by decide) a w
  have bb := fun w => Blk.new w 294 (sC 11 (.pointer none) 0 (-1))
  go_enter Tryz.func96, Tryz.ntmps96
  go_wp2_with (first | (go_at_call 138; refine (mk11_any w).mono ?_; rintro e w' ⟨rfl, hw⟩; change w' = w.alloc (.cells (sC 11 (.pointer none) 0 (-1)) 294) at hw; subst hw) | (go_at_call 282; refine (sRI _ _ _ (by rw [(bb _).cell 3]; rfl) ((bb _).free 3)).mono ?_; rintro e w' ⟨rfl, rfl⟩))
  go_ret
  exact ⟨rfl, by rw [sC_set3]⟩
set_option maxHeartbeats 1000000 in
theorem sf12_any {w : World} (d : Addr) (ru : Int) :
    Calls Tryz.prog 96 #[.pointer (some d), .int .i64 12, .int .i64 ru] w fun e w' => e = .returned (.iface 253 (.pointer (some ⟨w.heap.size, 0, none⟩))) ∧ w' = w.alloc (.cells (sC 12 (.pointer none) ru (-1)) 262) := by
  have hd := fun a w => dSRI (show (253 : TypeId) ∈ stTypes by decide) a w
  have bb := fun w => Blk.new w 262 (sC 12 (.pointer none) 0 (-1))
  go_enter Tryz.func96, Tryz.ntmps96
  go_wp2_with (first | (go_at_call 139; refine (mk12_any w).mono ?_; rintro e w' ⟨rfl, hw⟩; change w' = w.alloc (.cells (sC 12 (.pointer none) 0 (-1)) 262) at hw; subst hw) | (go_at_call 282; refine (sRI _ _ _ (by rw [(bb _).cell 3]; rfl) ((bb _).free 3)).mono ?_; rintro e w' ⟨rfl, rfl⟩))
  go_ret
  exact ⟨rfl, by rw [sC_set3]⟩
theorem sC_set1 (k : Nat) (ru sn : Int) (u v : Value) : (sC k u ru sn).setIfInBounds 1 v = sC k v ru sn := by simp [sC]
theorem sC_set4 (k : Nat) (ru sn sn' : Int) (u : Value) : (sC k u ru sn).setIfInBounds 4 (.int .i64 sn') = sC k u ru sn' := by simp [sC]
/-- A state is made. -/
theorem sfac_any {k : DK} {g : DG} {w : World} {rest : List Int} (h : DM k g w rest) (i : Nat) {kd : Nat} (h1 : 1 ≤ kd) (h2 : kd ≤ 12) (ru : Int) :
    Calls Tryz.prog 96 #[.pointer (some ⟨k.db, 0, none⟩), .int .i64 kd, .int .i64 ru] w fun e w' => e = .returned (.iface (kTy kd) (.pointer (some ⟨w.heap.size, 0, none⟩))) ∧
      ∃ g', DM k g' w' rest ∧ g'.bl = upO g.bl i ⟨w.heap.size, bTy kd, sC kd (.pointer none) ru (-1)⟩ ∧ g'.rw = g.rw := by
  have fin : ∀ w', w' = w.alloc (.cells (sC kd (.pointer none) ru (-1)) (bTy kd)) → ∃ g', DM k g' w' rest ∧ g'.bl = upO g.bl i ⟨w.heap.size, bTy kd, sC kd (.pointer none) ru (-1)⟩ ∧ g'.rw = g.rw := by
    rintro _ rfl
    exact ⟨_, h.newB i (bTy kd) (sC kd (.pointer none) ru (-1)), rfl, rfl⟩
  have hk : kd = 1 ∨ kd = 2 ∨ kd = 3 ∨ kd = 4 ∨ kd = 5 ∨ kd = 6 ∨ kd = 7 ∨ kd = 8 ∨ kd = 9 ∨ kd = 10 ∨ kd = 11 ∨ kd = 12 := by omega
  rcases hk with rfl | rfl | rfl | rfl | rfl | rfl | rfl | rfl | rfl | rfl | rfl | rfl
  · exact (sf1_any (w := w) ⟨k.db, 0, none⟩ ru).mono fun e w' hh => ⟨hh.1, fin w' hh.2⟩
  · exact (sf2_any (w := w) ⟨k.db, 0, none⟩ ru).mono fun e w' hh => ⟨hh.1, fin w' hh.2⟩
  · exact (sf3_any (w := w) ⟨k.db, 0, none⟩ ru).mono fun e w' hh => ⟨hh.1, fin w' hh.2⟩
  · exact (sf4_any (w := w) ⟨k.db, 0, none⟩ ru).mono fun e w' hh => ⟨hh.1, fin w' hh.2⟩
  · exact (sf5_any (w := w) ⟨k.db, 0, none⟩ ru).mono fun e w' hh => ⟨hh.1, fin w' hh.2⟩
  · exact (sf6_any (w := w) ⟨k.db, 0, none⟩ ru).mono fun e w' hh => ⟨hh.1, fin w' hh.2⟩
  · exact (sf7_any (w := w) ⟨k.db, 0, none⟩ ru).mono fun e w' hh => ⟨hh.1, fin w' hh.2⟩
  · exact (sf8_any (w := w) ⟨k.db, 0, none⟩ ru).mono fun e w' hh => ⟨hh.1, fin w' hh.2⟩
  · exact (sf9_any (w := w) ⟨k.db, 0, none⟩ ru).mono fun e w' hh => ⟨hh.1, fin w' hh.2⟩
  · exact (sf10_any (w := w) ⟨k.db, 0, none⟩ ru).mono fun e w' hh => ⟨hh.1, fin w' hh.2⟩
  · exact (sf11_any (w := w) ⟨k.db, 0, none⟩ ru).mono fun e w' hh => ⟨hh.1, fin w' hh.2⟩
  · exact (sf12_any (w := w) ⟨k.db, 0, none⟩ ru).mono fun e w' hh => ⟨hh.1, fin w' hh.2⟩
end Go.Proofs
end
