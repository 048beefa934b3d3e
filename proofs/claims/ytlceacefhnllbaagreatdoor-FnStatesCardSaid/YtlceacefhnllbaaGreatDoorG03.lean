/- A part of the proof of the statement on the law FnStates, which the last text proves: part G03. -/
import Derived.Test.YtlceacefhnllbaaGreatDoorG02
set_option linter.all false
section
namespace Go.Proofs
open Go.RowKit
open Pl
set_option maxRecDepth 100000 in
set_option maxHeartbeats 400000 in
theorem get_eps (l ip cs : Value) (B : Nat) (w : World) (N : Bd) (v : AV) (b tb sb cb pb : Nat) (T : TypeId) (alt : Int) (hb : Blk w b 161 (confCells T sb alt cb pb)) (e : LE) (he : e.kind = 1) (ht : TrAt B w N v e tb) (hg : Tgt w (kTy (N.kind e.dst)) (v.st e.dst)) (sp eof : Bool) :
    Calls Tryz.prog 167 #[l, ip, .pointer (some ⟨b, 0, none⟩), .iface 286 (.pointer (some ⟨tb, 0, none⟩)), cs, .bool sp, .bool eof] w fun r w' =>
      r = .returned (.pointer (some ⟨w.heap.size, 0, none⟩)) ∧ w.alloc (.cells (confCells (kTy (N.kind e.dst)) (v.st e.dst) alt cb pb) 161) = w' := by
  have h4 := ht.ser.at
  have h0 := ht.tgt.at
  rw [he] at h4
  have d1 := fun a => dSer (show (286 : TypeId) ∈ trTypes by decide) a w
  have d2 := fun a => dTgt (show (286 : TypeId) ∈ trTypes by decide) a w
  have H := Lib.hid hb
  have HG := Lib.hid hg
  clear ht hb hg
  go_enter Tryz.func167, Tryz.ntmps167
  go_wp2_with (first | (go_at_call 301; refine (gSer _ _ _ (by go_simp; first | done | rfl)).mono ?_; rintro e w' ⟨rfl, rfl⟩) | (go_at_call 101; refine (gTgt _ _ _ (by go_simp; first | done | rfl)).mono ?_; rintro e w' ⟨rfl, rfl⟩) | (go_at_call 200; refine (cfg4_any _ _ _ _ _ _ _ _ _ H.out HG.out).mono ?_; rintro e w' ⟨rfl, rfl⟩))
  go_ret
  exact ⟨rfl, rfl⟩

theorem dMatchE (a : Addr) (w : World) : (method 715 286 (.pointer (some a)) "Matches").run Tryz.prog w = .ok (303, .pointer (some a)) w := by kernel_rfl
theorem dMatchR (a : Addr) (w : World) : (method 715 350 (.pointer (some a)) "Matches").run Tryz.prog w = .ok (309, .pointer (some a)) w := by kernel_rfl
theorem dMatchA (a : Addr) (w : World) : (method 715 357 (.pointer (some a)) "Matches").run Tryz.prog w = .ok (316, .pointer (some a)) w := by kernel_rfl

theorem matchE_any (tb : Nat) (c p q : Int) (w : World) : Calls Tryz.prog 303 #[.pointer (some ⟨tb, 0, none⟩), .int .i64 c, .int .i64 p, .int .i64 q] w fun e w' => e = .returned (.bool false) ∧ w = w' := by
  go_enter Tryz.func303, Tryz.ntmps303
  go_wp2
  go_ret
  exact ⟨rfl, rfl⟩
theorem matchA_any (tb : Nat) (l c p q : Int) (w : World) (h : w.cell? ⟨tb, 2, none⟩ = some (.int .i64 l)) : Calls Tryz.prog 316 #[.pointer (some ⟨tb, 0, none⟩), .int .i64 c, .int .i64 p, .int .i64 q] w fun e w' => e = .returned (.bool (l == c)) ∧ w = w' := by
  go_enter Tryz.func316, Tryz.ntmps316
  go_wp2
  go_ret
  exact ⟨by simp, rfl⟩
theorem matchR_any (tb : Nat) (lo hi c p q : Int) (w : World) (h : w.cell? ⟨tb, 5, none⟩ = some (.int .i64 lo)) (h2 : w.cell? ⟨tb, 6, none⟩ = some (.int .i64 hi)) : Calls Tryz.prog 309 #[.pointer (some ⟨tb, 0, none⟩), .int .i64 c, .int .i64 p, .int .i64 q] w fun e w' => e = .returned (.bool (decide (lo ≤ c) && decide (c ≤ hi))) ∧ ∃ n, w.drewN n = w' := by
  go_enter Tryz.func309, Tryz.ntmps309
  go_wp2
  all_goals go_ret
  all_goals exact ⟨by first | (simp_all; done) | (simp_all; omega), 0, rfl⟩

set_option maxRecDepth 100000 in
set_option maxHeartbeats 400000 in
theorem get_atom (l ip cs : Value) (B : Nat) (w : World) (N : Bd) (v : AV) (b tb : Nat) (e : LE) (he : e.kind = 5) (ht : TrAt B w N v e tb) (sp eof : Bool) :
    Calls Tryz.prog 167 #[l, ip, .pointer (some ⟨b, 0, none⟩), .iface 357 (.pointer (some ⟨tb, 0, none⟩)), cs, .bool sp, .bool eof] w fun r w' =>
      r = .returned (.pointer none) ∧ w = w' := by
  have h4 : w.cell? ⟨tb, 4, none⟩ = some (.int .i64 5) := by have := ht.ser.at; rw [he] at this; exact this
  obtain ⟨h2, h3⟩ := ht.atom he
  have h2 := h2.at
  have hm : (e.a1 == -1) = false := by simp; omega
  have d1 := fun a => dSer (show (357 : TypeId) ∈ trTypes by decide) a w
  have d2 := fun a => dMatchA a w
  clear ht
  go_enter Tryz.func167, Tryz.ntmps167
  cases eof
  all_goals go_wp2_with (first | (go_at_call 301; refine (gSer _ _ _ h4).mono ?_; rintro e w' ⟨rfl, rfl⟩) | (go_at_call 316; refine (matchA_any _ _ _ _ _ _ h2).mono ?_; rintro e w' ⟨rfl, rfl⟩))
  all_goals go_ret
  all_goals exact ⟨rfl, rfl⟩

set_option maxRecDepth 100000 in
set_option maxHeartbeats 4000000 in
theorem get_range (l ip cs : Value) (B : Nat) (w : World) (N : Bd) (v : AV) (b tb : Nat) (e : LE) (he : e.kind = 2) (ht : TrAt B w N v e tb) (sp eof : Bool) :
    Calls Tryz.prog 167 #[l, ip, .pointer (some ⟨b, 0, none⟩), .iface 350 (.pointer (some ⟨tb, 0, none⟩)), cs, .bool sp, .bool eof] w fun r w' =>
      r = .returned (.pointer none) ∧ ∃ n, w.drewN n = w' := by
  have h4 : w.cell? ⟨tb, 4, none⟩ = some (.int .i64 2) := by have := ht.ser.at; rw [he] at this; exact this
  obtain ⟨h2, h3, h5⟩ := ht.rng he
  have h2 := h2.at
  have h3 := h3.at
  have hm : (decide (e.a1 ≤ -1) && decide (-1 ≤ e.a2)) = false := by simp; omega
  have d1 := fun a => dSer (show (350 : TypeId) ∈ trTypes by decide) a w
  have d2 := fun a => dMatchR a w
  clear ht
  go_enter Tryz.func167, Tryz.ntmps167
  cases eof
  all_goals go_wp2_with (first | (go_at_call 301; refine (gSer _ _ _ h4).mono ?_; rintro e w' ⟨rfl, rfl⟩) | (go_at_call 309; refine (matchR_any _ _ _ _ _ _ _ h2 h3).mono ?_; rintro e w' ⟨rfl, n, rfl⟩))
  all_goals go_ret
  · exact ⟨rfl, 0, rfl⟩
  · exact ⟨rfl, n, rfl⟩
end Go.Proofs
end
