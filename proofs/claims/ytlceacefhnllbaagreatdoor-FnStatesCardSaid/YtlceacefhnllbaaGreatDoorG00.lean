/- A part of the proof of the statement on the law FnStates, which the last text proves: part G00. -/
import Derived.Test.YtlceacefhnllbaaGreatDoorProg
import Derived.WalkKit
import Derived.WalkSpells
import Derived.WalkLawsBesides
import Derived.Stop.Asserts
import Derived.Lib.Hide
import Derived.ChangeMaps4
import Derived.LaidEqlPtr
import Derived.WideLaws
import Derived.Deep.QuietTactic
import Derived.BigQuiet
import Derived.Deep.RegionHeld3
import Derived.Deep.AppendLies
import Derived.KernelRfl
import Derived.LaidEql
import Derived.Deep.RegionLaw
import Derived.Test.YtlceacefhnllbaaGreatDoorP2
set_option linter.all false
section
namespace Go.Proofs
open Go.RowKit
/-! ## Small words -/

/-- A block that is a struct, whole. -/
def Blk (w : World) (b : Nat) (T : TypeId) (c : Array Value) : Prop := w.heap[b]? = some (.cells c T (0, 0))

theorem Blk.cell {w : World} {b : Nat} {T : TypeId} {c : Array Value} (h : Blk w b T c) : ∀ i, w.cell? ⟨b, i, none⟩ = c[i]? := by
  intro i; unfold Blk at h; simp [World.cell?, h]
theorem Blk.free {w : World} {b : Nat} {T : TypeId} {c : Array Value} (h : Blk w b T c) : ∀ i, w.frozen? ⟨b, i, none⟩ = false := by
  intro i; unfold Blk at h; simp [World.frozen?, h]
theorem Blk.lt {w : World} {b : Nat} {T : TypeId} {c : Array Value} (h : Blk w b T c) : b < w.heap.size := lt_of_block h
theorem Blk.below {w w' : World} {B b : Nat} {T : TypeId} {c : Array Value} (h : Blk w b T c) (hb : Below B w w') (hl : b < B) : Blk w' b T c := by
  unfold Blk at *; rw [hb.block b hl]; exact h
theorem Blk.new (w : World) (T : TypeId) (c : Array Value) : Blk (w.alloc (.cells c T)) w.heap.size T c := heap_alloc_new _ _
theorem Blk.alloc {w : World} {b : Nat} {T : TypeId} {c : Array Value} (h : Blk w b T c) (o : Obj) : Blk (w.alloc o) b T c := by
  unfold Blk at *; rw [Below.heap_alloc _ _ _ (lt_of_block h)]; exact h

/-! ## The hash -/

def mUI (h v : Int) : Int := (bits BinOp.or IntKind.u32 (bits BinOp.xor IntKind.u32 (h % 4294967296) (bits BinOp.or IntKind.u32 (v % 4294967296 * 3432918353 % 4294967296 * 32768 % 4294967296) (v % 4294967296 * 3432918353 % 4294967296 / 131072) * 461845907 % 4294967296) * 8192 % 4294967296) (bits BinOp.xor IntKind.u32 (h % 4294967296) (bits BinOp.or IntKind.u32 (v % 4294967296 * 3432918353 % 4294967296 * 32768 % 4294967296) (v % 4294967296 * 3432918353 % 4294967296 / 131072) * 461845907 % 4294967296) / 524288) * 5 + 3864292196) % 4294967296

set_option maxHeartbeats 400000 in
theorem murmurUpdate_any (h v : Int) (w : World) :
    Calls Tryz.prog 56 #[.int .i64 h, .int .i64 v] w fun e w' => e = .returned (.int .i64 (mUI h v)) ∧ w = w' := by
  go_enter Tryz.func56, Tryz.ntmps56
  go_wp2
  go_ret
  exact ⟨rfl, rfl⟩

def mFI1 (h v : Int) : Int := bits BinOp.xor IntKind.u32 (h % 4294967296) (v % 4294967296 * 4 % 4294967296)
def mFI2 (x : Int) : Int := bits BinOp.xor IntKind.u32 x (x / 65536) * 2246822507 % 4294967296
def mFI3 (x : Int) : Int := bits BinOp.xor IntKind.u32 x (x / 8192) * 3266489909 % 4294967296
def mFI (h v : Int) : Int := wrap64 (bits BinOp.xor IntKind.u32 (mFI3 (mFI2 (mFI1 h v))) (mFI3 (mFI2 (mFI1 h v)) / 65536))

set_option maxHeartbeats 400000 in
theorem murmurFinish_any (h v : Int) (w : World) :
    Calls Tryz.prog 58 #[.int .i64 h, .int .i64 v] w fun e w' => e = .returned (.int .i64 (mFI h v)) ∧ w = w' := by
  go_enter Tryz.func58, Tryz.ntmps58
  go_wp2
  go_ret
  exact ⟨rfl, rfl⟩

/-! ## States and contexts -/

/-- The kinds of states, as pointers' types. -/
def stTypes : List TypeId := [330, 268, 333, 295, 309, 232, 269, 264, 301, 173, 291, 253]


theorem murmurInit_any (h : Int) (w : World) : Calls Tryz.prog 55 #[.int .i64 h] w fun e w' => e = .returned (.int .i64 h) ∧ w = w' := by
  go_enter Tryz.func55, Tryz.ntmps55
  go_wp2
  go_ret
  exact ⟨rfl, rfl⟩

def dcTypes : List TypeId := [333, 295, 309, 232, 173, 291]
def blTypes : List TypeId := [333, 295, 309]
def trTypes : List TypeId := [286, 350, 357]

theorem dSN {T : TypeId} (hT : T ∈ stTypes) (a : Addr) (w : World) : (method 715 T (.pointer (some a)) "GetStateNumber").run Tryz.prog w = .ok (277, .pointer (some a)) w := by
  unfold stTypes at hT
  simp only [List.mem_cons, List.not_mem_nil, or_false] at hT
  rcases hT with rfl | rfl | rfl | rfl | rfl | rfl | rfl | rfl | rfl | rfl | rfl | rfl
  all_goals kernel_rfl

theorem dEps {T : TypeId} (hT : T ∈ stTypes) (a : Addr) (w : World) : (method 715 T (.pointer (some a)) "GetEpsilonOnlyTransitions").run Tryz.prog w = .ok (274, .pointer (some a)) w := by
  unfold stTypes at hT
  simp only [List.mem_cons, List.not_mem_nil, or_false] at hT
  rcases hT with rfl | rfl | rfl | rfl | rfl | rfl | rfl | rfl | rfl | rfl | rfl | rfl
  all_goals kernel_rfl

theorem dTrs {T : TypeId} (hT : T ∈ stTypes) (a : Addr) (w : World) : (method 715 T (.pointer (some a)) "GetTransitions").run Tryz.prog w = .ok (104, .pointer (some a)) w := by
  unfold stTypes at hT
  simp only [List.mem_cons, List.not_mem_nil, or_false] at hT
  rcases hT with rfl | rfl | rfl | rfl | rfl | rfl | rfl | rfl | rfl | rfl | rfl | rfl
  all_goals kernel_rfl

theorem dRI {T : TypeId} (hT : T ∈ stTypes) (a : Addr) (w : World) : (method 715 T (.pointer (some a)) "GetRuleIndex").run Tryz.prog w = .ok (276, .pointer (some a)) w := by
  unfold stTypes at hT
  simp only [List.mem_cons, List.not_mem_nil, or_false] at hT
  rcases hT with rfl | rfl | rfl | rfl | rfl | rfl | rfl | rfl | rfl | rfl | rfl | rfl
  all_goals kernel_rfl

theorem dSRI {T : TypeId} (hT : T ∈ stTypes) (a : Addr) (w : World) : (method 715 T (.pointer (some a)) "SetRuleIndex").run Tryz.prog w = .ok (282, .pointer (some a)) w := by
  unfold stTypes at hT
  simp only [List.mem_cons, List.not_mem_nil, or_false] at hT
  rcases hT with rfl | rfl | rfl | rfl | rfl | rfl | rfl | rfl | rfl | rfl | rfl | rfl
  all_goals kernel_rfl

theorem dSATN {T : TypeId} (hT : T ∈ stTypes) (a : Addr) (w : World) : (method 715 T (.pointer (some a)) "SetATN").run Tryz.prog w = .ok (280, .pointer (some a)) w := by
  unfold stTypes at hT
  simp only [List.mem_cons, List.not_mem_nil, or_false] at hT
  rcases hT with rfl | rfl | rfl | rfl | rfl | rfl | rfl | rfl | rfl | rfl | rfl | rfl
  all_goals kernel_rfl

theorem dSSN {T : TypeId} (hT : T ∈ stTypes) (a : Addr) (w : World) : (method 715 T (.pointer (some a)) "SetStateNumber").run Tryz.prog w = .ok (283, .pointer (some a)) w := by
  unfold stTypes at hT
  simp only [List.mem_cons, List.not_mem_nil, or_false] at hT
  rcases hT with rfl | rfl | rfl | rfl | rfl | rfl | rfl | rfl | rfl | rfl | rfl | rfl
  all_goals kernel_rfl

theorem dAdd {T : TypeId} (hT : T ∈ stTypes) (a : Addr) (w : World) : (method 715 T (.pointer (some a)) "AddTransition").run Tryz.prog w = .ok (103, .pointer (some a)) w := by
  unfold stTypes at hT
  simp only [List.mem_cons, List.not_mem_nil, or_false] at hT
  rcases hT with rfl | rfl | rfl | rfl | rfl | rfl | rfl | rfl | rfl | rfl | rfl | rfl
  all_goals kernel_rfl

theorem dSetDec {T : TypeId} (hT : T ∈ dcTypes) (a : Addr) (w : World) : (method 715 T (.pointer (some a)) "loop.example/pub-treesoftexts/pub/antlratn.setDecision").run Tryz.prog w = .ok (287, .pointer (some a)) w := by
  unfold dcTypes at hT
  simp only [List.mem_cons, List.not_mem_nil, or_false] at hT
  rcases hT with rfl | rfl | rfl | rfl | rfl | rfl
  all_goals kernel_rfl

theorem dNG {T : TypeId} (hT : T ∈ dcTypes) (a : Addr) (w : World) : (method 715 T (.pointer (some a)) "loop.example/pub-treesoftexts/pub/antlratn.getNonGreedy").run Tryz.prog w = .ok (286, .pointer (some a)) w := by
  unfold dcTypes at hT
  simp only [List.mem_cons, List.not_mem_nil, or_false] at hT
  rcases hT with rfl | rfl | rfl | rfl | rfl | rfl
  all_goals kernel_rfl

theorem dGetDec {T : TypeId} (hT : T ∈ dcTypes) (a : Addr) (w : World) : (method 715 T (.pointer (some a)) "loop.example/pub-treesoftexts/pub/antlratn.getDecision").run Tryz.prog w = .ok (285, .pointer (some a)) w := by
  unfold dcTypes at hT
  simp only [List.mem_cons, List.not_mem_nil, or_false] at hT
  rcases hT with rfl | rfl | rfl | rfl | rfl | rfl
  all_goals kernel_rfl

theorem dGetEnd {T : TypeId} (hT : T ∈ blTypes) (a : Addr) (w : World) : (method 715 T (.pointer (some a)) "loop.example/pub-treesoftexts/pub/antlratn.getEndState").run Tryz.prog w = .ok (305, .pointer (some a)) w := by
  unfold blTypes at hT
  simp only [List.mem_cons, List.not_mem_nil, or_false] at hT
  rcases hT with rfl | rfl | rfl
  all_goals kernel_rfl

theorem dSetEnd {T : TypeId} (hT : T ∈ blTypes) (a : Addr) (w : World) : (method 715 T (.pointer (some a)) "loop.example/pub-treesoftexts/pub/antlratn.setEndState").run Tryz.prog w = .ok (306, .pointer (some a)) w := by
  unfold blTypes at hT
  simp only [List.mem_cons, List.not_mem_nil, or_false] at hT
  rcases hT with rfl | rfl | rfl
  all_goals kernel_rfl

theorem dTgt {T : TypeId} (hT : T ∈ trTypes) (a : Addr) (w : World) : (method 715 T (.pointer (some a)) "loop.example/pub-treesoftexts/pub/antlratn.getTarget").run Tryz.prog w = .ok (101, .pointer (some a)) w := by
  unfold trTypes at hT
  simp only [List.mem_cons, List.not_mem_nil, or_false] at hT
  rcases hT with rfl | rfl | rfl
  all_goals kernel_rfl

theorem dIsE {T : TypeId} (hT : T ∈ trTypes) (a : Addr) (w : World) : (method 715 T (.pointer (some a)) "loop.example/pub-treesoftexts/pub/antlratn.getIsEpsilon").run Tryz.prog w = .ok (299, .pointer (some a)) w := by
  unfold trTypes at hT
  simp only [List.mem_cons, List.not_mem_nil, or_false] at hT
  rcases hT with rfl | rfl | rfl
  all_goals kernel_rfl

theorem dSer {T : TypeId} (hT : T ∈ trTypes) (a : Addr) (w : World) : (method 715 T (.pointer (some a)) "loop.example/pub-treesoftexts/pub/antlratn.getSerializationType").run Tryz.prog w = .ok (301, .pointer (some a)) w := by
  unfold trTypes at hT
  simp only [List.mem_cons, List.not_mem_nil, or_false] at hT
  rcases hT with rfl | rfl | rfl
  all_goals kernel_rfl
end Go.Proofs
end
section
namespace Go.Proofs
open Go.RowKit
/-! ## Reading and writing one field -/

theorem gState (b : Nat) (v : Value) (w : World) (h : w.cell? ⟨b, 1, none⟩ = some v) : Calls Tryz.prog 113 #[.pointer (some ⟨b, 0, none⟩)] w fun e w' => e = .returned v ∧ w = w' := by
  go_enter Tryz.func113, Tryz.ntmps113
  go_wp2
  go_ret
  exact ⟨rfl, rfl⟩

theorem gAlt (b : Nat) (v : Value) (w : World) (h : w.cell? ⟨b, 2, none⟩ = some v) : Calls Tryz.prog 172 #[.pointer (some ⟨b, 0, none⟩)] w fun e w' => e = .returned v ∧ w = w' := by
  go_enter Tryz.func172, Tryz.ntmps172
  go_wp2
  go_ret
  exact ⟨rfl, rfl⟩

theorem gCtx (b : Nat) (v : Value) (w : World) (h : w.cell? ⟨b, 3, none⟩ = some v) : Calls Tryz.prog 191 #[.pointer (some ⟨b, 0, none⟩)] w fun e w' => e = .returned v ∧ w = w' := by
  go_enter Tryz.func191, Tryz.ntmps191
  go_wp2
  go_ret
  exact ⟨rfl, rfl⟩

theorem gSem (b : Nat) (v : Value) (w : World) (h : w.cell? ⟨b, 4, none⟩ = some v) : Calls Tryz.prog 187 #[.pointer (some ⟨b, 0, none⟩)] w fun e w' => e = .returned v ∧ w = w' := by
  go_enter Tryz.func187, Tryz.ntmps187
  go_wp2
  go_ret
  exact ⟨rfl, rfl⟩

theorem gRch (b : Nat) (v : Value) (w : World) (h : w.cell? ⟨b, 5, none⟩ = some v) : Calls Tryz.prog 188 #[.pointer (some ⟨b, 0, none⟩)] w fun e w' => e = .returned v ∧ w = w' := by
  go_enter Tryz.func188, Tryz.ntmps188
  go_wp2
  go_ret
  exact ⟨rfl, rfl⟩

theorem gPfs (b : Nat) (v : Value) (w : World) (h : w.cell? ⟨b, 0, none⟩ = some v) : Calls Tryz.prog 193 #[.pointer (some ⟨b, 0, none⟩)] w fun e w' => e = .returned v ∧ w = w' := by
  go_enter Tryz.func193, Tryz.ntmps193
  go_wp2
  go_ret
  exact ⟨rfl, rfl⟩

theorem gRI (b : Nat) (v : Value) (w : World) (h : w.cell? ⟨b, 3, none⟩ = some v) : Calls Tryz.prog 276 #[.pointer (some ⟨b, 0, none⟩)] w fun e w' => e = .returned v ∧ w = w' := by
  go_enter Tryz.func276, Tryz.ntmps276
  go_wp2
  go_ret
  exact ⟨rfl, rfl⟩

theorem gSN (b : Nat) (v : Value) (w : World) (h : w.cell? ⟨b, 4, none⟩ = some v) : Calls Tryz.prog 277 #[.pointer (some ⟨b, 0, none⟩)] w fun e w' => e = .returned v ∧ w = w' := by
  go_enter Tryz.func277, Tryz.ntmps277
  go_wp2
  go_ret
  exact ⟨rfl, rfl⟩

theorem gEps (b : Nat) (v : Value) (w : World) (h : w.cell? ⟨b, 2, none⟩ = some v) : Calls Tryz.prog 274 #[.pointer (some ⟨b, 0, none⟩)] w fun e w' => e = .returned v ∧ w = w' := by
  go_enter Tryz.func274, Tryz.ntmps274
  go_wp2
  go_ret
  exact ⟨rfl, rfl⟩

theorem gTrs (b : Nat) (v : Value) (w : World) (h : w.cell? ⟨b, 6, none⟩ = some v) : Calls Tryz.prog 104 #[.pointer (some ⟨b, 0, none⟩)] w fun e w' => e = .returned v ∧ w = w' := by
  go_enter Tryz.func104, Tryz.ntmps104
  go_wp2
  go_ret
  exact ⟨rfl, rfl⟩

theorem gDec (b : Nat) (v : Value) (w : World) (h : w.cell? ⟨b, 7, none⟩ = some v) : Calls Tryz.prog 285 #[.pointer (some ⟨b, 0, none⟩)] w fun e w' => e = .returned v ∧ w = w' := by
  go_enter Tryz.func285, Tryz.ntmps285
  go_wp2
  go_ret
  exact ⟨rfl, rfl⟩

theorem gNG (b : Nat) (v : Value) (w : World) (h : w.cell? ⟨b, 8, none⟩ = some v) : Calls Tryz.prog 286 #[.pointer (some ⟨b, 0, none⟩)] w fun e w' => e = .returned v ∧ w = w' := by
  go_enter Tryz.func286, Tryz.ntmps286
  go_wp2
  go_ret
  exact ⟨rfl, rfl⟩

theorem gEnd (b : Nat) (v : Value) (w : World) (h : w.cell? ⟨b, 9, none⟩ = some v) : Calls Tryz.prog 305 #[.pointer (some ⟨b, 0, none⟩)] w fun e w' => e = .returned v ∧ w = w' := by
  go_enter Tryz.func305, Tryz.ntmps305
  go_wp2
  go_ret
  exact ⟨rfl, rfl⟩

theorem gTgt (b : Nat) (v : Value) (w : World) (h : w.cell? ⟨b, 0, none⟩ = some v) : Calls Tryz.prog 101 #[.pointer (some ⟨b, 0, none⟩)] w fun e w' => e = .returned v ∧ w = w' := by
  go_enter Tryz.func101, Tryz.ntmps101
  go_wp2
  go_ret
  exact ⟨rfl, rfl⟩

theorem gIsE (b : Nat) (v : Value) (w : World) (h : w.cell? ⟨b, 1, none⟩ = some v) : Calls Tryz.prog 299 #[.pointer (some ⟨b, 0, none⟩)] w fun e w' => e = .returned v ∧ w = w' := by
  go_enter Tryz.func299, Tryz.ntmps299
  go_wp2
  go_ret
  exact ⟨rfl, rfl⟩

theorem gSer (b : Nat) (v : Value) (w : World) (h : w.cell? ⟨b, 4, none⟩ = some v) : Calls Tryz.prog 301 #[.pointer (some ⟨b, 0, none⟩)] w fun e w' => e = .returned v ∧ w = w' := by
  go_enter Tryz.func301, Tryz.ntmps301
  go_wp2
  go_ret
  exact ⟨rfl, rfl⟩

theorem gS0 (b : Nat) (v : Value) (w : World) (h : w.cell? ⟨b, 5, none⟩ = some v) : Calls Tryz.prog 52 #[.pointer (some ⟨b, 0, none⟩)] w fun e w' => e = .returned v ∧ w = w' := by
  go_enter Tryz.func52, Tryz.ntmps52
  go_wp2
  go_ret
  exact ⟨rfl, rfl⟩

theorem gEdges (b : Nat) (v : Value) (w : World) (h : w.cell? ⟨b, 2, none⟩ = some v) : Calls Tryz.prog 119 #[.pointer (some ⟨b, 0, none⟩)] w fun e w' => e = .returned v ∧ w = w' := by
  go_enter Tryz.func119, Tryz.ntmps119
  go_wp2
  go_ret
  exact ⟨rfl, rfl⟩

theorem gPCHash (b : Nat) (v : Value) (w : World) (h : w.cell? ⟨b, 0, none⟩ = some v) : Calls Tryz.prog 125 #[.pointer (some ⟨b, 0, none⟩)] w fun e w' => e = .returned v ∧ w = w' := by
  go_enter Tryz.func125, Tryz.ntmps125
  go_wp2
  go_ret
  exact ⟨rfl, rfl⟩

theorem gIdx (b : Nat) (v : Value) (w : World) (h : w.cell? ⟨b, 1, none⟩ = some v) : Calls Tryz.prog 37 #[.pointer (some ⟨b, 0, none⟩)] w fun e w' => e = .returned v ∧ w = w' := by
  go_enter Tryz.func37, Tryz.ntmps37
  go_wp2
  go_ret
  exact ⟨rfl, rfl⟩

theorem gLine (b : Nat) (v : Value) (w : World) (h : w.cell? ⟨b, 7, none⟩ = some v) : Calls Tryz.prog 39 #[.pointer (some ⟨b, 0, none⟩)] w fun e w' => e = .returned v ∧ w = w' := by
  go_enter Tryz.func39, Tryz.ntmps39
  go_wp2
  go_ret
  exact ⟨rfl, rfl⟩

theorem gChr (b : Nat) (v : Value) (w : World) (h : w.cell? ⟨b, 8, none⟩ = some v) : Calls Tryz.prog 40 #[.pointer (some ⟨b, 0, none⟩)] w fun e w' => e = .returned v ∧ w = w' := by
  go_enter Tryz.func40, Tryz.ntmps40
  go_wp2
  go_ret
  exact ⟨rfl, rfl⟩

theorem gGen (b : Nat) (v : Value) (w : World) (h : w.cell? ⟨b, 2, none⟩ = some v) : Calls Tryz.prog 73 #[.pointer (some ⟨b, 0, none⟩)] w fun e w' => e = .returned v ∧ w = w' := by
  go_enter Tryz.func73, Tryz.ntmps73
  go_wp2
  go_ret
  exact ⟨rfl, rfl⟩

theorem gVer (b : Nat) (v : Value) (w : World) (h : w.cell? ⟨b, 1, none⟩ = some v) : Calls Tryz.prog 106 #[.pointer (some ⟨b, 0, none⟩)] w fun e w' => e = .returned v ∧ w = w' := by
  go_enter Tryz.func106, Tryz.ntmps106
  go_wp2
  go_ret
  exact ⟨rfl, rfl⟩

theorem sRch (b : Nat) (n : Int) (w : World) (h : (w.cell? ⟨b, 5, none⟩).isSome = true) (hf : w.frozen? ⟨b, 5, none⟩ = false) : Calls Tryz.prog 192 #[.pointer (some ⟨b, 0, none⟩), .int .i64 n] w fun e w' => e = .returned (.tuple #[]) ∧ w.setCell ⟨b, 5, none⟩ (.int .i64 n) = w' := by
  obtain ⟨u, hu⟩ := Option.isSome_iff_exists.1 h
  clear h
  go_enter Tryz.func192, Tryz.ntmps192
  go_wp2
  go_end0
  exact ⟨rfl, rfl⟩

theorem sPfs (b : Nat) (n : Bool) (w : World) (h : (w.cell? ⟨b, 0, none⟩).isSome = true) (hf : w.frozen? ⟨b, 0, none⟩ = false) : Calls Tryz.prog 194 #[.pointer (some ⟨b, 0, none⟩), .bool n] w fun e w' => e = .returned (.tuple #[]) ∧ w.setCell ⟨b, 0, none⟩ (.bool n) = w' := by
  obtain ⟨u, hu⟩ := Option.isSome_iff_exists.1 h
  clear h
  go_enter Tryz.func194, Tryz.ntmps194
  go_wp2
  go_end0
  exact ⟨rfl, rfl⟩

theorem sCtx (b : Nat) (n : Option Addr) (w : World) (h : (w.cell? ⟨b, 3, none⟩).isSome = true) (hf : w.frozen? ⟨b, 3, none⟩ = false) : Calls Tryz.prog 195 #[.pointer (some ⟨b, 0, none⟩), .pointer n] w fun e w' => e = .returned (.tuple #[]) ∧ w.setCell ⟨b, 3, none⟩ (.pointer n) = w' := by
  obtain ⟨u, hu⟩ := Option.isSome_iff_exists.1 h
  clear h
  go_enter Tryz.func195, Tryz.ntmps195
  go_wp2
  go_end0
  exact ⟨rfl, rfl⟩

theorem sRI (b : Nat) (n : Int) (w : World) (h : (w.cell? ⟨b, 3, none⟩).isSome = true) (hf : w.frozen? ⟨b, 3, none⟩ = false) : Calls Tryz.prog 282 #[.pointer (some ⟨b, 0, none⟩), .int .i64 n] w fun e w' => e = .returned (.tuple #[]) ∧ w.setCell ⟨b, 3, none⟩ (.int .i64 n) = w' := by
  obtain ⟨u, hu⟩ := Option.isSome_iff_exists.1 h
  clear h
  go_enter Tryz.func282, Tryz.ntmps282
  go_wp2
  go_end0
  exact ⟨rfl, rfl⟩

theorem sATN (b : Nat) (n : Option Addr) (w : World) (h : (w.cell? ⟨b, 1, none⟩).isSome = true) (hf : w.frozen? ⟨b, 1, none⟩ = false) : Calls Tryz.prog 280 #[.pointer (some ⟨b, 0, none⟩), .pointer n] w fun e w' => e = .returned (.tuple #[]) ∧ w.setCell ⟨b, 1, none⟩ (.pointer n) = w' := by
  obtain ⟨u, hu⟩ := Option.isSome_iff_exists.1 h
  clear h
  go_enter Tryz.func280, Tryz.ntmps280
  go_wp2
  go_end0
  exact ⟨rfl, rfl⟩

theorem sSN (b : Nat) (n : Int) (w : World) (h : (w.cell? ⟨b, 4, none⟩).isSome = true) (hf : w.frozen? ⟨b, 4, none⟩ = false) : Calls Tryz.prog 283 #[.pointer (some ⟨b, 0, none⟩), .int .i64 n] w fun e w' => e = .returned (.tuple #[]) ∧ w.setCell ⟨b, 4, none⟩ (.int .i64 n) = w' := by
  obtain ⟨u, hu⟩ := Option.isSome_iff_exists.1 h
  clear h
  go_enter Tryz.func283, Tryz.ntmps283
  go_wp2
  go_end0
  exact ⟨rfl, rfl⟩

theorem sDec (b : Nat) (n : Int) (w : World) (h : (w.cell? ⟨b, 7, none⟩).isSome = true) (hf : w.frozen? ⟨b, 7, none⟩ = false) : Calls Tryz.prog 287 #[.pointer (some ⟨b, 0, none⟩), .int .i64 n] w fun e w' => e = .returned (.tuple #[]) ∧ w.setCell ⟨b, 7, none⟩ (.int .i64 n) = w' := by
  obtain ⟨u, hu⟩ := Option.isSome_iff_exists.1 h
  clear h
  go_enter Tryz.func287, Tryz.ntmps287
  go_wp2
  go_end0
  exact ⟨rfl, rfl⟩

theorem sEnd (b : Nat) (n : Option Addr) (w : World) (h : (w.cell? ⟨b, 9, none⟩).isSome = true) (hf : w.frozen? ⟨b, 9, none⟩ = false) : Calls Tryz.prog 306 #[.pointer (some ⟨b, 0, none⟩), .pointer n] w fun e w' => e = .returned (.tuple #[]) ∧ w.setCell ⟨b, 9, none⟩ (.pointer n) = w' := by
  obtain ⟨u, hu⟩ := Option.isSome_iff_exists.1 h
  clear h
  go_enter Tryz.func306, Tryz.ntmps306
  go_wp2
  go_end0
  exact ⟨rfl, rfl⟩

theorem sS0 (b : Nat) (n : Option Addr) (w : World) (h : (w.cell? ⟨b, 5, none⟩).isSome = true) (hf : w.frozen? ⟨b, 5, none⟩ = false) : Calls Tryz.prog 118 #[.pointer (some ⟨b, 0, none⟩), .pointer n] w fun e w' => e = .returned (.tuple #[]) ∧ w.setCell ⟨b, 5, none⟩ (.pointer n) = w' := by
  obtain ⟨u, hu⟩ := Option.isSome_iff_exists.1 h
  clear h
  go_enter Tryz.func118, Tryz.ntmps118
  go_wp2
  go_end0
  exact ⟨rfl, rfl⟩

theorem sEdges (b : Nat) (a : Option Addr) (n c : Nat) (w : World) (h : (w.cell? ⟨b, 2, none⟩).isSome = true) (hf : w.frozen? ⟨b, 2, none⟩ = false) : Calls Tryz.prog 176 #[.pointer (some ⟨b, 0, none⟩), .slice a n c] w fun e w' => e = .returned (.tuple #[]) ∧ w.setCell ⟨b, 2, none⟩ (.slice a n c) = w' := by
  obtain ⟨u, hu⟩ := Option.isSome_iff_exists.1 h
  clear h
  go_enter Tryz.func176, Tryz.ntmps176
  go_wp2
  go_end0
  exact ⟨rfl, rfl⟩

theorem sPred (b : Nat) (n : Int) (w : World) (h : (w.cell? ⟨b, 4, none⟩).isSome = true) (hf : w.frozen? ⟨b, 4, none⟩ = false) : Calls Tryz.prog 114 #[.pointer (some ⟨b, 0, none⟩), .int .i64 n] w fun e w' => e = .returned (.tuple #[]) ∧ w.setCell ⟨b, 4, none⟩ (.int .i64 n) = w' := by
  obtain ⟨u, hu⟩ := Option.isSome_iff_exists.1 h
  clear h
  go_enter Tryz.func114, Tryz.ntmps114
  go_wp2
  go_end0
  exact ⟨rfl, rfl⟩
end Go.Proofs
end
section
namespace Go.Proofs
open Go.RowKit
def Ctx (w : World) (b : Nat) : Prop := Blk w b 329 #[.int .i64 0, .int .i64 0, .pointer none, .int .i64 2147483647, .slice none 0 0, .slice none 0 0]
def Sn (w : World) (b : Nat) : Prop := Blk w b 483 #[.int .i64 (-1), .int .i64 (-1), .bool false]

def semHash : Int := mFI (mUI (mUI (mUI 0 (-1)) (-1)) 0) 3
def lhI (s alt : Int) : Int := mFI (mUI (mUI (mUI (mUI (mUI (mUI 7 s) alt) 0) semHash) 0) 61) 6

set_option maxHeartbeats 400000 in
theorem predHash_any (pb : Nat) (w : World) (h : Sn w pb) :
    Calls Tryz.prog 365 #[.pointer (some ⟨pb, 0, none⟩)] w fun e w' => e = .returned (.int .i64 semHash) ∧ w = w' := by
  have hc := h.cell
  clear h
  go_enter Tryz.func365, Tryz.ntmps365
  go_wp2_with (first | (go_at_call 55; refine (murmurInit_any _ _).mono ?_; rintro e w' ⟨rfl, rfl⟩) | (go_at_call 56; refine (murmurUpdate_any _ _ _).mono ?_; rintro e w' ⟨rfl, rfl⟩) | (go_at_call 58; refine (murmurFinish_any _ _ _).mono ?_; rintro e w' ⟨rfl, rfl⟩) | go_in)
  go_ret
  exact ⟨rfl, rfl⟩

theorem dPH (a : Addr) (w : World) : (method 715 446 (.pointer (some a)) "Hash").run Tryz.prog w = .ok (365, .pointer (some a)) w := by kernel_rfl

set_option maxRecDepth 100000 in
set_option maxHeartbeats 400000 in
theorem lhash_any (b sb cb pb : Nat) (T : TypeId) (hT : T ∈ stTypes) (n alt : Int) (w : World) 
  (hb : Blk w b 161 #[.bool false, .iface T (.pointer (some ⟨sb, 0, none⟩)), .int .i64 alt, .pointer (some ⟨cb, 0, none⟩), .iface 446 (.pointer (some ⟨pb, 0, none⟩)), .int .i64 0, .int .i64 0, .pointer none, .bool false])
   (hs : w.cell? ⟨sb, 4, none⟩ = some (.int .i64 n)) (hx : Ctx w cb) (hp : Sn w pb) :
    Calls Tryz.prog 89 #[.pointer (some ⟨b, 0, none⟩)] w fun e w' => e = .returned (.int .i64 (lhI n alt)) ∧ w = w' := by
  have hc := hb.cell
  have hd := fun a => dSN hT a w
  have hcc := hx.cell
  have hd2 := fun a => dPH a w
  clear hb hx
  go_enter Tryz.func89, Tryz.ntmps89
  go_wp2_with (first | (go_at_call 55; refine (murmurInit_any _ _).mono ?_; rintro e w' ⟨rfl, rfl⟩) | (go_at_call 56; refine (murmurUpdate_any _ _ _).mono ?_; rintro e w' ⟨rfl, rfl⟩) | (go_at_call 58; refine (murmurFinish_any _ _ _).mono ?_; rintro e w' ⟨rfl, rfl⟩) | (go_at_call 365; refine (predHash_any _ _ hp).mono ?_; rintro e w' ⟨rfl, rfl⟩) | go_in)
  go_ret
  exact ⟨rfl, rfl⟩
end Go.Proofs
end
section
namespace Go.Proofs
open Go.RowKit
def ndTypes : List TypeId := [330, 268, 269, 264, 301, 253]

theorem taDec {U : TypeId} (hU : U ∈ dcTypes) (a : Addr) (w : World) : (Instr.typeAssert (.iface U (.pointer (some a))) 156 119 true).run Tryz.prog w = .ok (.tuple #[.iface U (.pointer (some a)), .bool true]) w := by
  unfold dcTypes at hU
  simp only [List.mem_cons, List.not_mem_nil, or_false] at hU
  rcases hU with rfl | rfl | rfl | rfl | rfl | rfl
  all_goals kernel_rfl
theorem taNd {U : TypeId} (hU : U ∈ ndTypes) (a : Addr) (w : World) : (Instr.typeAssert (.iface U (.pointer (some a))) 156 119 true).run Tryz.prog w = .ok (.tuple #[.nilIface, .bool false]) w := by
  unfold ndTypes at hU
  simp only [List.mem_cons, List.not_mem_nil, or_false] at hU
  rcases hU with rfl | rfl | rfl | rfl | rfl | rfl
  all_goals exact run_typeAssert_lacksB Tryz.underlying119 (by kernel_rfl) (by kernel_rfl) _ 156 w
theorem st_or {U : TypeId} (hU : U ∈ stTypes) : U ∈ dcTypes ∨ U ∈ ndTypes := by
  unfold stTypes at hU
  simp only [List.mem_cons, List.not_mem_nil, or_false] at hU
  unfold dcTypes ndTypes
  simp only [List.mem_cons, List.not_mem_nil, or_false]
  rcases hU with h | h | h | h | h | h | h | h | h | h | h | h <;> simp [h]

/-- A configuration of a lexer: its state's dynamic type and block, its alternative, the blocks of its contexts. -/
def confCells (T : TypeId) (sb : Nat) (alt : Int) (cb pb : Nat) : Array Value :=
  #[.bool false, .iface T (.pointer (some ⟨sb, 0, none⟩)), .int .i64 alt, .pointer (some ⟨cb, 0, none⟩), .iface 446 (.pointer (some ⟨pb, 0, none⟩)), .int .i64 0, .int .i64 0, .pointer none, .bool false]

/-- A state that a configuration comes to: what is asked of it. -/
structure Tgt (w : World) (U : TypeId) (tb : Nat) : Prop where
  ty : U ∈ stTypes
  ng : U ∈ dcTypes → w.cell? ⟨tb, 8, none⟩ = some (.bool false)
  lt : tb < w.heap.size


theorem cng_any (b tb : Nat) (U : TypeId) (w : World) (h8 : w.cell? ⟨b, 8, none⟩ = some (.bool false)) (ht : Tgt w U tb) :
    Calls Tryz.prog 196 #[.pointer (some ⟨b, 0, none⟩), .iface U (.pointer (some ⟨tb, 0, none⟩))] w fun e w' => e = .returned (.bool false) ∧ w = w' := by
  rcases st_or ht.ty with h | h
  · have hn := ht.ng h
    have hd := fun a => dNG h a w
    have hta := fun a => taDec h a w
    go_enter Tryz.func196, Tryz.ntmps196
    go_wp2_with (first | (go_at_call 286; refine (gNG _ _ _ (by go_simp; first | done | rfl)).mono ?_; rintro e w' ⟨rfl, rfl⟩))
    go_ret
    exact ⟨rfl, rfl⟩
  · have hta := fun a => taNd h a w
    go_enter Tryz.func196, Tryz.ntmps196
    go_wp2
    go_ret
    exact ⟨rfl, rfl⟩

set_option maxHeartbeats 400000 in
theorem init_any (a b sb cb pb tb : Nat) (T U : TypeId) (alt : Int) (w : World) (hb : Blk w b 161 (confCells T sb alt cb pb)) (c : Array Value) (ha : Blk w a 161 c) (h9 : c.size = 9) (hab : a ≠ b) (n : Int) (cx px : Nat) :
    Calls Tryz.prog 197 #[.pointer (some ⟨a, 0, none⟩), .pointer (some ⟨b, 0, none⟩), .iface U (.pointer (some ⟨tb, 0, none⟩)), .int .i64 n, .pointer (some ⟨cx, 0, none⟩), .iface 446 (.pointer (some ⟨px, 0, none⟩))] w fun e w' => e = .returned (.tuple #[]) ∧
      (((((w.setCell ⟨a, 1, none⟩ (.iface U (.pointer (some ⟨tb, 0, none⟩)))).setCell ⟨a, 2, none⟩ (.int .i64 n)).setCell ⟨a, 3, none⟩ (.pointer (some ⟨cx, 0, none⟩))).setCell ⟨a, 4, none⟩ (.iface 446 (.pointer (some ⟨px, 0, none⟩)))).setCell ⟨a, 5, none⟩ (.int .i64 0)).setCell ⟨a, 0, none⟩ (.bool false) = w' := by
  have hc := hb.cell
  have hca := ha.cell
  have hfa := ha.free
  clear hb ha
  simp only [confCells] at hc
  obtain ⟨v0, v1, v2, v3, v4, v5, v6, v7, v8, rfl⟩ : ∃ v0 v1 v2 v3 v4 v5 v6 v7 v8, c = #[v0, v1, v2, v3, v4, v5, v6, v7, v8] := by
    match c, h9 with
    | ⟨[v0, v1, v2, v3, v4, v5, v6, v7, v8]⟩, _ => exact ⟨v0, v1, v2, v3, v4, v5, v6, v7, v8, rfl⟩
  have hba : b ≠ a := fun e => hab e.symm
  clear h9
  go_enter Tryz.func197, Tryz.ntmps197
  go_wp2_with (first | (go_at_call 188; refine (gRch _ _ _ (by go_simp; first | done | rfl)).mono ?_; rintro e w' ⟨rfl, rfl⟩) | (go_at_call 193; refine (gPfs _ _ _ (by go_simp; first | done | rfl)).mono ?_; rintro e w' ⟨rfl, rfl⟩))
  go_end0
  exact ⟨rfl, rfl⟩
end Go.Proofs
end
section
namespace Go.Proofs
open Go.RowKit
theorem snone_any (w : World) : Calls Tryz.prog 162 #[] w fun e w' => e = .returned (.iface 446 (.pointer (some ⟨w.heap.size, 0, none⟩))) ∧ w.alloc (.cells #[.int .i64 (-1), .int .i64 (-1), .bool false] 483) = w' := by
  go_enter Tryz.func162, Tryz.ntmps162
  go_wp2
  go_ret
  exact ⟨rfl, rfl⟩

theorem empty_any (w : World) : Calls Tryz.prog 111 #[] w fun e w' => e = .returned (.pointer (some ⟨w.heap.size, 0, none⟩)) ∧ w.alloc (.cells #[.int .i64 0, .int .i64 0, .pointer none, .int .i64 2147483647, .slice none 0 0, .slice none 0 0] 329) = w' := by
  go_enter Tryz.func111, Tryz.ntmps111
  go_wp2
  go_ret
  exact ⟨rfl, rfl⟩

set_option maxRecDepth 100000 in
set_option maxHeartbeats 400000 in
theorem cfg4_any (b sb cb pb tb : Nat) (T U : TypeId) (alt : Int) (w : World) (hb : Blk w b 161 (confCells T sb alt cb pb)) (ht : Tgt w U tb) :
    Calls Tryz.prog 200 #[.pointer (some ⟨b, 0, none⟩), .iface U (.pointer (some ⟨tb, 0, none⟩))] w fun e w' => e = .returned (.pointer (some ⟨w.heap.size, 0, none⟩)) ∧ w.alloc (.cells (confCells U tb alt cb pb) 161) = w' := by
  have hc := hb.cell
  have hlt := hb.lt
  simp only [confCells] at hc
  have hb2 := fun (o : Array Value) => Blk.alloc hb (.cells o 161)
  have ht2 : ∀ o, Tgt (w.alloc o) U tb := fun o => ⟨ht.ty, fun h => by rw [World.cell?_alloc_past _ _ _ ht.lt]; exact ht.ng h, by have := ht.lt; simp; omega⟩
  have H1 := Lib.hid hb2
  have H2 := Lib.hid ht2
  clear hb hb2 ht ht2
  go_enter Tryz.func200, Tryz.ntmps200
  go_wp2_with (first | (go_at_call 172; refine (gAlt _ _ _ (by go_simp; first | done | rfl)).mono ?_; rintro e w' ⟨rfl, rfl⟩) | (go_at_call 191; refine (gCtx _ _ _ (by go_simp; first | done | rfl)).mono ?_; rintro e w' ⟨rfl, rfl⟩) | (go_at_call 187; refine (gSem _ _ _ (by go_simp; first | done | rfl)).mono ?_; rintro e w' ⟨rfl, rfl⟩) | (go_at_call 196; refine (cng_any _ _ _ _ (by go_simp) (H2.out _)).mono ?_; rintro e w' ⟨rfl, rfl⟩) | (go_at_call 197; refine (init_any _ _ _ _ _ _ _ _ _ _ (H1.out _) _ (Blk.new _ _ _) rfl (by omega) _ _ _).mono ?_; rintro e w' ⟨rfl, rfl⟩))
  go_ret
  exact ⟨rfl, rfl⟩

set_option maxRecDepth 100000 in
set_option maxHeartbeats 400000 in
theorem cfg3_any (b sb cb pb tb : Nat) (T U : TypeId) (alt : Int) (w : World) (hb : Blk w b 161 (confCells T sb alt cb pb)) (ht : Tgt w U tb) :
    Calls Tryz.prog 175 #[.pointer (some ⟨b, 0, none⟩), .iface U (.pointer (some ⟨tb, 0, none⟩)), .pointer none] w fun e w' => e = .returned (.pointer (some ⟨w.heap.size, 0, none⟩)) ∧ w.alloc (.cells (confCells U tb alt cb pb) 161) = w' := by
  have hc := hb.cell
  have hlt := hb.lt
  simp only [confCells] at hc
  have hb2 := fun (o : Array Value) => Blk.alloc hb (.cells o 161)
  have ht2 : ∀ o, Tgt (w.alloc o) U tb := fun o => ⟨ht.ty, fun h => by rw [World.cell?_alloc_past _ _ _ ht.lt]; exact ht.ng h, by have := ht.lt; simp; omega⟩
  have H1 := Lib.hid hb2
  have H2 := Lib.hid ht2
  clear hb hb2 ht ht2
  go_enter Tryz.func175, Tryz.ntmps175
  go_wp2_with (first | (go_at_call 172; refine (gAlt _ _ _ (by go_simp; first | done | rfl)).mono ?_; rintro e w' ⟨rfl, rfl⟩) | (go_at_call 191; refine (gCtx _ _ _ (by go_simp; first | done | rfl)).mono ?_; rintro e w' ⟨rfl, rfl⟩) | (go_at_call 187; refine (gSem _ _ _ (by go_simp; first | done | rfl)).mono ?_; rintro e w' ⟨rfl, rfl⟩) | (go_at_call 196; refine (cng_any _ _ _ _ (by go_simp) (H2.out _)).mono ?_; rintro e w' ⟨rfl, rfl⟩) | (go_at_call 197; refine (init_any _ _ _ _ _ _ _ _ _ _ (H1.out _) _ (Blk.new _ _ _) rfl (by omega) _ _ _).mono ?_; rintro e w' ⟨rfl, rfl⟩))
  go_ret
  exact ⟨rfl, rfl⟩

set_option maxHeartbeats 400000 in
theorem cfg6_any (tb cb : Nat) (U : TypeId) (alt : Int) (w : World) :
    Calls Tryz.prog 110 #[.iface U (.pointer (some ⟨tb, 0, none⟩)), .int .i64 alt, .pointer (some ⟨cb, 0, none⟩)] w fun e w' => e = .returned (.pointer (some ⟨w.heap.size, 0, none⟩)) ∧
      (w.alloc (.cells (confCells U tb alt cb (w.heap.size + 1)) 161)).alloc (.cells #[.int .i64 (-1), .int .i64 (-1), .bool false] 483) = w' := by
  go_enter Tryz.func110, Tryz.ntmps110
  go_wp2_with (first | (go_at_call 162; refine (snone_any _).mono ?_; rintro e w' ⟨rfl, rfl⟩))
  go_ret
  exact ⟨rfl, rfl⟩
end Go.Proofs
end
section
namespace Go.Proofs
open Go.RowKit
theorem taPred (a : Addr) (w : World) : (Instr.typeAssert (.iface 446 (.pointer (some a))) 159 446 true).run Tryz.prog w = .ok (.tuple #[.pointer (some a), .bool true]) w := by kernel_rfl

theorem isNone_any (pb : Nat) (w : World) (h : Sn w pb) : Calls Tryz.prog 186 #[.iface 446 (.pointer (some ⟨pb, 0, none⟩))] w fun e w' => e = .returned (.bool true) ∧ w = w' := by
  have hc := h.cell
  have hta := fun a w => taPred a w
  clear h
  go_enter Tryz.func186, Tryz.ntmps186
  go_wp2
  go_ret
  exact ⟨rfl, rfl⟩

theorem taCfg (a : Addr) (w : World) : (Instr.typeAssert (.iface 153 (.pointer (some a))) 598 153 true).run Tryz.prog w = .ok (.tuple #[.pointer (some a), .bool true]) w := by kernel_rfl
theorem dHash1 (a : Addr) (w : World) : (method 715 394 (.pointer (some a)) "Hash1").run Tryz.prog w = .ok (360, .pointer (some a)) w := by kernel_rfl
theorem dEq2 (a : Addr) (w : World) : (method 715 394 (.pointer (some a)) "Equals2").run Tryz.prog w = .ok (359, .pointer (some a)) w := by kernel_rfl


theorem inf161 : Tryz.prog.info? 161 = some Tryz.t161 := by kernel_rfl
theorem eqC_same (a : Addr) (w : World) : (binOp .eql 153 (.pointer (some a)) (.pointer (some a))).run Tryz.prog w = .ok (.bool true) w := run_eql_ptr_same w a Tryz.underlying153 inf161
theorem eqC_other {b1 b2 : Nat} {w : World} {T1 T2 : TypeId} {c1 c2 : Array Value} (h1 : Blk w b1 T1 c1) (h2 : Blk w b2 T2 c2) (hne : b1 ≠ b2) :
    (binOp .eql 153 (.pointer (some ⟨b1, 0, none⟩)) (.pointer (some ⟨b2, 0, none⟩))).run Tryz.prog w = .ok (.bool false) w :=
  run_eql_ptr_other w Tryz.underlying153 inf161 (by decide) (by intro e; cases e; exact hne rfl) h1 h2


set_option maxRecDepth 100000 in
set_option maxHeartbeats 400000 in
theorem leq_any (b1 b2 : Nat) (w : World) (T1 T2 : TypeId) (s1 s2 c1 c2 p1 p2 : Nat) (a1 a2 : Int) (h1 : Blk w b1 161 (confCells T1 s1 a1 c1 p1)) (h2 : Blk w b2 161 (confCells T2 s2 a2 c2 p2)) :
    Calls Tryz.prog 392 #[.pointer (some ⟨b1, 0, none⟩), .iface 153 (.pointer (some ⟨b2, 0, none⟩))] w fun e w' => e = .returned (.bool true) ∧ ∃ n, w.drewN n = w' := by
  have hc1 := h1.cell
  have hc2 := h2.cell
  simp only [confCells] at hc1 hc2
  have hta := fun a w => taCfg a w
  by_cases hb : b1 = b2
  · subst hb
    have he := fun a w => eqC_same a w
    clear h1 h2
    go_enter Tryz.func392, Tryz.ntmps392
    go_wp2
    go_ret
    exact ⟨rfl, 0, rfl⟩
  · have he := eqC_other h1 h2 hb
    clear h1 h2
    go_enter Tryz.func392, Tryz.ntmps392
    go_wp2
    go_quiet (fail)
    go_wp2
    go_ret
    exact ⟨rfl, nq, rfl⟩


theorem Blk.drewN {w : World} {b n : Nat} {T : TypeId} {c : Array Value} (h : Blk w b T c) : Blk (w.drewN n) b T c := h

set_option maxRecDepth 100000 in
set_option maxHeartbeats 400000 in
theorem ceq_any (b1 b2 : Nat) (w : World) (T1 T2 : TypeId) (s1 s2 c1 c2 p1 p2 : Nat) (a1 a2 : Int) (h1 : Blk w b1 161 (confCells T1 s1 a1 c1 p1)) (h2 : Blk w b2 161 (confCells T2 s2 a2 c2 p2)) :
    Calls Tryz.prog 391 #[.pointer (some ⟨b1, 0, none⟩), .iface 153 (.pointer (some ⟨b2, 0, none⟩))] w fun e w' => e = .returned (.bool true) ∧ ∃ n, w.drewN n = w' := by
  have hc1 := h1.cell
  simp only [confCells] at hc1
  have H1 := Lib.hid h1
  have H2 := Lib.hid h2
  clear h1 h2
  go_enter Tryz.func391, Tryz.ntmps391
  go_wp2_with fail
  refine (leq_any _ _ _ _ _ _ _ _ _ _ _ _ _ H1.out H2.out).mono ?_
  rintro e w' ⟨rfl, n, rfl⟩
  go_wp2_with fail
  go_ret
  exact ⟨rfl, n, rfl⟩

set_option maxRecDepth 100000 in
set_option maxHeartbeats 400000 in
theorem eq2_any (q : Addr) (b1 b2 : Nat) (w : World) (T1 T2 : TypeId) (s1 s2 c1 c2 p1 p2 : Nat) (a1 a2 : Int) (h1 : Blk w b1 161 (confCells T1 s1 a1 c1 p1)) (h2 : Blk w b2 161 (confCells T2 s2 a2 c2 p2)) :
    Calls Tryz.prog 359 #[.pointer (some q), .pointer (some ⟨b1, 0, none⟩), .pointer (some ⟨b2, 0, none⟩)] w fun e w' => e = .returned (.bool true) ∧ ∃ n, w.drewN n = w' := by
  have H1 := Lib.hid h1
  have H2 := Lib.hid h2
  clear h1 h2
  go_enter Tryz.func359, Tryz.ntmps359
  go_wp2_with fail
  refine (ceq_any _ _ _ _ _ _ _ _ _ _ _ _ _ H1.out H2.out).mono ?_
  rintro e w' ⟨rfl, n, rfl⟩
  go_wp2_with fail
  go_ret
  exact ⟨rfl, n, rfl⟩

/-! ### a configuration's hash, by the three names by which it is called -/

/-- A configuration in memory, whole. -/
structure CfAt (w : World) (b : Nat) (T : TypeId) (sb : Nat) (n alt : Int) (cb pb : Nat) : Prop where
  blk : Blk w b 161 (confCells T sb alt cb pb)
  ty : T ∈ stTypes
  sn : w.cell? ⟨sb, 4, none⟩ = some (.int .i64 n)
  ctx : Ctx w cb
  sem : Sn w pb

set_option maxRecDepth 100000 in
set_option maxHeartbeats 400000 in
theorem chash_any (b : Nat) (T : TypeId) (sb : Nat) (n alt : Int) (cb pb : Nat) (w : World) (h : CfAt w b T sb n alt cb pb) :
    Calls Tryz.prog 60 #[.pointer (some ⟨b, 0, none⟩)] w fun e w' => e = .returned (.int .i64 (lhI n alt)) ∧ w = w' := by
  have hc := h.blk.cell
  simp only [confCells] at hc
  go_enter Tryz.func60, Tryz.ntmps60
  go_wp2_with fail
  refine (lhash_any _ _ _ _ _ h.ty _ _ _ h.blk h.sn h.ctx h.sem).mono ?_
  rintro e w' ⟨rfl, rfl⟩
  go_wp2_with fail
  go_ret
  exact ⟨rfl, rfl⟩

set_option maxRecDepth 100000 in
set_option maxHeartbeats 400000 in
theorem hash1_any (q : Addr) (b : Nat) (T : TypeId) (sb : Nat) (n alt : Int) (cb pb : Nat) (w : World) (h : CfAt w b T sb n alt cb pb) :
    Calls Tryz.prog 360 #[.pointer (some q), .pointer (some ⟨b, 0, none⟩)] w fun e w' => e = .returned (.int .i64 (lhI n alt)) ∧ w = w' := by
  go_enter Tryz.func360, Tryz.ntmps360
  go_wp2_with fail
  refine (chash_any _ _ _ _ _ _ _ _ h).mono ?_
  rintro e w' ⟨rfl, rfl⟩
  go_wp2_with fail
  go_ret
  exact ⟨rfl, rfl⟩
end Go.Proofs
end
section
namespace Go.Proofs
open Go.RowKit
/-! ## append onto a row that is known whole -/

section
variable {P : Program} (w : World)

theorem run_append_row (t ty e : TypeId) (i : TypeInfo) (z : Value) (size bytes : Nat) (ht : P.underlying t = some (.slice e)) (hi : P.info? e = some i) (hz : i.zero = some z)
    (hsize : i.size = size) (hby : i.bytes = bytes) (hzs : z.cells.size = size)
    (v : Value) (n : Nat) (xs : List Value) (hown : w.ownsRow 0 e size v n xs)
    (a : Addr) (m c : Nat) (news : List Value) (hm0 : 0 < m) (hl : news.length = m * size) (hnews : ∀ j u, news[j]? = some u → w.cell? (a.add j) = some u) (h1 : ∀ u ∈ news, u.oneCell' = true)
    (h63 : n + m ≤ maxLen) (hbytes : (n + m) * bytes ≤ 140737488355328) :
    ∃ g cap' w', (Builtin.append_ #[t, t] ty #[v, .slice (some a) m c]).run P w = .ok (.slice (some ⟨g, 0, none⟩) (n + m) cap') w' ∧ w'.ownsRow 0 e size (.slice (some ⟨g, 0, none⟩) (n + m) cap') (n + m) (xs ++ news) ∧ w.grownBy w' v.ownBlock ∧
      (v.ownBlock = some g ∨ g = w.heap.size) := by
  subst hsize
  subst hby
  have hsmall : n + m ≤ 9223372036854775807 := by simp only [maxLen] at h63; omega
  have hlen : (xs ++ news).length = (n + m) * i.size := by rw [List.length_append, hown.1, hl, Nat.add_mul]
  have grown : ∀ (old : Nat), old < n + m → ∀ (row : Option Nat),
      (w.drew.alloc (.cells (xs.toArray ++ news.toArray ++ Builtin.zeroCells z.cells (grownCap w (n + m) old e - (n + m))) e)).ownsRow 0 e i.size
        (.slice (some ⟨w.heap.size, 0, none⟩) (n + m) (grownCap w (n + m) old e)) (n + m) (xs ++ news) ∧
      w.grownBy (w.drew.alloc (.cells (xs.toArray ++ news.toArray ++ Builtin.zeroCells z.cells (grownCap w (n + m) old e - (n + m))) e)) row := by
    intro old ho row
    have hge := grownCap_ge w (n + m) old e
    have hcm : grownCap w (n + m) old e ≤ maxLen := grownCap_le_maxLen w (n + m) old e h63
    refine ⟨⟨hlen, .inr ⟨w.heap.size, _, _, rfl, Nat.zero_le _, heap_alloc_new w.drew _, hge, hcm, ?_, ?_⟩⟩, ⟨rfl, rfl, rfl, by simp, fun k hk _ => Below.heap_alloc w.drew _ k hk⟩⟩
    · simp only [Array.size_append, List.size_toArray, size_zeroCells, hzs, hown.1, hl, ← Nat.add_mul]
      congr 1
      omega
    · simp only [Array.toList_append, List.append_assoc]
      rw [← List.append_assoc, ← hlen]
      exact List.take_left
  rcases hown.2 with ⟨rfl, rfl⟩ | ⟨g, cap, cur, rfl, hbg, hg, hnc, hcm, hcs, htake⟩
  · have hx : xs = [] := List.eq_nil_of_length_eq_zero (by simpa using hown.1)
    subst hx
    have hr := run_append_nil (P := P) w t ty e i z ht hi hz a m c news hl hnews (by omega) (by omega) (by have hb := hbytes; simp only [Nat.zero_add] at hb; omega)
    have hgr := grown 0 (by omega) (Value.ownBlock (.slice none 0 0))
    simp only [Nat.zero_add, List.nil_append, Array.empty_append] at hgr ⊢
    exact ⟨_, _, _, hr, hgr.1, hgr.2, .inr rfl⟩
  · by_cases hroom : n + m ≤ cap
    · have hfit : n * i.size + news.length ≤ cur.size := by rw [hl, hcs, ← Nat.add_mul]; exact Nat.mul_le_mul_right _ hroom
      have hr := run_append_room (P := P) w t ty e i ht hi g n cap cur hg a m c news hl hnews h1 hroom hfit
      refine ⟨_, _, _, hr, ⟨hlen, .inr ⟨g, cap, _, rfl, hbg, setRow_heap w g cur _ e _ hg, hroom, hcm, ?_, ?_⟩⟩, ⟨rfl, rfl, rfl, by simp, fun k _ hk => setRow_other w g k _ (fun e => hk (by simp [Value.ownBlock, e]))⟩, .inl rfl⟩
      · simp only [List.size_toArray, List.length_append, List.length_take, List.length_drop, Array.length_toList]
        omega
      · rw [htake, ← hlen]
        exact List.take_left
    · have holds : ∀ j u, xs[j]? = some u → w.cell? ((⟨g, 0, none⟩ : Addr).add j) = some u := hown.cells (g := g) rfl
      have hr := run_append_grow (P := P) w t ty e i z ht hi hz ⟨g, 0, none⟩ n cap xs hown.1 holds a m c news hl hnews (by omega) (by omega) (growslice_fits (by omega) hbytes)
      have hgr := grown cap (by omega) (Value.ownBlock (.slice (some ⟨g, 0, none⟩) n cap))
      exact ⟨_, _, _, hr, hgr.1, hgr.2, .inr rfl⟩

theorem wpList_append_row {ops : Array Oper} {rest : List Oper} {o : Oper} {a : Act} {Q : Exit → Act → World → Prop} (hgd : o.guard = none) (s x : Operand) (t : TypeId)
    (ho : o.op = .call { callee := .builtin .append, args := #[s, x], argTypes := #[t, t] })
    (e : TypeId) (i : TypeInfo) (z : Value) (size bytes : Nat) (ht : P.underlying t = some (.slice e)) (hi : P.info? e = some i) (hz : i.zero = some z)
    (hsize : i.size = size) (hby : i.bytes = bytes) (hzs : z.cells.size = size)
    (v : Value) (n : Nat) (xs : List Value) (hs : a.eval s = v) (hown : w.ownsRow 0 e size v n xs)
    (ad : Addr) (m c : Nat) (news : List Value) (hx : a.eval x = .slice (some ad) m c) (hm0 : 0 < m) (hl : news.length = m * size) (hnews : ∀ j u, news[j]? = some u → w.cell? (ad.add j) = some u) (h1 : ∀ u ∈ news, u.oneCell' = true)
    (h63 : n + m ≤ maxLen) (hbytes : (n + m) * bytes ≤ 140737488355328)
    (h : ∀ g cap' w', w'.ownsRow 0 e size (.slice (some ⟨g, 0, none⟩) (n + m) cap') (n + m) (xs ++ news) → w.grownBy w' v.ownBlock → (v.ownBlock = some g ∨ g = w.heap.size) →
      wpList P ops Q rest (a.put o.dst (.slice (some ⟨g, 0, none⟩) (n + m) cap')) w') : wpList P ops Q (o :: rest) a w :=
  wpList_plain hgd fun _ hK => by
    obtain ⟨g, cap', w', hr, h2, h3, h4⟩ := run_append_row (P := P) w t o.type e i z size bytes ht hi hz hsize hby hzs v n xs hown ad m c news hm0 hl hnews h1 h63 hbytes
    unfold Oper.wp execOp
    simp only [ho, resolve, invoke, builtin, Sem.run_bind, Sem.run_pure, Result.andThen_ok, List.map_toArray, List.map_cons, List.map_nil, hs, hx, hr]
    exact hK _ _ (h g cap' w' h2 h3 h4)
end
end Go.Proofs
end
