/- A part of the proof of the statement on the law FnStates, which the last text proves: part G07. -/
import Derived.Test.YtlceacefhnllbaaGreatDoorG06
import Derived.Test.YtlceacefhnllbaaGreatDoorP3
set_option linter.all false
section
namespace Go.Proofs
open Go.RowKit
open Pl
/-! ## equality of sets and of states of the DFA -/
theorem Calls.quietR {P : Program} {f : FuncId} {args : Array Value} {w : World} {n : Nat} {v : Value}
    (h : Calls P f args (w.drewN n) fun e w' => e = .returned v ∧ ∃ m, (w.drewN n).drewN m = w') : Calls P f args (w.drewN n) fun e w'' => e = .returned v ∧ ∃ m, w'' = w.drewN m :=
  h.mono fun _ _ ⟨he, m, hm⟩ => ⟨he, n + m, by rw [← hm, World.drewN_drewN]⟩
theorem Calls.quietS {P : Program} {f : FuncId} {args : Array Value} {w : World} {n : Nat} {v : Value}
    (h : Calls P f args (w.drewN n) fun e w' => e = .returned v ∧ w.drewN n = w') : Calls P f args (w.drewN n) fun e w'' => e = .returned v ∧ ∃ m, w'' = w.drewN m :=
  h.mono fun _ _ ⟨he, hm⟩ => ⟨he, n, hm.symm⟩

theorem LC.drewN {B : Nat} {w : World} {b i : Nat} {v : Value} (h : LC B w b i v) (n : Nat) : LC B (w.drewN n) b i v := h.kept (Kp.drewN w n)
theorem FSrc.drewN {B : Nat} {w : World} {N : Bd} {v : AV} {cb : Nat} {src : List Cf} {S : List (Nat × Nat)} (h : FSrc B w N v cb src S) (n : Nat) : FSrc B (w.drewN n) N v cb src S := h.kept (Kp.drewN w n)

/-- The cells of a set. -/
def setK (ask : Value) (ch : Int) (lk : Option Addr) (cfg : Value) (ro : Bool) : Array Value :=
  #[ask, .int .i64 ch, .pointer lk, cfg, .pointer none, .bool false, .bool false, .bool false, .bool ro, .int .i64 0]

theorem inf148 : Tryz.prog.info? 148 = some Tryz.t148 := by kernel_rfl
theorem inf147 : Tryz.prog.info? 147 = some Tryz.t147 := by kernel_rfl
theorem inf139 : Tryz.prog.info? 139 = some Tryz.t139 := by kernel_rfl
theorem inf152 : Tryz.prog.info? 152 = some Tryz.t152 := by kernel_rfl
theorem eqS_same (a : Addr) (w : World) : (binOp .eql 606 (.iface 148 (.pointer (some a))) (.iface 148 (.pointer (some a)))).run Tryz.prog w = .ok (.bool true) w := run_eql_iface_ptr_same w a Tryz.underlying606 Tryz.underlying148 inf148 rfl inf147
theorem eqS_other {b1 b2 : Nat} {w : World} {T1 T2 : TypeId} {c1 c2 : Array Value} (h1 : Blk w b1 T1 c1) (h2 : Blk w b2 T2 c2) (hne : b1 ≠ b2) :
    (binOp .eql 606 (.iface 148 (.pointer (some ⟨b1, 0, none⟩))) (.iface 148 (.pointer (some ⟨b2, 0, none⟩)))).run Tryz.prog w = .ok (.bool false) w :=
  run_eql_iface_ptr_other w Tryz.underlying606 Tryz.underlying148 inf148 rfl inf147 (by decide) (by intro e; cases e; exact hne rfl) h1 h2
theorem eqD_same (a : Addr) (w : World) : (binOp .eql 600 (.iface 139 (.pointer (some a))) (.iface 139 (.pointer (some a)))).run Tryz.prog w = .ok (.bool true) w := run_eql_iface_ptr_same w a Tryz.underlying600 Tryz.underlying139 inf139 rfl inf152
theorem eqD_other {b1 b2 : Nat} {w : World} {T1 T2 : TypeId} {c1 c2 : Array Value} (h1 : Blk w b1 T1 c1) (h2 : Blk w b2 T2 c2) (hne : b1 ≠ b2) :
    (binOp .eql 600 (.iface 139 (.pointer (some ⟨b1, 0, none⟩))) (.iface 139 (.pointer (some ⟨b2, 0, none⟩)))).run Tryz.prog w = .ok (.bool false) w :=
  run_eql_iface_ptr_other w Tryz.underlying600 Tryz.underlying139 inf139 rfl inf152 (by decide) (by intro e; cases e; exact hne rfl) h1 h2
theorem taSet (a : Addr) (w : World) : (Instr.typeAssert (.iface 148 (.pointer (some a))) 606 148 true).run Tryz.prog w = .ok (.tuple #[.pointer (some a), .bool true]) w := by kernel_rfl
theorem taSet2 (a : Addr) (w : World) : (Instr.typeAssert (.iface 148 (.pointer (some a))) 606 148 false).run Tryz.prog w = .ok (.pointer (some a)) w := by kernel_rfl
theorem taDst (a : Addr) (w : World) : (Instr.typeAssert (.iface 139 (.pointer (some a))) 600 139 false).run Tryz.prog w = .ok (.pointer (some a)) w := by kernel_rfl
theorem dDEq (a : Addr) (w : World) : (method 715 139 (.pointer (some a)) "Equals").run Tryz.prog w = .ok (386, .pointer (some a)) w := by kernel_rfl
theorem dDHash (a : Addr) (w : World) : (method 715 139 (.pointer (some a)) "Hash").run Tryz.prog w = .ok (41, .pointer (some a)) w := by kernel_rfl

def eqB (cb cb2 : Nat) (src src2 : List Cf) : Bool := (cb == cb2) || (src.length == src2.length)

set_option maxRecDepth 100000 in
set_option maxHeartbeats 2000000 in
theorem eqs_any (B B2 : Nat) (w : World) (N : Bd) (v : AV) (cb cb2 : Nat) (src src2 : List Cf) (S S2 : List (Nat × Nat)) (hF : FSrc B w N v cb src S) (hF2 : FSrc B2 w N v cb2 src2 S2)
    (a1 a2 f1 f2 : Value) (h1 h2 : Int) (l1 l2 : Option Addr) (r1 r2 : Bool) (b1 : Blk w cb 147 (setK a1 h1 l1 f1 r1)) (b2 : Blk w cb2 147 (setK a2 h2 l2 f2 r2)) :
    Calls Tryz.prog 387 #[.pointer (some ⟨cb, 0, none⟩), .iface 148 (.pointer (some ⟨cb2, 0, none⟩))] w fun e w' => e = .returned (.bool (eqB cb cb2 src src2)) ∧ ∃ n, w.drewN n = w' := by
  by_cases hb : cb = cb2
  · subst hb
    have hE : eqB cb cb src src2 = true := by simp [eqB]
    rw [hE]
    have he := fun a w => eqS_same a w
    clear b1 b2 hF hF2
    go_enter Tryz.func387, Tryz.ntmps387
    go_wp2
    go_ret
    exact ⟨rfl, 0, rfl⟩
  · have hE : eqB cb cb2 src src2 = (src.length == src2.length) := by simp [eqB, hb]
    rw [hE]
    obtain ⟨g, cap, hc3, hrow⟩ := hF.cfg
    have hc3 := hc3.at
    have he := eqS_other b1 b2 hb
    have c1 := b1.cell
    have c2 := b2.cell
    simp only [setK] at c1 c2
    have e3 : f1 = .slice (some ⟨g, 0, none⟩) src.length cap := by
      have := (c1 3).symm.trans hc3
      simpa using this
    subst e3
    have t1 := fun a w => taSet a w
    have t2 := fun a w => taSet2 a w
    have H1 := Lib.hid hF
    have H2 := Lib.hid hF2
    clear b1 b2 hF hF2 hrow hc3
    go_enter Tryz.func387, Tryz.ntmps387
    go_wp2
    go_quiet ((go_at_call 389; exact Calls.quietR (cmp_any _ _ _ _ _ _ _ _ _ _ _ (H1.out.drewN _) (H2.out.drewN _))))
    go_wp2
    go_ret
    exact ⟨rfl, nq, rfl⟩

/-- A DFA's state, its own block. -/
def dstK (sn : Int) (cb : Nat) (ed : Value) (ac : Bool) (pr : Int) : Array Value :=
  #[.int .i64 sn, .pointer (some ⟨cb, 0, none⟩), ed, .bool ac, .int .i64 pr, .pointer none, .bool false, .slice none 0 0]

/-- What is known of a DFA's state that can be asked about. -/
structure DSt (B : Nat) (w : World) (N : Bd) (v : AV) (db cb : Nat) (src : List Cf) (S : List (Nat × Nat)) (sn : Int) (ed : Value) (ac : Bool) (pr : Int) (ask cfg : Value) (ch : Int) (lk : Option Addr) (ro : Bool) : Prop where
  blk : Blk w db 152 (dstK sn cb ed ac pr)
  set : Blk w cb 147 (setK ask ch lk cfg ro)
  fsrc : FSrc B w N v cb src S
  hash : ro = true → ch = -1 ∨ ch = hashL src

theorem DSt.drewN {B : Nat} {w : World} {N : Bd} {v : AV} {db cb : Nat} {src : List Cf} {S : List (Nat × Nat)} {sn : Int} {ed : Value} {ac : Bool} {pr : Int} {ask cfg : Value} {ch : Int} {lk : Option Addr} {ro : Bool}
    (h : DSt B w N v db cb src S sn ed ac pr ask cfg ch lk ro) (n : Nat) : DSt B (w.drewN n) N v db cb src S sn ed ac pr ask cfg ch lk ro := ⟨h.blk, h.set, h.fsrc.drewN n, h.hash⟩

def eqDB (db db2 cb cb2 : Nat) (src src2 : List Cf) : Bool := (db == db2) || eqB cb cb2 src src2

set_option maxRecDepth 100000 in
set_option maxHeartbeats 2000000 in
theorem eqd_any (B B2 : Nat) (w : World) (N : Bd) (v : AV) (db db2 cb cb2 : Nat) (src src2 : List Cf) (S S2 : List (Nat × Nat)) (sn sn2 : Int) (ed ed2 : Value) (ac ac2 : Bool) (pr pr2 : Int) (a1 a2 f1 f2 : Value) (h1 h2 : Int) (l1 l2 : Option Addr) (r1 r2 : Bool)
    (D1 : DSt B w N v db cb src S sn ed ac pr a1 f1 h1 l1 r1) (D2 : DSt B2 w N v db2 cb2 src2 S2 sn2 ed2 ac2 pr2 a2 f2 h2 l2 r2) :
    Calls Tryz.prog 386 #[.pointer (some ⟨db, 0, none⟩), .iface 139 (.pointer (some ⟨db2, 0, none⟩))] w fun e w' => e = .returned (.bool (eqDB db db2 cb cb2 src src2)) ∧ ∃ n, w.drewN n = w' := by
  by_cases hb : db = db2
  · subst hb
    have hE : eqDB db db cb cb2 src src2 = true := by simp [eqDB]
    rw [hE]
    have he := fun a w => eqD_same a w
    clear D1 D2
    go_enter Tryz.func386, Tryz.ntmps386
    go_wp2
    go_ret
    exact ⟨rfl, 0, rfl⟩
  · have hE : eqDB db db2 cb cb2 src src2 = eqB cb cb2 src src2 := by simp [eqDB, hb]
    rw [hE]
    have he := eqD_other D1.blk D2.blk hb
    have c1 := D1.blk.cell
    have c2 := D2.blk.cell
    simp only [dstK] at c1 c2
    have t2 := fun a w => taDst a w
    have H1 := Lib.hid D1
    have H2 := Lib.hid D2
    clear D1 D2
    go_enter Tryz.func386, Tryz.ntmps386
    go_wp2
    go_quiet ((go_at_call 387; exact Calls.quietR (eqs_any _ _ _ _ _ _ _ _ _ _ _ (H1.out.fsrc.drewN _) (H2.out.fsrc.drewN _) _ _ _ _ _ _ _ _ _ _ (Blk.drewN H1.out.set) (Blk.drewN H2.out.set))))
    go_wp2
    go_ret
    exact ⟨rfl, nq, rfl⟩

set_option maxRecDepth 100000 in
set_option maxHeartbeats 2000000 in
theorem eq2d_any (q : Addr) (B B2 : Nat) (w : World) (N : Bd) (v : AV) (db db2 cb cb2 : Nat) (src src2 : List Cf) (S S2 : List (Nat × Nat)) (sn sn2 : Int) (ed ed2 : Value) (ac ac2 : Bool) (pr pr2 : Int) (a1 a2 f1 f2 : Value) (h1 h2 : Int) (l1 l2 : Option Addr) (r1 r2 : Bool)
    (D1 : DSt B w N v db cb src S sn ed ac pr a1 f1 h1 l1 r1) (D2 : DSt B2 w N v db2 cb2 src2 S2 sn2 ed2 ac2 pr2 a2 f2 h2 l2 r2) :
    Calls Tryz.prog 361 #[.pointer (some q), .pointer (some ⟨db, 0, none⟩), .pointer (some ⟨db2, 0, none⟩)] w fun e w' => e = .returned (.bool (eqDB db db2 cb cb2 src src2)) ∧ ∃ n, w.drewN n = w' := by
  have d1 := fun a => dDEq a w
  have H1 := Lib.hid D1
  have H2 := Lib.hid D2
  clear D1 D2
  go_enter Tryz.func361, Tryz.ntmps361
  go_wp2_with (first | (go_at_call 386; refine (eqd_any _ _ _ _ _ _ _ _ _ _ _ _ _ _ _ _ _ _ _ _ _ _ _ _ _ _ _ _ _ _ _ H1.out H2.out).mono ?_; rintro e w' ⟨rfl, n, rfl⟩))
  go_ret
  exact ⟨rfl, n, rfl⟩

set_option maxRecDepth 100000 in
set_option maxHeartbeats 2000000 in
theorem hash1d_any (q : Addr) (B : Nat) (w : World) (N : Bd) (v : AV) (hN : AtnAt B w N v) (db cb : Nat) (src : List Cf) (S : List (Nat × Nat)) (sn : Int) (ed : Value) (ac : Bool) (pr : Int) (a1 f1 : Value) (h1 : Int) (l1 : Option Addr) (r1 : Bool)
    (D1 : DSt B w N v db cb src S sn ed ac pr a1 f1 h1 l1 r1) :
    Calls Tryz.prog 362 #[.pointer (some q), .pointer (some ⟨db, 0, none⟩)] w fun e w' => e = .returned (.int .i64 (dfaHashL src)) ∧ (w = w' ∨ (r1 = true ∧ w.setCell ⟨cb, 1, none⟩ (.int .i64 (hashL src)) = w')) := by
  have d1 := fun a => dDHash a w
  have H1 := Lib.hid D1
  have HN := Lib.hid hN
  clear D1 hN
  go_enter Tryz.func362, Tryz.ntmps362
  go_wp2_with (first | (go_at_call 41; refine (dsthash_any B _ N v HN.out _ cb src S H1.out.fsrc (H1.out.blk.cell 1) r1 h1 (H1.out.set.cell 1) (H1.out.set.free 1) (H1.out.set.cell 8) H1.out.hash).mono ?_; rintro e w' ⟨rfl, hw⟩))
  go_ret
  exact ⟨rfl, hw⟩
end Go.Proofs
end
section
namespace Go.Proofs
open Go.RowKit
open Pl
/-! ## the hashes as plain numbers -/
theorem wraps_u32' (n : Int) (h₀ : 0 ≤ n) (h₁ : n < 2 ^ 32) : IntKind.u32.wrap n = n := by rw [IntKind.wrap_u32]; omega
theorem or32 (a b : Nat) (ha : a < 4294967296) (hb : b < 4294967296) : bits .or .u32 a b = ((Nat.lor a b : Nat) : Int) :=
  (bits_nat .u32 32 (by decide) wraps_u32' a b (by omega) (by omega)).2
theorem xor32 (a b : Nat) (ha : a < 4294967296) (hb : b < 4294967296) : bits .xor .u32 a b = ((Nat.xor a b : Nat) : Int) := by
  have h : (a ^^^ b) < 2 ^ 32 := Nat.xor_lt_two_pow (by omega) (by omega)
  have e : (BitVec.ofInt 32 (a : Int) ^^^ BitVec.ofInt 32 (b : Int)).toNat = a ^^^ b := by
    rw [BitVec.toNat_xor, BitVec.ofInt_natCast, BitVec.ofInt_natCast, BitVec.toNat_ofNat, BitVec.toNat_ofNat, Nat.mod_eq_of_lt (by omega), Nat.mod_eq_of_lt (by omega)]
  show IntKind.u32.wrap ((BitVec.ofInt 32 (a : Int) ^^^ BitVec.ofInt 32 (b : Int)).toNat : Int) = _
  rw [e, IntKind.wrap_u32]
  show _ = ((a ^^^ b : Nat) : Int)
  omega
theorem w32_lt (n : Nat) : w32 n < 4294967296 := Nat.mod_lt _ (by decide)
theorem lor_lt (a b : Nat) (ha : a < 4294967296) (hb : b < 4294967296) : Nat.lor a b < 4294967296 := by
  have : (a ||| b) < 2 ^ 32 := Nat.or_lt_two_pow (by omega) (by omega)
  have e : Nat.lor a b = (a ||| b) := rfl
  omega
theorem xor_lt (a b : Nat) (ha : a < 4294967296) (hb : b < 4294967296) : Nat.xor a b < 4294967296 := by
  have : (a ^^^ b) < 2 ^ 32 := Nat.xor_lt_two_pow (by omega) (by omega)
  have e : Nat.xor a b = (a ^^^ b) := rfl
  omega
theorem shl_eq (a i : Nat) : Nat.shiftLeft a i = a * 2 ^ i := Nat.shiftLeft_eq a i
theorem shr_eq (a i : Nat) : Nat.shiftRight a i = a / 2 ^ i := Nat.shiftRight_eq_div_pow a i
theorem cast_mod (n : Nat) : (n : Int) % 4294967296 = ((w32 n : Nat) : Int) := by unfold w32; omega

theorem m_rot (K i j : Nat) (a b : Int) (lK : K < 4294967296) (ha : a = ((w32 (Nat.shiftLeft K i) : Nat) : Int)) (hb : b = ((Nat.shiftRight K j : Nat) : Int)) :
    bits .or .u32 a b = ((Nat.lor (w32 (Nat.shiftLeft K i)) (Nat.shiftRight K j) : Nat) : Int) := by
  subst ha hb
  refine or32 _ _ (w32_lt _) ?_
  rw [shr_eq]
  exact Nat.lt_of_le_of_lt (Nat.div_le_self _ _) lK
theorem m_mul (x c : Nat) (C : Int) (hC : C = (c : Int)) : (x : Int) * C % 4294967296 = ((w32 (x * c) : Nat) : Int) := by
  subst hC; rw [← cast_mod]; simp
theorem m_shl (K i c : Nat) (C : Int) (hC : C = (c : Int)) (h : 2 ^ i = c) : (K : Int) * C % 4294967296 = ((w32 (Nat.shiftLeft K i) : Nat) : Int) := by
  subst hC; rw [shl_eq, ← cast_mod, h]; simp
theorem m_shr (K i c : Nat) (C : Int) (hC : C = (c : Int)) (h : 2 ^ i = c) : (K : Int) / C = ((Nat.shiftRight K i : Nat) : Int) := by
  subst hC; rw [shr_eq, h]; simp
theorem m_s1 (K : Nat) (lK : K < 4294967296) :
    bits BinOp.or IntKind.u32 ((K : Int) * 32768 % 4294967296) ((K : Int) / 131072) * 461845907 % 4294967296 = ((w32 (Nat.lor (w32 (Nat.shiftLeft K 15)) (Nat.shiftRight K 17) * 461845907) : Nat) : Int) := by
  rw [m_rot K 15 17 _ _ lK (m_shl K 15 32768 32768 rfl (by decide)) (m_shr K 17 131072 131072 rfl (by decide))]
  exact m_mul _ 461845907 461845907 rfl
theorem m_s2 (X : Nat) (lX : X < 4294967296) :
    (bits BinOp.or IntKind.u32 ((X : Int) * 8192 % 4294967296) ((X : Int) / 524288) * 5 + 3864292196) % 4294967296 = ((w32 (Nat.lor (w32 (Nat.shiftLeft X 13)) (Nat.shiftRight X 19) * 5 + 3864292196) : Nat) : Int) := by
  rw [m_rot X 13 19 _ _ lX (m_shl X 13 8192 8192 rfl (by decide)) (m_shr X 19 524288 524288 rfl (by decide)), ← cast_mod]
  simp

theorem mUI_eq (h k : Nat) (v : Int) (hv : v % 4294967296 = ((w32 k : Nat) : Int)) : mUI h v = (mU h k : Int) := by
  unfold mUI mU
  dsimp only
  rw [hv, m_mul (w32 k) 3432918353 3432918353 rfl, m_s1 _ (w32_lt _), cast_mod h, xor32 _ _ (w32_lt _) (w32_lt _)]
  exact m_s2 _ (xor_lt _ _ (w32_lt _) (w32_lt _))

theorem m_f (X i c d : Nat) (C D : Int) (hC : C = (c : Int)) (hD : D = (d : Int)) (h : 2 ^ i = c) (lX : X < 4294967296) :
    bits BinOp.xor IntKind.u32 (X : Int) ((X : Int) / C) * D % 4294967296 = ((w32 (Nat.xor X (Nat.shiftRight X i) * d) : Nat) : Int) := by
  rw [m_shr X i c C hC h, xor32 _ _ lX (by rw [shr_eq]; exact Nat.lt_of_le_of_lt (Nat.div_le_self _ _) lX)]
  exact m_mul _ d D hD

theorem mFI_eq (h n : Nat) : mFI h n = (mF h n : Int) := by
  unfold mFI mF
  dsimp only
  have a1 : mFI1 h n = ((Nat.xor (w32 h) (w32 (n * 4)) : Nat) : Int) := by
    unfold mFI1
    have : (n : Int) % 4294967296 * 4 % 4294967296 = ((w32 (n * 4) : Nat) : Int) := by unfold w32; omega
    rw [this, cast_mod, xor32 _ _ (w32_lt _) (w32_lt _)]
  have l1 := xor_lt (w32 h) (w32 (n * 4)) (w32_lt _) (w32_lt _)
  have a2 : ∀ X : Nat, X < 4294967296 → mFI2 X = ((w32 (Nat.xor X (Nat.shiftRight X 16) * 2246822507) : Nat) : Int) := fun X l => m_f X 16 65536 2246822507 65536 2246822507 rfl rfl (by decide) l
  have a3 : ∀ X : Nat, X < 4294967296 → mFI3 X = ((w32 (Nat.xor X (Nat.shiftRight X 13) * 3266489909) : Nat) : Int) := fun X l => m_f X 13 8192 3266489909 8192 3266489909 rfl rfl (by decide) l
  rw [a1, a2 _ l1, a3 _ (w32_lt _)]
  have a4 : ∀ Z : Nat, Z < 4294967296 → wrap64 (bits BinOp.xor IntKind.u32 (Z : Int) ((Z : Int) / 65536)) = ((Nat.xor Z (Nat.shiftRight Z 16) : Nat) : Int) := by
    intro Z l
    have l4 : Nat.shiftRight Z 16 < 4294967296 := by rw [shr_eq]; exact Nat.lt_of_le_of_lt (Nat.div_le_self _ _) l
    rw [m_shr Z 16 65536 65536 rfl (by decide), xor32 _ _ l l4]
    have l5 := xor_lt _ _ l l4
    unfold wrap64
    omega
  exact a4 _ (w32_lt _)

theorem semHash_eq : semHash = (noneHash : Int) := by
  unfold semHash noneHash
  have e1 := mUI_eq 0 18446744073709551615 (-1) (by decide)
  have e2 := mUI_eq (mU 0 18446744073709551615) 18446744073709551615 (-1) (by decide)
  have e3 := mUI_eq (mU (mU 0 18446744073709551615) 18446744073709551615) 0 0 (by decide)
  have e4 := mFI_eq (mU (mU (mU 0 18446744073709551615) 18446744073709551615) 0) 3
  have z : (0 : Int) = ((0 : Nat) : Int) := rfl
  have t : (3 : Int) = ((3 : Nat) : Int) := rfl
  rw [z, e1, e2, ← z, e3, t, e4]

theorem lhI_eq (s a : Nat) : lhI s a = (lh s a : Int) := by
  unfold lhI lh
  have e1 := mUI_eq 7 s s (cast_mod s)
  have e2 := fun h => mUI_eq h a a (cast_mod a)
  have e3 := fun h => mUI_eq h 0 0 (by decide)
  have e4 := fun h => mUI_eq h noneHash (noneHash : Int) (cast_mod noneHash)
  have e5 := fun h => mUI_eq h 61 61 (by decide)
  have e6 := fun h => mFI_eq h 6
  have z : (7 : Int) = ((7 : Nat) : Int) := rfl
  have t : (6 : Int) = ((6 : Nat) : Int) := rfl
  rw [semHash_eq, z, e1, e2, e3, e4, e3, e5, t, e6]
end Go.Proofs
end
section
namespace Go.Proofs
open Go.RowKit
open Pl
/-! ## the DFA -/

/-- What is told of a state of the DFA: its block, its set's block, where what the set was asked for lies, and its elements, and all these, also by states and alternatives. -/
structure DS where
  b : Nat
  cb : Nat
  ask : Value
  cfg : Value
  L : List Cf
  A : List (Nat × Nat)

inductive Kd where
  | proper (d : DS)
  | set (d : DS)
  | err
  | edges

structure JG where
  jB : Nat
  mB : Nat
  cmp : Addr
  len : Int
  kvs : List (Int × Value)
  cnt : Nat

structure GS where
  ty : Nat → Option Kd
  rt : Nat → Prop
  dfa : Nat
  ask : Value
  asked : List DS
  js : Option JG
  s0 : Option Nat
  a1 : Value
  a2 : Int
  a4 : Int
  a6 : Bool

def JG.own (j : JG) (k : Nat) : Prop := k = j.jB ∨ k = j.mB ∨ ∃ x ∈ j.kvs, x.2.ownBlock = some k
def GS.jown (g : GS) (k : Nat) : Prop := ∃ j, g.js = some j ∧ j.own k
/-- The blocks that still change. -/
def GS.M (g : GS) (k : Nat) : Prop := g.ty k ≠ none ∨ g.rt k ∨ k = g.dfa ∨ g.ask.ownBlock = some k ∨ g.jown k

def DS.ptr (d : DS) : Value := .pointer (some ⟨d.b, 0, none⟩)

/-- What of a state stays. -/
structure Frz (w : World) (N : Bd) (v : AV) (f : Nat) (d : DS) : Prop where
  ask : w.ownsRow 0 161 9 d.ask d.L.length (flatC d.L)
  cfg : w.ownsRow 0 153 1 d.cfg (ddC d.L).length (ptrC (ddC d.L))
  ty : ∀ y ∈ d.L, y.T ∈ stTypes
  sn : ∀ y ∈ d.L, w.cell? ⟨y.s, 4, none⟩ = some (.int .i64 y.n)
  ctx : ∀ y ∈ d.L, Ctx w y.c
  sem : ∀ y ∈ d.L, Sn w y.p
  b : ∀ y ∈ ddC d.L, Blk w y.b 161 y.cells
  keys : CfA N v d.A d.L
  few : d.L.length ≤ 4000000000000
  ne : d.L ≠ []
  met : Met N f d.A

/-- The kinds of blocks that still change. -/
def MT (o : Obj) : Prop := (∃ es c, o = .map es c) ∨ ∃ c T, o = .cells c T (0, 0) ∧ (T = 152 ∨ T = 147 ∨ T = 139 ∨ T = 141 ∨ T = 465 ∨ T = 192 ∨ T = 227 ∨ T = 128 ∨ T = 108)
theorem MT.no {c : Array Value} {T : TypeId} (h : MT (.cells c T (0, 0))) (hT : T = 161 ∨ T = 153 ∨ T = 329 ∨ T = 483) : False := by
  rcases h with ⟨es, c', e⟩ | ⟨c', T', e, h⟩
  · cases e
  · cases e; rcases h with rfl | rfl | rfl | rfl | rfl | rfl | rfl | rfl | rfl <;> simp at hT

theorem Frz.kept {B0 : Nat} {M : Nat → Prop} {w w' : World} {N : Bd} {v : AV} {f : Nat} {d : DS} (h : Frz w N v f d) (hn : AtnAt B0 w N v) (hM : ∀ k, M k → (∃ o, w.heap[k]? = some o ∧ MT o) ∧ B0 ≤ k) (k : Kp (fun k => ¬ M k) w w') : Frz w' N v f d := by
  have no : ∀ {j : Nat} {c : Array Value} {T : TypeId}, w.heap[j]? = some (.cells c T (0, 0)) → (T = 161 ∨ T = 153 ∨ T = 329 ∨ T = 483) → w'.heap[j]? = w.heap[j]? := by
    intro j c T hj hT
    refine k.blk j (lt_of_block hj) (fun hm => ?_)
    obtain ⟨⟨o, h1, h2⟩, _⟩ := hM j hm
    rw [hj] at h1; cases h1
    exact h2.no hT
  refine ⟨?_, ?_, h.ty, ?_, ?_, ?_, ?_, h.keys, h.few, h.ne, h.met⟩
  · exact own_kept' h.ask (fun j hj => by obtain ⟨_, _, c, hc⟩ := own_blk h.ask hj; exact no hc (by simp))
  · exact own_kept' h.cfg (fun j hj => by obtain ⟨_, _, c, hc⟩ := own_blk h.cfg hj; exact no hc (by simp))
  · intro y hy
    obtain ⟨t, ht⟩ := h.keys.all y hy
    refine (World.cell?_of_block (k.blk y.s (cell_lt (h.sn y hy)) (fun hm => ?_))).trans (h.sn y hy)
    have := (hM _ hm).2
    have h2 := (hn t ht.lt).sn.lt
    rw [ht.b] at this
    omega
  · exact fun y hy => Blk.kept (h.ctx y hy) (no (h.ctx y hy) (by simp))
  · exact fun y hy => Blk.kept (h.sem y hy) (no (h.sem y hy) (by simp))
  · exact fun y hy => Blk.kept (h.b y hy) (no (h.b y hy) (by simp))

def EdC (g : GS) (v : Value) : Prop := v = .pointer none ∨ ∃ b, v = .pointer (some ⟨b, 0, none⟩) ∧ ((∃ d, g.ty b = some (.proper d)) ∨ g.ty b = some .err)
def EdV (g : GS) (v : Value) : Prop := v = .slice none 0 0 ∨ ∃ e, v = .slice (some ⟨e, 0, none⟩) 128 128 ∧ g.ty e = some .edges

def GoodO (g : GS) (k : Nat) : Kd → Obj → Prop
  | .proper d, o => d.b = k ∧ g.ty d.cb = some (.set d) ∧ ∃ sn ed ac pr, o = .cells (dstK sn d.cb ed ac pr) 152 (0, 0) ∧ EdV g ed
  | .set d, o => d.cb = k ∧ ∃ ch lk ro, o = .cells (setK d.ask ch lk d.cfg ro) 147 (0, 0) ∧ (ch = -1 ∨ ch = hashL (ddC d.L))
  | .err, o => ∃ cs : Array Value, o = .cells cs 152 (0, 0) ∧ cs[0]? = some (.int .i64 2147483647)
  | .edges, o => ∃ cs : Array Value, o = .cells cs 139 (0, 0) ∧ cs.size = 128 ∧ ∀ (i : Nat) (v : Value), cs[i]? = some v → EdC g v

def dfaK (g : GS) : Array Value :=
  #[g.ask, g.a1, .int .i64 g.a2, .pointer (g.js.map fun j => ⟨j.jB, 0, none⟩), .int .i64 g.a4, .pointer (g.s0.map fun b => ⟨b, 0, none⟩), .bool g.a6]

structure JsAt (w : World) (g : GS) (j : JG) : Prop where
  blk : Blk w j.jB 465 #[.map (some j.mB), .int .i64 j.len, .iface 400 (.pointer (some j.cmp))]
  map : MapI w j.mB j.kvs
  bks : ∀ x ∈ j.kvs, ∃ ds : List DS, ds ≠ [] ∧ w.ownsRow 0 139 1 x.2 ds.length (ds.map DS.ptr) ∧ (∀ d ∈ ds, g.ty d.b = some (.proper d)) ∧ ds.length ≤ j.cnt
  pw : j.kvs.Pairwise (fun a b => a.2.ownBlock ≠ b.2.ownBlock)
  cnt : j.cnt ≤ g.asked.length

/-- A block of the roots. -/
def RtT (w : World) (k : Nat) : Prop := ∃ c T, Blk w k T c ∧ (T = 192 ∨ T = 227 ∨ T = 128 ∨ T = 108)
theorem RtT.kept {w w' : World} {k : Nat} (h : RtT w k) (e : w'.heap[k]? = w.heap[k]?) : RtT w' k := by
  obtain ⟨c, T, h1, h2⟩ := h; exact ⟨c, T, h1.kept e, h2⟩
theorem RtT.setCell {w : World} {k : Nat} (h : RtT w k) (i : Nat) (u : Value) : RtT (w.setCell ⟨k, i, none⟩ u) k := by
  obtain ⟨c, T, h1, h2⟩ := h; exact ⟨_, T, h1.set i u _ rfl, h2⟩

/-- The DFA, while a text is matched. -/
structure LX (B0 : Nat) (w : World) (N : Bd) (v : AV) (f : Nat) (g : GS) : Prop where
  typ : ∀ k τ, g.ty k = some τ → ∃ o, w.heap[k]? = some o ∧ GoodO g k τ o
  frz : ∀ k d, g.ty k = some (.proper d) → Frz w N v f d
  dfa : Blk w g.dfa 141 (dfaK g)
  s0 : ∀ b, g.s0 = some b → ∃ d, g.ty b = some (.proper d)
  ask : w.ownsRow 0 139 1 g.ask g.asked.length (g.asked.map DS.ptr)
  askd : ∀ d ∈ g.asked, g.ty d.b = some (.proper d)
  few : g.asked.length ≤ 1000000
  js : ∀ j, g.js = some j → JsAt w g j
  apD : g.ty g.dfa = none ∧ ¬ g.jown g.dfa ∧ g.ask.ownBlock ≠ some g.dfa
  apA : ∀ k, g.ask.ownBlock = some k → g.ty k = none ∧ ¬ g.jown k
  apJ : ∀ k, g.jown k → g.ty k = none
  apR : ∀ k, g.rt k → g.ty k = none ∧ k ≠ g.dfa ∧ g.ask.ownBlock ≠ some k ∧ ¬ g.jown k ∧ k < w.heap.size
  rtT : ∀ k, g.rt k → RtT w k
  low : ∀ k, g.M k → B0 ≤ k
  hB : B0 ≤ w.heap.size
  net : AtnAt B0 w N v

theorem JsAt.ownlt {w : World} {g : GS} {j : JG} (h : JsAt w g j) {k : Nat} (hk : j.own k) : k < w.heap.size := by
  rcases hk with rfl | rfl | ⟨x, hx, e⟩
  · exact h.blk.lt
  · exact h.map.lt
  · obtain ⟨ds, _, ho, _⟩ := h.bks x hx
    exact (own_blk ho e).2.1
theorem LX.Mlt {B0 : Nat} {w : World} {N : Bd} {v : AV} {f : Nat} {g : GS} (h : LX B0 w N v f g) {k : Nat} (hk : g.M k) : k < w.heap.size := by
  rcases hk with hk | hk | rfl | hk | ⟨j, hj, hk⟩
  · obtain ⟨τ, hτ⟩ := Option.ne_none_iff_exists'.1 hk
    obtain ⟨o, ho, _⟩ := h.typ k τ hτ
    exact (Array.getElem?_eq_some_iff.1 ho).1
  · exact (h.apR k hk).2.2.2.2
  · exact h.dfa.lt
  · exact (own_blk h.ask hk).2.1
  · exact (h.js j hj).ownlt hk
theorem LX.Mty {B0 : Nat} {w : World} {N : Bd} {v : AV} {f : Nat} {g : GS} (h : LX B0 w N v f g) (k : Nat) (hk : g.M k) : (∃ o, w.heap[k]? = some o ∧ MT o) ∧ B0 ≤ k := by
  refine ⟨?_, h.low k hk⟩
  rcases hk with hk | hk | rfl | hk | ⟨j, hj, hk⟩
  · obtain ⟨τ, hτ⟩ := Option.ne_none_iff_exists'.1 hk
    obtain ⟨o, ho, hg⟩ := h.typ k τ hτ
    refine ⟨o, ho, .inr ?_⟩
    cases τ with
    | proper d => obtain ⟨_, _, sn, ed, ac, pr, rfl, _⟩ := hg; exact ⟨_, _, rfl, by simp⟩
    | set d => obtain ⟨_, ch, lk, ro, rfl, _⟩ := hg; exact ⟨_, _, rfl, by simp⟩
    | err => obtain ⟨cs, rfl, _⟩ := hg; exact ⟨_, _, rfl, by simp⟩
    | edges => obtain ⟨cs, rfl, _⟩ := hg; exact ⟨_, _, rfl, by simp⟩
  · obtain ⟨c, T, h1, h2⟩ := h.rtT k hk
    exact ⟨_, h1, .inr ⟨c, T, rfl, by rcases h2 with rfl | rfl | rfl | rfl <;> simp⟩⟩
  · exact ⟨_, h.dfa, .inr ⟨_, _, rfl, by simp⟩⟩
  · obtain ⟨_, _, c, hc⟩ := own_blk h.ask hk
    exact ⟨_, hc, .inr ⟨_, _, rfl, by simp⟩⟩
  · rcases hk with rfl | rfl | ⟨x, hx, e⟩
    · exact ⟨_, (h.js j hj).blk, .inr ⟨_, _, rfl, by simp⟩⟩
    · obtain ⟨es, c, hm, _⟩ := (h.js j hj).map
      exact ⟨_, hm, .inl ⟨es, c, rfl⟩⟩
    · obtain ⟨ds, _, ho, _⟩ := (h.js j hj).bks x hx
      obtain ⟨_, _, c, hc⟩ := own_blk ho e
      exact ⟨_, hc, .inr ⟨_, _, rfl, by simp⟩⟩
theorem JsAt.kept {w w' : World} {g : GS} {j : JG} (h : JsAt w g j) (k : ∀ i, j.own i → w'.heap[i]? = w.heap[i]?) : JsAt w' g j where
  blk := h.blk.kept (k _ (.inl rfl))
  map := h.map.of (k _ (.inr (.inl rfl)))
  bks := fun x hx => by
    obtain ⟨ds, h1, h2, h3⟩ := h.bks x hx
    exact ⟨ds, h1, own_kept' h2 (fun i hi => k i (.inr (.inr ⟨x, hx, hi⟩))), h3⟩
  pw := h.pw
  cnt := h.cnt

/-- All that changes are blocks of the roots. -/
theorem LX.root {B0 : Nat} {w w' : World} {N : Bd} {v : AV} {f : Nat} {g : GS} (h : LX B0 w N v f g) (kp : Kp (fun k => ¬ g.rt k) w w') (hrt : ∀ k, g.rt k → RtT w' k) : LX B0 w' N v f g where
  typ := fun k τ hk => by
    obtain ⟨o, h1, h2⟩ := h.typ k τ hk
    exact ⟨o, (kp.blk k (h.Mlt (.inl (by rw [hk]; simp))) (fun hr => by rw [(h.apR k hr).1] at hk; cases hk)).trans h1, h2⟩
  frz := fun k d hk => (h.frz k d hk).kept h.net h.Mty (kp.weak (fun j hj hr => hj (.inr (.inl hr))))
  dfa := h.dfa.kept (kp.blk _ h.dfa.lt (fun hr => (h.apR _ hr).2.1 rfl))
  s0 := h.s0
  ask := own_kept' h.ask (fun k hk => kp.blk k (own_blk h.ask hk).2.1 (fun hr => (h.apR k hr).2.2.1 hk))
  askd := h.askd
  few := h.few
  js := fun j hj => (h.js j hj).kept (fun i hi => kp.blk i ((h.js j hj).ownlt hi) (fun hr => (h.apR i hr).2.2.2.1 ⟨j, hj, hi⟩))
  apD := h.apD
  apA := h.apA
  apJ := h.apJ
  apR := fun k hk => ⟨(h.apR k hk).1, (h.apR k hk).2.1, (h.apR k hk).2.2.1, (h.apR k hk).2.2.2.1, Nat.lt_of_lt_of_le (h.apR k hk).2.2.2.2 kp.size⟩
  rtT := hrt
  low := h.low
  hB := Nat.le_trans h.hB kp.size
  net := h.net.kept (kp.weak (fun k hk hr => absurd (h.low k (.inr (.inl hr))) (by omega)))

theorem LX.all {B0 : Nat} {w w' : World} {N : Bd} {v : AV} {f : Nat} {g : GS} (h : LX B0 w N v f g) (kp : Kp (fun _ => True) w w') : LX B0 w' N v f g := h.root (kp.weak (fun _ _ => trivial)) (fun k hk => (h.rtT k hk).kept (kp.blk k (h.apR k hk).2.2.2.2 trivial))
theorem LX.drewN {B0 : Nat} {w : World} {N : Bd} {v : AV} {f : Nat} {g : GS} (h : LX B0 w N v f g) (n : Nat) : LX B0 (w.drewN n) N v f g := h.all (Kp.drewN w n)

/-- One typed block changes, within its type. -/
theorem LX.put {B0 : Nat} {w w' : World} {N : Bd} {v : AV} {f : Nat} {g : GS} (h : LX B0 w N v f g) (k : Nat) (τ : Kd) (hk : g.ty k = some τ) (o : Obj) (ho : GoodO g k τ o) (hw : w'.heap[k]? = some o) (kp : Kp (fun j => j ≠ k) w w') : LX B0 w' N v f g where
  typ := fun j σ hj => by
    by_cases e : j = k
    · subst e; rw [hk] at hj; cases hj; exact ⟨o, hw, ho⟩
    · obtain ⟨o', h1, h2⟩ := h.typ j σ hj
      exact ⟨o', (kp.blk j (h.Mlt (.inl (by rw [hj]; simp))) e).trans h1, h2⟩
  frz := fun j d hj => (h.frz j d hj).kept h.net h.Mty (kp.weak (fun i hi e => hi (.inl (by rw [e, hk]; simp))))
  dfa := h.dfa.kept (kp.blk _ h.dfa.lt (fun e => by have := h.apD.1; rw [e, hk] at this; cases this))
  s0 := h.s0
  ask := own_kept' h.ask (fun j hj => kp.blk j (own_blk h.ask hj).2.1 (fun e => by have := (h.apA j hj).1; rw [e, hk] at this; cases this))
  askd := h.askd
  few := h.few
  js := fun j hj => (h.js j hj).kept (fun i hi => kp.blk i ((h.js j hj).ownlt hi) (fun e => by have := h.apJ i ⟨j, hj, hi⟩; rw [e, hk] at this; cases this))
  apD := h.apD
  apA := h.apA
  apJ := h.apJ
  apR := fun j hj => ⟨(h.apR j hj).1, (h.apR j hj).2.1, (h.apR j hj).2.2.1, (h.apR j hj).2.2.2.1, Nat.lt_of_lt_of_le (h.apR j hj).2.2.2.2 kp.size⟩
  rtT := fun j hj => (h.rtT j hj).kept (kp.blk j (h.apR j hj).2.2.2.2 (fun e => by have := (h.apR j hj).1; rw [e, hk] at this; cases this))
  low := h.low
  hB := Nat.le_trans h.hB kp.size
  net := h.net.kept (kp.weak (fun j hj e => by have := h.low k (.inl (by rw [hk]; simp)); omega))

/-- From one state of the DFA to a later one. -/
structure Fm (w : World) (g : GS) (w' : World) (g' : GS) : Prop where
  so : SO w w'
  size : w.heap.size ≤ w'.heap.size
  blk : ∀ k, k < w.heap.size → ¬ g.M k → w'.heap[k]? = w.heap[k]?
  sep : ∀ k, k < w.heap.size → ¬ g.M k → ¬ g'.M k
  ty : ∀ k τ, g.ty k = some τ → g'.ty k = some τ
  rt : g'.rt = g.rt
  rts : ∀ k, g.rt k → k < w.heap.size → w'.heap[k]? = w.heap[k]?
  dfa : g'.dfa = g.dfa
  asl : g.asked.length ≤ g'.asked.length
theorem Fm.refl (w : World) (g : GS) : Fm w g w g := ⟨⟨rfl, rfl⟩, Nat.le_refl _, fun _ _ _ => rfl, fun _ _ h => h, fun _ _ h => h, rfl, fun _ _ _ => rfl, rfl, Nat.le_refl _⟩
theorem Fm.all {w w' : World} (g : GS) (k : Kp (fun _ => True) w w') : Fm w g w' g := ⟨k.so, k.size, fun j hj _ => k.blk j hj trivial, fun _ _ h => h, fun _ _ h => h, rfl, fun j _ hj => k.blk j hj trivial, rfl, Nat.le_refl _⟩
theorem Fm.drewN (w : World) (g : GS) (n : Nat) : Fm w g (w.drewN n) g := Fm.all g (Kp.drewN w n)
theorem Fm.trans {a b c : World} {g h k : GS} (x : Fm a g b h) (y : Fm b h c k) : Fm a g c k where
  so := SO.trans x.so y.so
  size := Nat.le_trans x.size y.size
  blk := fun j hj hm => (y.blk j (Nat.lt_of_lt_of_le hj x.size) (x.sep j hj hm)).trans (x.blk j hj hm)
  sep := fun j hj hm => y.sep j (Nat.lt_of_lt_of_le hj x.size) (x.sep j hj hm)
  ty := fun j τ hj => y.ty j τ (x.ty j τ hj)
  rt := y.rt.trans x.rt
  rts := fun j hj hl => (y.rts j (by rw [x.rt]; exact hj) (Nat.lt_of_lt_of_le hl x.size)).trans (x.rts j hj hl)
  dfa := y.dfa.trans x.dfa
  asl := Nat.le_trans x.asl y.asl
theorem Fm.kp {B0 : Nat} {w w' : World} {N : Bd} {v : AV} {f : Nat} {g g' : GS} (h : LX B0 w N v f g) (x : Fm w g w' g') : Kp (fun k => k < B0) w w' :=
  ⟨x.so, x.size, fun k hk hb => x.blk k hk (fun hm => by have := h.low k hm; omega)⟩
/-- A typed block changes. -/
theorem Fm.put {B0 : Nat} {w w' : World} {N : Bd} {v : AV} {f : Nat} {g : GS} (h : LX B0 w N v f g) (k : Nat) (τ : Kd) (hk : g.ty k = some τ) (kp : Kp (fun j => j ≠ k) w w') : Fm w g w' g :=
  ⟨kp.so, kp.size, fun j hj hm => kp.blk j hj (fun e => hm (.inl (by rw [e, hk]; simp))), fun _ _ h => h, fun _ _ h => h, rfl, fun j hj hl => kp.blk j hl (fun e => by have := (h.apR j hj).1; rw [e, hk] at this; cases this), rfl, Nat.le_refl _⟩

theorem EdC.mono {g g' : GS} (hm : ∀ k τ, g.ty k = some τ → g'.ty k = some τ) {v : Value} (h : EdC g v) : EdC g' v := by
  rcases h with h | ⟨b, h1, ⟨d, h2⟩ | h2⟩
  · exact .inl h
  · exact .inr ⟨b, h1, .inl ⟨d, hm _ _ h2⟩⟩
  · exact .inr ⟨b, h1, .inr (hm _ _ h2)⟩
theorem EdV.mono {g g' : GS} (hm : ∀ k τ, g.ty k = some τ → g'.ty k = some τ) {v : Value} (h : EdV g v) : EdV g' v := by
  rcases h with h | ⟨e, h1, h2⟩
  · exact .inl h
  · exact .inr ⟨e, h1, hm _ _ h2⟩
theorem GoodO.mono {g g' : GS} (hm : ∀ k τ, g.ty k = some τ → g'.ty k = some τ) {k : Nat} {τ : Kd} {o : Obj} (h : GoodO g k τ o) : GoodO g' k τ o := by
  cases τ with
  | proper d => obtain ⟨h1, h2, sn, ed, ac, pr, h3, h4⟩ := h; exact ⟨h1, hm _ _ h2, sn, ed, ac, pr, h3, h4.mono hm⟩
  | set d => exact h
  | err => exact h
  | edges => obtain ⟨cs, h1, h2, h3⟩ := h; exact ⟨cs, h1, h2, fun i v hi => (h3 i v hi).mono hm⟩

/-- The roots that the DFA owns change: its own block, what was asked for, its store. -/
theorem LX.roots {B0 : Nat} {w w' : World} {N : Bd} {v : AV} {f : Nat} {g : GS} (h : LX B0 w N v f g) (g' : GS) (e1 : g'.ty = g.ty) (e2 : g'.rt = g.rt) (e3 : g'.dfa = g.dfa) (D : Nat → Prop) (kp : Kp (fun k => ¬ D k) w w')
    (hD : ∀ k, D k → k = g.dfa ∨ g.ask.ownBlock = some k ∨ g.jown k) (dfa' : Blk w' g.dfa 141 (dfaK g')) (s0' : ∀ b, g'.s0 = some b → ∃ d, g.ty b = some (.proper d))
    (ask' : w'.ownsRow 0 139 1 g'.ask g'.asked.length (g'.asked.map DS.ptr)) (askd' : ∀ d ∈ g'.asked, g.ty d.b = some (.proper d)) (few' : g'.asked.length ≤ 1000000) (js' : ∀ j, g'.js = some j → JsAt w' g' j)
    (hN : ∀ k, g'.ask.ownBlock = some k ∨ g'.jown k → (g.ask.ownBlock = some k ∨ g.jown k) ∨ w.heap.size ≤ k) (apA' : ∀ k, g'.ask.ownBlock = some k → ¬ g'.jown k) (hl : g.asked.length ≤ g'.asked.length := by first | exact Nat.le_refl _ | simp) :
    LX B0 w' N v f g' ∧ Fm w g w' g' := by
  have hMg : ∀ k, D k → g.M k := fun k hk => by
    rcases hD k hk with e | e | e
    · exact .inr (.inr (.inl e))
    · exact .inr (.inr (.inr (.inl e)))
    · exact .inr (.inr (.inr (.inr e)))
  have hDty : ∀ k, D k → g.ty k = none := fun k hk => by
    rcases hD k hk with rfl | e | e
    · exact h.apD.1
    · exact (h.apA k e).1
    · exact h.apJ k e
  have hDrt : ∀ k, D k → ¬ g.rt k := fun k hk hr => by
    obtain ⟨_, r1, r2, r3, _⟩ := h.apR k hr
    rcases hD k hk with e | e | e
    · exact r1 e
    · exact r2 e
    · exact r3 e
  have tylt : ∀ k, g.ty k ≠ none → k < w.heap.size := fun k hk => h.Mlt (.inl hk)
  have hM' : ∀ k, g'.M k → g.M k ∨ w.heap.size ≤ k := by
    intro k hk
    have hx : g'.ask.ownBlock = some k ∨ g'.jown k → g.M k ∨ w.heap.size ≤ k := fun hx => by
      rcases hN k hx with (e | e) | e
      · exact .inl (.inr (.inr (.inr (.inl e))))
      · exact .inl (.inr (.inr (.inr (.inr e))))
      · exact .inr e
    rcases hk with hk | hk | hk | hk | hk
    · exact .inl (.inl (by rw [← e1]; exact hk))
    · exact .inl (.inr (.inl (by rw [← e2]; exact hk)))
    · exact .inl (.inr (.inr (.inl (by rw [← e3]; exact hk))))
    · exact hx (.inl hk)
    · exact hx (.inr hk)
  have hty : ∀ k, (g'.ask.ownBlock = some k ∨ g'.jown k) → g.ty k = none ∧ k ≠ g.dfa ∧ ¬ g.rt k := by
    intro k hk
    rcases hN k hk with (e | e) | e
    · exact ⟨(h.apA k e).1, fun e' => h.apD.2.2 (e' ▸ e), fun hr => (h.apR k hr).2.2.1 e⟩
    · exact ⟨h.apJ k e, fun e' => h.apD.2.1 (e' ▸ e), fun hr => (h.apR k hr).2.2.2.1 e⟩
    · refine ⟨?_, fun e' => by have := h.dfa.lt; omega, fun hr => by have := (h.apR k hr).2.2.2.2; omega⟩
      cases ht : g.ty k with
      | none => rfl
      | some τ => have := tylt k (by rw [ht]; simp); omega
  have hsep : ∀ k, k < w.heap.size → ¬ g.M k → ¬ g'.M k := fun k hk hm hm' => by
    rcases hM' k hm' with e | e
    · exact hm e
    · omega
  refine ⟨{ typ := ?_, frz := ?_, dfa := by rw [e3]; exact dfa', s0 := by rw [e1]; exact s0', ask := ask', askd := by rw [e1]; exact askd', few := few', js := js', apD := ?_, apA := ?_, apJ := ?_, apR := ?_, rtT := ?_, low := ?_, hB := Nat.le_trans h.hB kp.size, net := ?_ },
    ⟨kp.so, kp.size, fun k hk hm => kp.blk k hk (fun hd => hm (hMg k hd)), hsep, fun k τ hk => by rw [e1]; exact hk, e2, fun k hk hl => kp.blk k hl (fun hd => hDrt k hd hk), e3, hl⟩⟩
  · intro k τ hk
    rw [e1] at hk
    obtain ⟨o, h1, h2⟩ := h.typ k τ hk
    exact ⟨o, (kp.blk k (tylt k (by rw [hk]; simp)) (fun hd => by rw [hDty k hd] at hk; cases hk)).trans h1, h2.mono (fun k τ hk => by rw [e1]; exact hk)⟩
  · intro k d hk
    rw [e1] at hk
    exact (h.frz k d hk).kept h.net h.Mty (kp.weak (fun j hj hd => hj (hMg j hd)))
  · rw [e1, e3]
    exact ⟨h.apD.1, fun hj => (hty _ (.inr hj)).2.1 rfl, fun ha => (hty _ (.inl ha)).2.1 rfl⟩
  · intro k hk
    rw [e1]
    exact ⟨(hty k (.inl hk)).1, apA' k hk⟩
  · intro k hk
    rw [e1]
    exact (hty k (.inr hk)).1
  · intro k hk
    rw [e2] at hk
    rw [e1, e3]
    obtain ⟨r0, r1, r2, r3, r4⟩ := h.apR k hk
    exact ⟨r0, r1, fun e => (hty k (.inl e)).2.2 hk, fun e => (hty k (.inr e)).2.2 hk, Nat.lt_of_lt_of_le r4 kp.size⟩
  · intro k hk
    rw [e2] at hk
    exact (h.rtT k hk).kept (kp.blk k (h.apR k hk).2.2.2.2 (fun hd => hDrt k hd hk))
  · intro k hk
    rcases hM' k hk with e | e
    · exact h.low k e
    · exact Nat.le_trans h.hB e
  · exact h.net.kept (kp.weak (fun k hk hd => by have := h.low k (hMg k hd); omega))

def GS.reg (g : GS) (k : Nat) (τ : Kd) : GS := { g with ty := fun i => if i = k then some τ else g.ty i }
theorem GS.reg_old {g : GS} {k : Nat} {τ : Kd} (hk : g.ty k = none) : ∀ i σ, g.ty i = some σ → (g.reg k τ).ty i = some σ := by
  intro i σ hi
  show (if i = k then some τ else g.ty i) = some σ
  rw [if_neg (fun e => by rw [e, hk] at hi; cases hi)]; exact hi
theorem GS.reg_new {g : GS} {k : Nat} {τ : Kd} : (g.reg k τ).ty k = some τ := by
  show (if k = k then some τ else g.ty k) = some τ
  rw [if_pos rfl]
theorem GS.reg_M {g : GS} {k : Nat} {τ : Kd} {i : Nat} (h : (g.reg k τ).M i) : g.M i ∨ i = k := by
  by_cases e : i = k
  · exact .inr e
  · left
    rcases h with h | h
    · have h' : (if i = k then some τ else g.ty i) ≠ none := h
      rw [if_neg e] at h'; exact .inl h'
    · exact .inr h
/-- A block is told to be of a kind. -/
theorem LX.reg {B0 : Nat} {w : World} {N : Bd} {v : AV} {f : Nat} {g : GS} (h : LX B0 w N v f g) (k : Nat) (τ : Kd) (hk : ¬ g.M k) (hB : B0 ≤ k) (o : Obj) (ho : w.heap[k]? = some o) (hg : GoodO (g.reg k τ) k τ o) (hf : ∀ d, τ = .proper d → Frz w N v f d) :
    LX B0 w N v f (g.reg k τ) := by
  have hkt : g.ty k = none := by
    cases ht : g.ty k with
    | none => rfl
    | some σ => exact absurd (.inl (by rw [ht]; simp)) hk
  have old := GS.reg_old (τ := τ) hkt
  have none_of : ∀ i, i ≠ k → g.ty i = none → (g.reg k τ).ty i = none := fun i hi h0 => by
    show (if i = k then some τ else g.ty i) = none
    rw [if_neg hi]; exact h0
  refine { typ := ?_, frz := ?_, dfa := h.dfa, s0 := fun b hb => ?_, ask := h.ask, askd := fun d hd => old _ _ (h.askd d hd), few := h.few, js := fun j hj => ?_, apD := ?_, apA := ?_, apJ := ?_, apR := ?_, rtT := h.rtT, low := ?_, hB := h.hB, net := h.net }
  · intro i σ hi
    by_cases e : i = k
    · subst e
      rw [GS.reg_new] at hi; cases hi
      exact ⟨o, ho, hg⟩
    · have hi' : (if i = k then some τ else g.ty i) = some σ := hi
      rw [if_neg e] at hi'
      obtain ⟨o', h1, h2⟩ := h.typ i σ hi'
      exact ⟨o', h1, h2.mono old⟩
  · intro i d hi
    by_cases e : i = k
    · subst e
      rw [GS.reg_new] at hi; cases hi
      exact hf d rfl
    · have hi' : (if i = k then some τ else g.ty i) = some (.proper d) := hi
      rw [if_neg e] at hi'
      exact h.frz i d hi'
  · obtain ⟨d, hd⟩ := h.s0 b hb
    exact ⟨d, old _ _ hd⟩
  · have := h.js j hj
    exact ⟨this.blk, this.map, fun x hx => by obtain ⟨ds, h1, h2, h3, h4⟩ := this.bks x hx; exact ⟨ds, h1, h2, fun d hd => old _ _ (h3 d hd), h4⟩, this.pw, this.cnt⟩
  · exact ⟨none_of _ (fun e => hk (by rw [← e]; exact .inr (.inr (.inl rfl)))) h.apD.1, h.apD.2⟩
  · intro i hi
    exact ⟨none_of _ (fun e => hk (by rw [← e]; exact .inr (.inr (.inr (.inl hi))))) (h.apA i hi).1, (h.apA i hi).2⟩
  · intro i hi
    exact none_of _ (fun e => hk (by rw [← e]; exact .inr (.inr (.inr (.inr hi))))) (h.apJ i hi)
  · intro i hi
    exact ⟨none_of _ (fun e => hk (by rw [← e]; exact .inr (.inl hi))) (h.apR i hi).1, (h.apR i hi).2⟩
  · intro i hi
    rcases GS.reg_M hi with e | e
    · exact h.low i e
    · rw [e]; exact hB
theorem Fm.reg {w0 w : World} {g0 g : GS} (x : Fm w0 g0 w g) (k : Nat) (τ : Kd) (hk : w0.heap.size ≤ k) (hn : g.ty k = none) : Fm w0 g0 w (g.reg k τ) where
  so := x.so
  size := x.size
  blk := x.blk
  sep := fun i hi hm h => by
    rcases GS.reg_M h with e | e
    · exact x.sep i hi hm e
    · omega
  ty := fun i σ hi => GS.reg_old hn i σ (x.ty i σ hi)
  rt := x.rt
  rts := x.rts
  dfa := x.dfa
  asl := x.asl
end Go.Proofs
end
section
namespace Go.Proofs
open Go.RowKit
open Pl
theorem ddC_sub (x : Cf) : ∀ (l acc : List Cf), x ∈ l.foldl (fun acc x => if acc.any (fun y => y.h == x.h) then acc else acc ++ [x]) acc → x ∈ acc ∨ x ∈ l
  | [], acc, h => .inl h
  | a :: l, acc, h => by
    rw [List.foldl_cons] at h
    rcases ddC_sub x l _ h with h | h
    · split at h
      · exact .inl h
      · rcases List.mem_append.1 h with h | h
        · exact .inl h
        · exact .inr (by rw [List.mem_singleton.1 h]; simp)
    · exact .inr (List.mem_cons_of_mem _ h)
theorem ddC_mem {x : Cf} {l : List Cf} (h : x ∈ ddC l) : x ∈ l := (ddC_sub x l [] h).elim (fun h => by simp at h) id
theorem ddC_acc : ∀ (l acc : List Cf), acc ≠ [] → l.foldl (fun acc x => if acc.any (fun y => y.h == x.h) then acc else acc ++ [x]) acc ≠ []
  | [], acc, h => h
  | a :: l, acc, h => by
    rw [List.foldl_cons]
    refine ddC_acc l _ ?_
    split
    · exact h
    · simp
theorem ddC_ne {l : List Cf} (h : l ≠ []) : ddC l ≠ [] := by
  cases l with
  | nil => exact absurd rfl h
  | cons a l => exact ddC_acc l _ (by simp)
theorem ddC_nil : ddC [] = [] := rfl

theorem Cf.h_key {x : Cf} {a : Nat × Nat} (h : (x.n, x.alt) = ((a.1 : Int), (a.2 : Int))) : x.h = (lhg a : Int) := by
  have h1 : x.n = (a.1 : Int) := congrArg Prod.fst h
  have h2 : x.alt = (a.2 : Int) := congrArg Prod.snd h
  unfold Cf.h lhg
  rw [h1, h2, lhI_eq]
theorem dd_keys (key : Cf → Int × Int) (hkey : key = fun y => (y.n, y.alt)) : ∀ (L acc : List Cf) (A acA : List (Nat × Nat)), L.map key = toI A → acc.map key = toI acA →
    (L.foldl (fun acc x => if acc.any (fun y => y.h == x.h) then acc else acc ++ [x]) acc).map key = toI (ddG lhg A acA)
  | [], acc, A, acA, h, k => by
    have : A = [] := by cases A with | nil => rfl | cons a A => simp [toI] at h
    subst this; exact k
  | x :: L, acc, [], acA, h, k => by simp [toI] at h
  | x :: L, acc, a :: A, acA, h, k => by
    have h1 : key x = ((a.1 : Int), (a.2 : Int)) := by have := congrArg List.head? h; simpa [toI] using this
    have h2 : L.map key = toI A := by have := congrArg List.tail h; simpa [toI] using this
    have hx : x.h = (lhg a : Int) := Cf.h_key (by rw [← h1, hkey])
    rw [List.foldl_cons]
    show _ = toI (ddG lhg A (if acA.any (fun y => lhg y == lhg a) then acA else acA ++ [a]))
    have e : (acc.any fun y => y.h == x.h) = acA.any fun y => lhg y == lhg a := by
      clear h h2
      induction acc generalizing acA with
      | nil =>
        have : acA = [] := by cases acA with | nil => rfl | cons a A => simp [toI] at k
        subst this; rfl
      | cons y acc ih =>
        cases acA with
        | nil => simp [toI] at k
        | cons b acA =>
          have k1 : key y = ((b.1 : Int), (b.2 : Int)) := by have := congrArg List.head? k; simpa [toI] using this
          have k2 : acc.map key = toI acA := by have := congrArg List.tail k; simpa [toI] using this
          have hy : y.h = (lhg b : Int) := Cf.h_key (by rw [← k1, hkey])
          rw [List.any_cons, List.any_cons, ih acA k2, hx, hy]
          congr 1
          rw [Bool.eq_iff_iff]; simp only [beq_iff_eq]
          constructor
          · intro h; exact Int.ofNat.inj h
          · intro h; rw [h]
    rw [e]
    by_cases hc : (acA.any fun y => lhg y == lhg a) = true
    · rw [if_pos hc, if_pos hc]; exact dd_keys key hkey L acc A acA h2 k
    · rw [if_neg hc, if_neg hc]
      exact dd_keys key hkey L (acc ++ [x]) A (acA ++ [a]) h2 (by rw [List.map_append, k]; simp [toI, h1])
theorem CfA.dd {N : Bd} {v : AV} {A : List (Nat × Nat)} {L : List Cf} (h : CfA N v A L) : CfA N v (Pl.dd A) (ddC L) :=
  ⟨by rw [dd_ddG]; exact dd_keys _ rfl L [] A [] h.keys rfl, fun y hy => h.all y (ddC_mem hy)⟩

theorem own_form {w : World} {base : Nat} {e : TypeId} {size n : Nat} {v : Value} {xs : List Value} (h : w.ownsRow base e size v n xs) (hn : n ≠ 0) : ∃ g cap, v = .slice (some ⟨g, 0, none⟩) n cap ∧ v.ownBlock = some g := by
  rcases h.2 with ⟨rfl, h0⟩ | ⟨g, cap, cur, rfl, _⟩
  · exact absurd h0 hn
  · exact ⟨g, cap, rfl, rfl⟩
theorem own_cell {w : World} {base : Nat} {e : TypeId} {size n g cap : Nat} {xs : List Value} (h : w.ownsRow base e size (.slice (some ⟨g, 0, none⟩) n cap) n xs) (i : Nat) (u : Value) (hu : xs[i]? = some u) : w.cell? ⟨g, i, none⟩ = some u := by
  have := h.cells (g := g) rfl i u hu
  have e : (⟨g, 0, none⟩ : Addr).add i = ⟨g, i, none⟩ := by
    by_cases hi : i = 0
    · subst hi; rfl
    · simp [Addr.add, hi]
  rw [e] at this; exact this

theorem Frz.src {w : World} {N : Bd} {v : AV} {f : Nat} {d : DS} (h : Frz w N v f d) {ch : Int} {lk : Option Addr} {ro : Bool} (hb : Blk w d.cb 147 (setK d.ask ch lk d.cfg ro)) : FSrc w.heap.size w N v d.cb (ddC d.L) (dd d.A) where
  cfg := by
    have hne := ddC_ne h.ne
    obtain ⟨g, cap, e1, e2⟩ := own_form h.cfg (fun e => hne (List.eq_nil_of_length_eq_zero e))
    have hc := h.cfg
    rw [e1] at hc
    refine ⟨g, cap, ⟨hb.lt, by rw [hb.cell 3, e1]; rfl⟩, fun i x hx => ⟨(own_blk hc rfl).2.1, own_cell hc i _ ?_⟩⟩
    unfold ptrC; rw [List.getElem?_map, hx]; rfl
  lt := fun x hx => ⟨(h.b x hx).lt, Blk.lt (h.ctx x (ddC_mem hx)), Blk.lt (h.sem x (ddC_mem hx))⟩
  blk := fun x hx => ⟨h.b x hx, h.ctx x (ddC_mem hx), h.sem x (ddC_mem hx)⟩
  all := h.keys.dd
  few := Nat.le_trans (ddC_len _) h.few

theorem LX.dst {B0 : Nat} {w : World} {N : Bd} {v : AV} {f : Nat} {g : GS} (h : LX B0 w N v f g) {k : Nat} {d : DS} (hd : g.ty k = some (.proper d)) :
    d.b = k ∧ g.ty d.cb = some (.set d) ∧ ∃ sn ed ac pr ch lk ro, EdV g ed ∧ DSt w.heap.size w N v d.b d.cb (ddC d.L) (dd d.A) sn ed ac pr d.ask d.cfg ch lk ro := by
  obtain ⟨o, h1, h2, h3, sn, ed, ac, pr, rfl, h4⟩ := h.typ k _ hd
  obtain ⟨o2, k1, k2, ch, lk, ro, rfl, k3⟩ := h.typ d.cb _ h3
  have hb : Blk w d.cb 147 (setK d.ask ch lk d.cfg ro) := k1
  have hb2 : Blk w d.b 152 (dstK sn d.cb ed ac pr) := by rw [h2]; exact h1
  exact ⟨h2, h3, sn, ed, ac, pr, ch, lk, ro, h4, hb2, hb, (h.frz k d hd).src hb, fun _ => k3⟩

theorem AtnAt.up {B B' : Nat} {w : World} {N : Bd} {v : AV} (h : AtnAt B w N v) (hB : B ≤ B') : AtnAt B' w N v := fun s hs =>
  ⟨fun e => ⟨Nat.lt_of_lt_of_le ((h s hs).eps e).lt hB, ((h s hs).eps e).at⟩, (h s hs).lf, ⟨Nat.lt_of_lt_of_le (h s hs).sn.lt hB, (h s hs).sn.at⟩, ⟨Nat.lt_of_lt_of_le (h s hs).ri.lt hB, (h s hs).ri.at⟩, (h s hs).trs.imp (fun e => ⟨Nat.lt_of_lt_of_le e.lt hB, e.at⟩) (fun e => ⟨e.1, Nat.lt_of_lt_of_le e.2.lt hB, e.2.at⟩), fun e => ⟨Nat.lt_of_lt_of_le ((h s hs).ng e).lt hB, ((h s hs).ng e).at⟩, (h s hs).few, fun i e he => ⟨⟨Nat.lt_of_lt_of_le ((h s hs).tr i e he).1.lt hB, ((h s hs).tr i e he).1.at⟩, ((h s hs).tr i e he).2.up hB⟩⟩

/-! ### the two calls of the comparator -/
set_option maxRecDepth 100000 in
theorem hash1_lx (q : Addr) {B0 : Nat} {w : World} {N : Bd} {v : AV} {f : Nat} {g : GS} (h : LX B0 w N v f g) (d : DS) (hd : g.ty d.b = some (.proper d)) :
    Calls Tryz.prog 362 #[.pointer (some q), .pointer (some ⟨d.b, 0, none⟩)] w fun e w' => e = .returned (.int .i64 (dfaHashL (ddC d.L))) ∧ LX B0 w' N v f g ∧ Fm w g w' g := by
  obtain ⟨_, h3, sn, ed, ac, pr, ch, lk, ro, h4, D⟩ := h.dst hd
  refine (hash1d_any q w.heap.size w N v (h.net.up h.hB) d.b d.cb _ _ _ _ _ _ _ _ _ _ _ D).mono ?_
  rintro e w' ⟨rfl, rfl | ⟨rfl, rfl⟩⟩
  · exact ⟨rfl, h, Fm.refl _ _⟩
  · have kp : Kp (fun j => j ≠ d.cb) w (w.setCell ⟨d.cb, 1, none⟩ (.int .i64 (hashL (ddC d.L)))) := Kp.setCell _ _ _ (by simp)
    have hb : Blk (w.setCell ⟨d.cb, 1, none⟩ (.int .i64 (hashL (ddC d.L)))) d.cb 147 (setK d.ask (hashL (ddC d.L)) lk d.cfg true) := D.set.set 1 _ _ (by simp [setK])
    exact ⟨rfl, h.put d.cb _ h3 _ ⟨rfl, _, lk, true, rfl, .inr rfl⟩ hb kp, Fm.put h d.cb _ h3 kp⟩

set_option maxRecDepth 100000 in
theorem eq2_lx (q : Addr) {B0 : Nat} {w : World} {N : Bd} {v : AV} {f : Nat} {g : GS} (h : LX B0 w N v f g) (d d2 : DS) (hd : g.ty d.b = some (.proper d)) (hd2 : g.ty d2.b = some (.proper d2)) :
    Calls Tryz.prog 361 #[.pointer (some q), .pointer (some ⟨d.b, 0, none⟩), .pointer (some ⟨d2.b, 0, none⟩)] w fun e w' => BoolRet e ∧ ∃ n, w.drewN n = w' := by
  obtain ⟨_, h3, sn, ed, ac, pr, ch, lk, ro, h4, D⟩ := h.dst hd
  obtain ⟨_, k3, sn2, ed2, ac2, pr2, ch2, lk2, ro2, k4, D2⟩ := h.dst hd2
  refine (eq2d_any q _ _ w N v d.b d2.b d.cb d2.cb _ _ _ _ _ _ _ _ _ _ _ _ _ _ _ _ _ _ _ _ _ _ D D2).mono ?_
  rintro e w' ⟨rfl, hw⟩
  exact ⟨⟨_, rfl⟩, hw⟩
end Go.Proofs
end
