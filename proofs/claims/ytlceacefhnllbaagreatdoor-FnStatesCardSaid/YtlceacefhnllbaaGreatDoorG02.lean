/- A part of the proof of the statement on the law FnStates, which the last text proves: part G02. -/
import Derived.Test.YtlceacefhnllbaaGreatDoorG01
set_option linter.all false
section
namespace Go.Proofs
open Go.RowKit
theorem imax_any (w : World) : Calls Tryz.prog 181 #[.int .i64 0, .int .i64 0] w fun e w' => e = .returned (.int .i64 0) ∧ w = w' := by
  go_enter Tryz.func181, Tryz.ntmps181
  go_wp2
  go_ret
  exact ⟨rfl, rfl⟩
theorem SetU.drewN {B : Nat} {w : World} {u : SU} {adds cfs : List Cf} (h : SetU B w u adds cfs) (n : Nat) : SetU B (w.drewN n) u adds cfs := 
  ⟨h.blk, h.ask, h.cfg, ⟨h.st.blk, h.st.map⟩, h.bs, h.bt, h.bm, fun x hx => (h.x x hx).fr (Fr.drewN _ _ _), fun x hx => (h.b x hx).fr (Fr.drewN _ _ _), h.bu, h.only⟩

set_option maxRecDepth 100000 in
set_option maxHeartbeats 400000 in
theorem add_present (B : Nat) (w : World) (u : SU) (adds cfs : List Cf) (hs : SetU B w u adds cfs) (x : Cf) (hx : CfB w u x) (y : Cf) (hy : y ∈ cfs) (hyx : y.h = x.h) (hl : (adds.length + 1) * 88 ≤ 140737488355328) :
    Calls Tryz.prog 165 #[.pointer (some ⟨u.sB, 0, none⟩), .pointer (some ⟨x.b, 0, none⟩), .pointer none] w fun e w' => e = .returned (.bool true) ∧ ∃ u', SetU B w' u' (adds ++ [x]) cfs ∧ Fr w u w' u' ∧ u'.sB = u.sB := by
  have hc := hs.blk.cell
  have hf := hs.blk.free
  simp only [setCells] at hc
  have hxc := hx.blk.cell
  simp only [Cf.cells, confCells] at hxc
  obtain ⟨i0, hi0, hz0, hz1, hz2⟩ := info_parts info161b
  have hask := hs.ask
  have hlt := hs.blk.lt
  have hbs := hs.bs
  have hblk := Lib.hid hs.blk
  have hltx := hx.blk.lt
  have hna := hs.blkne.2.2.2.1
  have H := Lib.hid hx
  have HS := Lib.hid hs
  clear hx hs
  go_enter Tryz.func165, Tryz.ntmps165
  go_wp2_with (first | (go_at_call 186; refine (isNone_any _ _ H.out.x.sem).mono ?_; rintro e w' ⟨rfl, rfl⟩) | (go_at_call 187; refine (gSem _ _ _ (by go_simp; first | done | rfl)).mono ?_; rintro e w' ⟨rfl, rfl⟩) | (go_at_call 188; refine (gRch _ _ _ (by go_simp; first | done | rfl)).mono ?_; rintro e w' ⟨rfl, rfl⟩))
  go_region_law ((refine step_append_lies _ (by rfl) _ _ _ (by rfl) B 161 i0 _ 9 88 Tryz.underlying142 hi0 hz0 hz1 hz2 rfl (by omega) u.ask adds.length (flatC adds) (by rfl) (by first | exact (hask.alloc _).drew | exact (hask.drew).alloc _) ⟨w.heap.size, 0, none⟩ 1 1 x.cells.toList (by rfl) (by rfl) (World.news_of_block (cs := x.cells) (t := 161) (fr := (0, 0)) (heap_alloc_new w _)) (by simp [Value.oneCell', Cf.cells, confCells]) (by omega) (by simp [maxLen]; omega) (by omega) (by simp; omega) (w.heap.size + 1) (by simp) ?_; intro gg cap w1 hown1 hgrow hat hlt9; have kp1 : Kp (fun k => u.ask.ownBlock ≠ some k) w w1 := (by first | exact ((Kp.drew _).trans (Kp.alloc _ _)).trans (Kp.grown hgrow (fun k hk => fun e => hk e.symm)) | exact ((Kp.alloc _ _).trans (Kp.drew _)).trans (Kp.grown hgrow (fun k hk => fun e => hk e.symm))); have hB1 := Lib.hid (Blk.kept hblk.out (kp1.blk _ hlt hna)); have c1 : w1.cell? ⟨u.sB, 0, none⟩ = some u.ask := (hB1.out.cell 0).trans rfl; have f1 := hB1.out.free 0))
  all_goals
    have hat' : u.ask.ownBlock = some gg ∨ w.heap.size ≤ gg := by rcases hat with h | h <;> first | exact .inl h | (right; omega)
    obtain ⟨hs2, f2⟩ := SetU.asked HS.out H.out.x hown1 kp1 hat'
    generalize w1.setCell ⟨u.sB, 0, none⟩ (.slice (some ⟨gg, 0, none⟩) (adds.length + 1) cap) = w2 at hs2 f2 ⊢
    have hx2 := H.out.fr f2
    have hc2 := hs2.blk.cell
    have hf2 := hs2.blk.free
    simp only [setCells] at hc2
    have H2 := Lib.hid hx2
    have HS2 := Lib.hid hs2
    obtain ⟨g2, cap2, hlk2, hgc2, _⟩ := hs2.bu y hy
    have hy2 := Lib.hid (hs2.b y hy)
    rw [hyx] at hlk2
    have hyc := (hs2.b y hy).blk.cell
    have hxc2 := hx2.blk.cell
    have hyf := (hs2.b y hy).blk.free
    simp only [Cf.cells, confCells] at hyc hxc2
    have q1 : ∀ n, (w2.drewN n).setCell ⟨y.b, 5, none⟩ (.int .i64 0) = w2.drewN n := fun n => setCell_self (w := w2.drewN n) (hs2.b y hy).blk rfl
    have q2 : ∀ n, (w2.drewN n).setCell ⟨y.b, 3, none⟩ (.pointer (some ⟨y.c, 0, none⟩)) = w2.drewN n := fun n => setCell_self (w := w2.drewN n) (hs2.b y hy).blk rfl
    clear hx2 hs2 hc hf hxc c1 f1
    go_wp2_with (first | (go_at_call 189; refine (put_present _ _ _ _ _ _ _ _ _ _ _ _ _ HS2.out.st (CfB.at H2.out) _ _ hlk2 _ _ _ _ _ _ hy2.out.blk hgc2).mono ?_; rintro e w3 ⟨rfl, n3, rfl⟩) | (go_at_call 190; refine (merge_any _ _ _ (w2.drewN n3) hy2.out.x.ctx H2.out.x.ctx).mono ?_; rintro e w3 ⟨rfl, n4, rfl⟩) | (go_at_call 181; refine (imax_any _).mono ?_; rintro e w' ⟨rfl, rfl⟩) | (go_at_call 188; refine (gRch _ _ _ (by go_simp; first | done | rfl)).mono ?_; rintro e w' ⟨rfl, rfl⟩) | (go_at_call 191; refine (gCtx _ _ _ (by go_simp; first | done | rfl)).mono ?_; rintro e w' ⟨rfl, rfl⟩) | (go_at_call 192; refine (sRch _ _ _ (by go_simp) (by go_simp)).mono ?_; rintro e w' ⟨rfl, rfl⟩) | (go_at_call 195; refine (sCtx _ _ _ (by go_simp) (by go_simp)).mono ?_; rintro e w' ⟨rfl, rfl⟩) | (go_at_call 193; refine (gPfs _ _ _ (by go_simp; first | done | rfl)).mono ?_; rintro e w' ⟨rfl, rfl⟩))
    go_ret
    exact ⟨by simp, _, HS2.out.drewN _, f2.trans (Fr.drewN _ _ _), rfl⟩
end Go.Proofs
end
section
namespace Go.Proofs
open Go.RowKit
open Pl
/-! ## The network in memory -/

def kTy (k : Nat) : TypeId := [330, 330, 268, 333, 295, 309, 232, 269, 264, 301, 173, 291, 253].getD k 330
def trTy (k : Nat) : TypeId := if k = 1 then 286 else if k = 2 then 350 else 357

theorem kTy_mem (k : Nat) : kTy k ∈ stTypes := by
  have h : ∀ l : List TypeId, (∀ t ∈ l, t ∈ stTypes) → l.getD k 330 ∈ stTypes := by
    intro l hl
    rw [List.getD_eq_getElem?_getD]
    cases h : l[k]? with
    | none => simp [stTypes]
    | some t => exact hl t (List.mem_of_getElem? h)
  exact h _ (by decide)
theorem trTy_mem (k : Nat) : trTy k ∈ trTypes := by
  unfold trTy; repeat' split
  all_goals decide

/-- A cell of a block below B. -/
structure LC (B : Nat) (w : World) (b i : Nat) (v : Value) : Prop where
  lt : b < B
  «at» : w.cell? ⟨b, i, none⟩ = some v
theorem LC.kept {B : Nat} {w w' : World} {b i : Nat} {v : Value} (h : LC B w b i v) (k : Kp (fun k => k < B) w w') : LC B w' b i v :=
  ⟨h.lt, (World.cell?_of_block (k.blk b (cell_lt h.at) h.lt)).trans h.at⟩

theorem Kp.drewN {P : Nat → Prop} (w : World) (n : Nat) : Kp P w (w.drewN n) := ⟨⟨rfl, rfl⟩, Nat.le_refl _, fun _ _ _ => rfl⟩

structure AV where
  st : Nat → Nat
  row : Nat → Nat
  cap : Nat → Nat
  tr : Nat → Nat → Nat

structure TrAt (B : Nat) (w : World) (N : Bd) (v : AV) (e : LE) (tb : Nat) : Prop where
  tgt : LC B w tb 0 (.iface (kTy (N.kind e.dst)) (.pointer (some ⟨v.st e.dst, 0, none⟩)))
  ser : LC B w tb 4 (.int .i64 e.kind)
  kind : e.kind = 1 ∨ e.kind = 2 ∨ e.kind = 5
  atom : e.kind = 5 → LC B w tb 2 (.int .i64 e.a1) ∧ 0 ≤ e.a1
  rng : e.kind = 2 → LC B w tb 5 (.int .i64 e.a1) ∧ LC B w tb 6 (.int .i64 e.a2) ∧ 0 ≤ e.a1
  dst : e.dst < N.st.length

structure StAt (B : Nat) (w : World) (N : Bd) (v : AV) (s : Nat) : Prop where
  eps : N.kind s ≠ 7 → LC B w (v.st s) 2 (.bool (!N.leaf s))
  lf : N.leaf s = true → ∀ e ∈ N.out s, e.kind ≠ 1
  sn : LC B w (v.st s) 4 (.int .i64 s)
  ri : LC B w (v.st s) 3 (.int .i64 ((N.st.getD s ⟨0, 0, 0⟩).rule))
  trs : LC B w (v.st s) 6 (.slice (some ⟨v.row s, 0, none⟩) (N.out s).length (v.cap s)) ∨ (N.out s = [] ∧ LC B w (v.st s) 6 (.slice none 0 0))
  ng : kTy (N.kind s) ∈ dcTypes → LC B w (v.st s) 8 (.bool false)
  few : (N.out s).length ≤ 1000000
  tr : ∀ i e, (N.out s)[i]? = some e → LC B w (v.row s) i (.iface (trTy e.kind) (.pointer (some ⟨v.tr s i, 0, none⟩))) ∧ TrAt B w N v e (v.tr s i)

def AtnAt (B : Nat) (w : World) (N : Bd) (v : AV) : Prop := ∀ s, s < N.st.length → StAt B w N v s

theorem TrAt.kept {B : Nat} {w w' : World} {N : Bd} {v : AV} {e : LE} {tb : Nat} (h : TrAt B w N v e tb) (k : Kp (fun k => k < B) w w') : TrAt B w' N v e tb :=
  ⟨h.tgt.kept k, h.ser.kept k, h.kind, fun e => ⟨(h.atom e).1.kept k, (h.atom e).2⟩, fun e => ⟨(h.rng e).1.kept k, (h.rng e).2.1.kept k, (h.rng e).2.2⟩, h.dst⟩
theorem StAt.kept {B : Nat} {w w' : World} {N : Bd} {v : AV} {s : Nat} (h : StAt B w N v s) (k : Kp (fun k => k < B) w w') : StAt B w' N v s :=
  ⟨fun e => (h.eps e).kept k, h.lf, h.sn.kept k, h.ri.kept k, h.trs.imp (fun h => h.kept k) (fun h => ⟨h.1, h.2.kept k⟩), fun e => (h.ng e).kept k, h.few, fun i e he => ⟨(h.tr i e he).1.kept k, (h.tr i e he).2.kept k⟩⟩
theorem AtnAt.kept {B : Nat} {w w' : World} {N : Bd} {v : AV} (h : AtnAt B w N v) (k : Kp (fun k => k < B) w w') : AtnAt B w' N v := fun s hs => (h s hs).kept k

theorem TrAt.up {B B' : Nat} {w : World} {N : Bd} {v : AV} {e : LE} {tb : Nat} (h : TrAt B w N v e tb) (hb : B ≤ B') : TrAt B' w N v e tb :=
  ⟨⟨Nat.lt_of_lt_of_le h.tgt.lt hb, h.tgt.at⟩, ⟨Nat.lt_of_lt_of_le h.ser.lt hb, h.ser.at⟩, h.kind, fun e => ⟨⟨Nat.lt_of_lt_of_le (h.atom e).1.lt hb, (h.atom e).1.at⟩, (h.atom e).2⟩, fun e => ⟨⟨Nat.lt_of_lt_of_le (h.rng e).1.lt hb, (h.rng e).1.at⟩, ⟨Nat.lt_of_lt_of_le (h.rng e).2.1.lt hb, (h.rng e).2.1.at⟩, (h.rng e).2.2⟩, h.dst⟩

theorem SetU.below {B : Nat} {w : World} {u : SU} {adds cfs : List Cf} (h : SetU B w u adds cfs) {k : Nat} (hk : k < B) : ¬ u.own k := by
  rintro (e | e | e | e | e)
  · have := h.bs; omega
  · have := h.bt; omega
  · have := h.bm; omega
  · have := (own_blk h.ask e).1; omega
  · have := (own_blk h.cfg e).1; omega
theorem SetU.kp {B : Nat} {w w' : World} {u u' : SU} {adds cfs : List Cf} (h : SetU B w u adds cfs) (f : Fr w u w' u') : Kp (fun k => k < B) w w' :=
  ⟨f.so, f.size, fun k hk hb => f.blk k hk (h.below hb)⟩

/-- A configuration that stands at state s. -/
structure CfN (N : Bd) (v : AV) (x : Cf) (s : Nat) : Prop where
  n : x.n = s
  T : x.T = kTy (N.kind s)
  lt : s < N.st.length
  b : x.s = v.st s

theorem StAt.tgt {B : Nat} {w : World} {N : Bd} {v : AV} {s : Nat} (h : StAt B w N v s) (hB : B ≤ w.heap.size) : Tgt w (kTy (N.kind s)) (v.st s) :=
  ⟨kTy_mem _, fun e => (h.ng e).at, Nat.lt_of_lt_of_le h.sn.lt hB⟩

/-! ### contexts: empty, all of them -/
theorem plen_any (c : Nat) (w : World) (h : Ctx w c) : Calls Tryz.prog 86 #[.pointer (some ⟨c, 0, none⟩)] w fun e w' => e = .returned (.int .i64 1) ∧ w = w' := by
  have hc := h.cell
  clear h
  go_enter Tryz.func86, Tryz.ntmps86
  go_wp2
  go_ret
  exact ⟨rfl, rfl⟩
theorem pret_any (c : Nat) (i : Int) (w : World) (h : Ctx w c) : Calls Tryz.prog 87 #[.pointer (some ⟨c, 0, none⟩), .int .i64 i] w fun e w' => e = .returned (.int .i64 2147483647) ∧ w = w' := by
  have hc := h.cell
  clear h
  go_enter Tryz.func87, Tryz.ntmps87
  go_wp2
  go_ret
  exact ⟨rfl, rfl⟩
theorem phep_any (c : Nat) (w : World) (h : Ctx w c) : Calls Tryz.prog 163 #[.pointer (some ⟨c, 0, none⟩)] w fun e w' => e = .returned (.bool true) ∧ w = w' := by
  have hc := h.cell
  have H := Lib.hid h
  clear h
  go_enter Tryz.func163, Tryz.ntmps163
  go_wp2_with (first | (go_at_call 86; refine (plen_any _ _ H.out).mono ?_; rintro e w' ⟨rfl, rfl⟩) | (go_at_call 87; refine (pret_any _ _ _ H.out).mono ?_; rintro e w' ⟨rfl, rfl⟩))
  go_ret
  exact ⟨rfl, rfl⟩

theorem taStop (a : Addr) (w : World) : (Instr.typeAssert (.iface 269 (.pointer (some a))) 156 269 true).run Tryz.prog w = .ok (.tuple #[.pointer (some a), .bool true]) w := by kernel_rfl
theorem taNoStop {T : TypeId} (hT : T ∈ stTypes) (hn : T ≠ 269) (a : Addr) (w : World) : (Instr.typeAssert (.iface T (.pointer (some a))) 156 269 true).run Tryz.prog w = .ok (.tuple #[.pointer none, .bool false]) w := by
  unfold stTypes at hT
  simp only [List.mem_cons, List.not_mem_nil, or_false] at hT
  rcases hT with rfl | rfl | rfl | rfl | rfl | rfl | rfl | rfl | rfl | rfl | rfl | rfl
  all_goals first | (exact absurd rfl hn) | kernel_rfl

/-- A set, its elements told by what was added. -/
def SetD (B : Nat) (w : World) (u : SU) (adds : List Cf) : Prop := SetU B w u adds (ddC adds)

theorem ddC_len (l : List Cf) : (ddC l).length ≤ l.length := by
  have h : ∀ (l acc : List Cf), (l.foldl (fun acc x => if acc.any (fun y => y.h == x.h) then acc else acc ++ [x]) acc).length ≤ acc.length + l.length := by
    intro l
    induction l with
    | nil => intro acc; simp
    | cons x l ih =>
      intro acc
      rw [List.foldl_cons]
      refine Nat.le_trans (ih _) ?_
      split <;> simp <;> omega
  simpa [ddC] using h l []
theorem ddC_snoc (l : List Cf) (x : Cf) : ddC (l ++ [x]) = if (ddC l).any (fun y => y.h == x.h) then ddC l else ddC l ++ [x] := by
  simp [ddC, List.foldl_append]

theorem add_any (B : Nat) (w : World) (u : SU) (adds : List Cf) (hs : SetD B w u adds) (x : Cf) (hx : CfB w u x) (hl : (adds.length + 1) * 88 ≤ 140737488355328) :
    Calls Tryz.prog 165 #[.pointer (some ⟨u.sB, 0, none⟩), .pointer (some ⟨x.b, 0, none⟩), .pointer none] w fun e w' => e = .returned (.bool true) ∧ ∃ u', SetD B w' u' (adds ++ [x]) ∧ Fr w u w' u' ∧ u'.sB = u.sB := by
  unfold SetD at hs ⊢
  rw [ddC_snoc]
  by_cases h : (ddC adds).any (fun y => y.h == x.h) = true
  · rw [if_pos h]
    obtain ⟨y, hy, hyx⟩ := List.any_eq_true.mp h
    exact add_present B w u adds _ hs x hx y hy (by simpa using hyx) hl
  · rw [if_neg h]
    refine add_new B w u adds _ hs x hx ?_ hl (ddC_len _)
    cases hk : u.kvs.lookup x.h with
    | none => rfl
    | some v =>
      obtain ⟨y, hy, e⟩ := hs.only x.h (by rw [hk]; simp)
      exact absurd (List.any_eq_true.mpr ⟨y, hy, by simpa using e⟩) h
end Go.Proofs
end
