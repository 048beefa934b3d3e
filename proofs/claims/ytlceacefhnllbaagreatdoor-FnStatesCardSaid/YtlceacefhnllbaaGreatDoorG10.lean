/- A part of the proof of the statement on the law FnStates, which the last text proves: part G10. -/
import Derived.Defers
import Derived.Recover
import Derived.Test.YtlceacefhnllbaaGreatDoorG09
set_option linter.all false
section
namespace Go.Proofs
open Go.RowKit
open Pl
/-! ## the simulator's state while a token is matched -/
structure Fy (w : World) (g : GS) (w' : World) (g' : GS) : Prop where
  so : SO w w'
  size : w.heap.size ≤ w'.heap.size
  blk : ∀ k, k < w.heap.size → ¬ g.M k → w'.heap[k]? = w.heap[k]?
  sep : ∀ k, k < w.heap.size → ¬ g.M k → ¬ g'.M k
  ty : ∀ k τ, g.ty k = some τ → g'.ty k = some τ
  rt : g'.rt = g.rt
  dfa : g'.dfa = g.dfa
  asl : g.asked.length ≤ g'.asked.length
theorem Fm.y {w w' : World} {g g' : GS} (h : Fm w g w' g') : Fy w g w' g' := ⟨⟨h.so.os, h.so.out⟩, h.size, h.blk, h.sep, h.ty, h.rt, h.dfa, h.asl⟩
theorem Fy.refl (w : World) (g : GS) : Fy w g w g := (Fm.refl w g).y
theorem Fy.trans {a b c : World} {g h k : GS} (x : Fy a g b h) (y : Fy b h c k) : Fy a g c k where
  so := SO.trans x.so y.so
  size := Nat.le_trans x.size y.size
  blk := fun j hj hm => (y.blk j (Nat.lt_of_lt_of_le hj x.size) (x.sep j hj hm)).trans (x.blk j hj hm)
  sep := fun j hj hm => y.sep j (Nat.lt_of_lt_of_le hj x.size) (x.sep j hj hm)
  ty := fun j τ hj => y.ty j τ (x.ty j τ hj)
  rt := y.rt.trans x.rt
  dfa := y.dfa.trans x.dfa
  asl := Nat.le_trans x.asl y.asl
theorem Fy.root {w w' : World} (g : GS) (k : Kp (fun k => ¬ g.rt k) w w') : Fy w g w' g :=
  ⟨⟨k.so.os, k.so.out⟩, k.size, fun j hj hm => k.blk j hj (fun hr => hm (.inr (.inl hr))), fun _ _ h => h, fun _ _ h => h, rfl, rfl, Nat.le_refl _⟩

structure InQ where
  ib : Nat
  rb : Option Nat
  n : Nat
  c : Nat

structure InAt (w : World) (i : InQ) (pos : Nat) : Prop where
  blk : Blk w i.ib 128 #[.slice (i.rb.map fun b => ⟨b, 0, none⟩) i.n i.c, .int .i64 pos]
  row : ∀ k, k < i.n → ∃ rb cs r, i.rb = some rb ∧ Blk w rb 21 cs ∧ cs[k]? = some (.int .i32 r)
  le : pos ≤ i.n
  few : i.n ≤ 1000

structure PvAt (w : World) (g : GS) (pv : Nat) (pi pl pc : Int) (pd : Option Nat) : Prop where
  blk : Blk w pv 227 #[.int .i64 pi, .int .i64 pl, .int .i64 pc, .pointer (pd.map fun b => ⟨b, 0, none⟩)]
  pd : ∀ b, pd = some b → ∃ d, g.ty b = some (.proper d)

/-- The whole state. -/
structure MSt (B0 : Nat) (w : World) (N : Bd) (v : AV) (f : Nat) (g : GS) (q : SimQ) (i : InQ) (tt nr : Nat) (st pos : Nat) (pi pl pc : Int) (pd : Option Nat) : Prop where
  lx : LX B0 w N v f g
  env : Env B0 w N v g q tt nr
  inp : InAt w i pos
  inR : g.rt i.ib
  pv : PvAt w g q.prev pi pl pc pd
  pvR : g.rt q.prev
  si : q.si = (st : Int)
  sp : st ≤ pos
  pr : ∀ b, pd = some b → ∃ k : Nat, pi = (k : Int) ∧ st ≤ k ∧ k ≤ i.n

theorem not21 {B0 : Nat} {w : World} {N : Bd} {v : AV} {f : Nat} {g : GS} (hl : LX B0 w N v f g) {b : Nat} {cs : Array Value} (h : Blk w b 21 cs) : ¬ g.M b := by
  intro hm
  obtain ⟨⟨o, e1, e2⟩, _⟩ := hl.Mty _ hm
  have h1' : w.heap[b]? = some (.cells cs 21 (0, 0)) := h
  rw [h1'] at e1; cases e1
  rcases e2 with ⟨es, c, e⟩ | ⟨c, T, e, hT⟩
  · cases e
  · cases e; rcases hT with h | h | h | h | h | h | h | h | h <;> simp at h

theorem MSt.fm {B0 : Nat} {w w' : World} {N : Bd} {v : AV} {f : Nat} {g g' : GS} {q : SimQ} {i : InQ} {tt nr st pos : Nat} {pi pl pc : Int} {pd : Option Nat} (h : MSt B0 w N v f g q i tt nr st pos pi pl pc pd) (hl : LX B0 w' N v f g') (x : Fm w g w' g') :
    MSt B0 w' N v f g' q i tt nr st pos pi pl pc pd where
  lx := hl
  env := h.env.fm h.lx x
  inp := ⟨h.inp.blk.kept (x.rts _ h.inR h.inp.blk.lt), fun k hk => by
    obtain ⟨rb, cs, r, h1, h2, h3⟩ := h.inp.row k hk
    exact ⟨rb, cs, r, h1, h2.kept (x.blk _ h2.lt (not21 h.lx h2)), h3⟩, h.inp.le, h.inp.few⟩
  inR := by rw [x.rt]; exact h.inR
  pv := ⟨h.pv.blk.kept (x.rts _ h.pvR h.pv.blk.lt), fun b hb => by obtain ⟨d, hd⟩ := h.pv.pd b hb; exact ⟨d, x.ty _ _ hd⟩⟩
  pvR := by rw [x.rt]; exact h.pvR
  si := h.si
  sp := h.sp
  pr := h.pr
theorem MSt.drewN {B0 : Nat} {w : World} {N : Bd} {v : AV} {f : Nat} {g : GS} {q : SimQ} {i : InQ} {tt nr st pos : Nat} {pi pl pc : Int} {pd : Option Nat} (h : MSt B0 w N v f g q i tt nr st pos pi pl pc pd) (n : Nat) : MSt B0 (w.drewN n) N v f g q i tt nr st pos pi pl pc pd :=
  h.fm (h.lx.drewN n) (Fm.drewN w g n)

/-- The three roots' blocks are apart. -/
theorem MSt.ne {B0 : Nat} {w : World} {N : Bd} {v : AV} {f : Nat} {g : GS} {q : SimQ} {i : InQ} {tt nr st pos : Nat} {pi pl pc : Int} {pd : Option Nat} (h : MSt B0 w N v f g q i tt nr st pos pi pl pc pd) : q.sim ≠ q.prev ∧ q.sim ≠ i.ib ∧ q.prev ≠ i.ib := by
  have h1 := h.env.sim
  have h2 := h.pv.blk
  have h3 := h.inp.blk
  unfold Blk at h1 h2 h3
  refine ⟨fun e => ?_, fun e => ?_, fun e => ?_⟩
  · rw [e, h2] at h1; simp at h1
  · rw [e, h3] at h1; simp at h1
  · rw [e, h3] at h2; simp at h2

/-- A cell of the roots is set. -/
theorem MSt.kp {B0 : Nat} {w : World} {N : Bd} {v : AV} {f : Nat} {g : GS} (h : LX B0 w N v f g) {k : Nat} (hk : g.rt k) (j : Nat) (u : Value) : LX B0 (w.setCell ⟨k, j, none⟩ u) N v f g ∧ Kp (fun k => ¬ g.rt k) w (w.setCell ⟨k, j, none⟩ u) := by
  have kp : Kp (fun k => ¬ g.rt k) w (w.setCell ⟨k, j, none⟩ u) := Kp.setCell _ _ _ (by simpa using hk)
  refine ⟨h.root kp (fun i hi => ?_), kp⟩
  by_cases e : i = k
  · subst e; exact (h.rtT i hi).setCell j u
  · exact (h.rtT i hi).kept (heap_setCell_other _ _ _ _ e)

theorem InAt.other {w w' : World} {i : InQ} {pos : Nat} (h : InAt w i pos) (e1 : w'.heap[i.ib]? = w.heap[i.ib]?) (e2 : ∀ b cs, Blk w b 21 cs → w'.heap[b]? = w.heap[b]?) : InAt w' i pos :=
  ⟨h.blk.kept e1, fun k hk => by obtain ⟨rb, cs, r, h1, h2, h3⟩ := h.row k hk; exact ⟨rb, cs, r, h1, h2.kept (e2 _ _ h2), h3⟩, h.le, h.few⟩

theorem blk21 {w : World} {k b : Nat} {T : TypeId} {c cs : Array Value} (h : Blk w k T c) (hT : T ≠ 21) (hb : Blk w b 21 cs) : b ≠ k := by
  intro e
  subst e
  unfold Blk at h hb
  rw [h] at hb
  simp at hb
  exact hT hb.2

/-- The simulator's own block is set. -/
theorem MSt.setSim {B0 : Nat} {w : World} {N : Bd} {v : AV} {f : Nat} {g : GS} {q : SimQ} {i : InQ} {tt nr st pos : Nat} {pi pl pc : Int} {pd : Option Nat} (h : MSt B0 w N v f g q i tt nr st pos pi pl pc pd) (j : Nat) (u : Value) (q' : SimQ)
    (e1 : (simK q).setIfInBounds j u = simK q') (e2 : q'.sim = q.sim) (e3 : q'.ab = q.ab) (e4 : q'.dr = q.dr) (e5 : q'.nd = q.nd) (e6 : q'.prev = q.prev) (st' : Nat) (e7 : q'.si = (st' : Int)) (hs : st' ≤ pos) (hp : ∀ b, pd = some b → ∃ k : Nat, pi = (k : Int) ∧ st' ≤ k ∧ k ≤ i.n) :
    MSt B0 (w.setCell ⟨q.sim, j, none⟩ u) N v f g q' i tt nr st' pos pi pl pc pd ∧ Fy w g (w.setCell ⟨q.sim, j, none⟩ u) g := by
  obtain ⟨l1, k1⟩ := MSt.kp h.lx h.env.simR j u
  obtain ⟨n1, n2, n3⟩ := h.ne
  have far : ∀ k, k ≠ q.sim → (w.setCell ⟨q.sim, j, none⟩ u).heap[k]? = w.heap[k]? := fun k hk => heap_setCell_other _ _ _ _ hk
  obtain ⟨cs, d1, d2⟩ := h.env.dr
  have hdr : q.dr ≠ q.sim := by
    intro e
    have a := h.env.sim
    unfold Blk at a d1
    rw [e, a] at d1
    simp at d1
  exact ⟨{ lx := l1
           env := { sim := by rw [e2]; exact h.env.sim.set j u _ e1, simR := by rw [e2]; exact h.env.simR, dr := ⟨cs, by rw [e4]; exact d1.kept (far _ hdr), d2⟩, nd := by rw [e5]; exact h.env.nd, atf := by rw [e3]; exact h.env.atf.kept (k1.weak (fun k hk hr => absurd (h.lx.low k (.inr (.inl hr))) (by omega))) }
           inp := h.inp.other (far _ (Ne.symm n2)) (fun b cs hb => far _ (blk21 h.env.sim (by decide) hb))
           inR := h.inR
           pv := ⟨by rw [e6]; exact h.pv.blk.kept (far _ (Ne.symm n1)), h.pv.pd⟩
           pvR := by rw [e6]; exact h.pvR
           si := e7
           sp := hs
           pr := hp }, Fy.root g k1⟩

/-- The accepted state's block is set. -/
theorem MSt.setPv {B0 : Nat} {w : World} {N : Bd} {v : AV} {f : Nat} {g : GS} {q : SimQ} {i : InQ} {tt nr st pos : Nat} {pi pl pc : Int} {pd : Option Nat} (h : MSt B0 w N v f g q i tt nr st pos pi pl pc pd) (pi' pl' pc' : Int) (pd' : Option Nat)
    (h1 : ∀ b, pd' = some b → ∃ d, g.ty b = some (.proper d)) (h2 : ∀ b, pd' = some b → ∃ k : Nat, pi' = (k : Int) ∧ st ≤ k ∧ k ≤ i.n) :
    MSt B0 ((((w.setCell ⟨q.prev, 0, none⟩ (.int .i64 pi')).setCell ⟨q.prev, 1, none⟩ (.int .i64 pl')).setCell ⟨q.prev, 2, none⟩ (.int .i64 pc')).setCell ⟨q.prev, 3, none⟩ (.pointer (pd'.map fun b => ⟨b, 0, none⟩))) N v f g q i tt nr st pos pi' pl' pc' pd' ∧
    Fy w g ((((w.setCell ⟨q.prev, 0, none⟩ (.int .i64 pi')).setCell ⟨q.prev, 1, none⟩ (.int .i64 pl')).setCell ⟨q.prev, 2, none⟩ (.int .i64 pc')).setCell ⟨q.prev, 3, none⟩ (.pointer (pd'.map fun b => ⟨b, 0, none⟩))) g := by
  obtain ⟨l1, k1⟩ := MSt.kp h.lx h.pvR 0 (.int .i64 pi')
  obtain ⟨l2, k2⟩ := MSt.kp l1 h.pvR 1 (.int .i64 pl')
  obtain ⟨l3, k3⟩ := MSt.kp l2 h.pvR 2 (.int .i64 pc')
  obtain ⟨l4, k4⟩ := MSt.kp l3 h.pvR 3 (.pointer (pd'.map fun b => ⟨b, 0, none⟩))
  have kk := ((k1.trans k2).trans k3).trans k4
  have bb := (((h.pv.blk.set 0 (.int .i64 pi') _ rfl).set 1 (.int .i64 pl') _ rfl).set 2 (.int .i64 pc') _ rfl).set 3 (.pointer (pd'.map fun b => ⟨b, 0, none⟩)) #[.int .i64 pi', .int .i64 pl', .int .i64 pc', .pointer (pd'.map fun b => ⟨b, 0, none⟩)] (by simp)
  have far : ∀ k, k ≠ q.prev → ((((w.setCell ⟨q.prev, 0, none⟩ (.int .i64 pi')).setCell ⟨q.prev, 1, none⟩ (.int .i64 pl')).setCell ⟨q.prev, 2, none⟩ (.int .i64 pc')).setCell ⟨q.prev, 3, none⟩ (.pointer (pd'.map fun b => ⟨b, 0, none⟩))).heap[k]? = w.heap[k]? := fun k hk => by
    rw [heap_setCell_other _ _ _ _ hk, heap_setCell_other _ _ _ _ hk, heap_setCell_other _ _ _ _ hk, heap_setCell_other _ _ _ _ hk]
  generalize (((w.setCell ⟨q.prev, 0, none⟩ (.int .i64 pi')).setCell ⟨q.prev, 1, none⟩ (.int .i64 pl')).setCell ⟨q.prev, 2, none⟩ (.int .i64 pc')).setCell ⟨q.prev, 3, none⟩ (.pointer (pd'.map fun b => ⟨b, 0, none⟩)) = w' at l4 kk bb far ⊢
  obtain ⟨n1, n2, n3⟩ := h.ne
  obtain ⟨cs, d1, d2⟩ := h.env.dr
  have hdr : q.dr ≠ q.prev := by
    intro e
    have a := h.pv.blk
    unfold Blk at a d1
    rw [e, a] at d1
    simp at d1
  exact ⟨{ lx := l4
           env := { sim := h.env.sim.kept (far _ n1), simR := h.env.simR, dr := ⟨cs, d1.kept (far _ hdr), d2⟩, nd := h.env.nd, atf := h.env.atf.kept (kk.weak (fun k hk hr => absurd (h.lx.low k (.inr (.inl hr))) (by omega))) }
           inp := h.inp.other (far _ (Ne.symm n3)) (fun b cs hb => far _ (blk21 h.pv.blk (by decide) hb))
           inR := h.inR
           pv := ⟨bb, h1⟩
           pvR := h.pvR
           si := h.si
           sp := h.sp
           pr := h2 }, Fy.root g kk⟩

/-- The place in the text is set. -/
theorem MSt.setIn {B0 : Nat} {w : World} {N : Bd} {v : AV} {f : Nat} {g : GS} {q : SimQ} {i : InQ} {tt nr st pos : Nat} {pi pl pc : Int} {pd : Option Nat} (h : MSt B0 w N v f g q i tt nr st pos pi pl pc pd) (pos' : Nat) (h1 : pos' ≤ i.n) (h2 : st ≤ pos') :
    MSt B0 (w.setCell ⟨i.ib, 1, none⟩ (.int .i64 pos')) N v f g q i tt nr st pos' pi pl pc pd ∧ Fy w g (w.setCell ⟨i.ib, 1, none⟩ (.int .i64 pos')) g := by
  obtain ⟨l1, k1⟩ := MSt.kp h.lx h.inR 1 (.int .i64 pos')
  obtain ⟨n1, n2, n3⟩ := h.ne
  have far : ∀ k, k ≠ i.ib → (w.setCell ⟨i.ib, 1, none⟩ (.int .i64 pos')).heap[k]? = w.heap[k]? := fun k hk => heap_setCell_other _ _ _ _ hk
  obtain ⟨cs, d1, d2⟩ := h.env.dr
  have hdr : q.dr ≠ i.ib := by
    intro e
    have a := h.inp.blk
    unfold Blk at a d1
    rw [e, a] at d1
    simp at d1
  exact ⟨{ lx := l1
           env := { sim := h.env.sim.kept (far _ n2), simR := h.env.simR, dr := ⟨cs, d1.kept (far _ hdr), d2⟩, nd := h.env.nd, atf := h.env.atf.kept (k1.weak (fun k hk hr => absurd (h.lx.low k (.inr (.inl hr))) (by omega))) }
           inp := ⟨h.inp.blk.set 1 _ _ (by simp), fun k hk => by obtain ⟨rb, cs, r, e1, e2, e3⟩ := h.inp.row k hk; exact ⟨rb, cs, r, e1, e2.kept (far _ (blk21 h.inp.blk (by decide) e2)), e3⟩, h1, h.inp.few⟩
           inR := h.inR
           pv := ⟨h.pv.blk.kept (far _ n3), h.pv.pd⟩
           pvR := h.pvR
           si := h.si
           sp := h2
           pr := h.pr }, Fy.root g k1⟩
end Go.Proofs
end
section
namespace Go.Proofs
open Go.RowKit
open Pl
theorem dLA (a : Addr) (w : World) : (method 715 126 (.pointer (some a)) "LA").run Tryz.prog w = .ok (262, .pointer (some a)) w := by kernel_rfl
theorem dIndex (a : Addr) (w : World) : (method 715 126 (.pointer (some a)) "Index").run Tryz.prog w = .ok (37, .pointer (some a)) w := by kernel_rfl
theorem dCons (a : Addr) (w : World) : (method 715 126 (.pointer (some a)) "Consume").run Tryz.prog w = .ok (261, .pointer (some a)) w := by kernel_rfl
theorem dSeek (a : Addr) (w : World) : (method 715 126 (.pointer (some a)) "Seek").run Tryz.prog w = .ok (265, .pointer (some a)) w := by kernel_rfl
theorem dMark (a : Addr) (w : World) : (method 715 126 (.pointer (some a)) "Mark").run Tryz.prog w = .ok (263, .pointer (some a)) w := by kernel_rfl
theorem dRel (a : Addr) (w : World) : (method 715 126 (.pointer (some a)) "Release").run Tryz.prog w = .ok (264, .pointer (some a)) w := by kernel_rfl

/-- The next character, or the end. -/
def LaRet (i : InQ) (pos : Nat) (e : Ending) : Prop := ∃ t : Int, e = .returned (.int .i64 t) ∧ (t ≠ -1 → pos < i.n)

set_option maxRecDepth 100000 in
set_option maxHeartbeats 1000000 in
theorem la_any (w : World) (i : InQ) (pos : Nat) (h : InAt w i pos) : Calls Tryz.prog 262 #[.pointer (some ⟨i.ib, 0, none⟩), .int .i64 1] w fun e w' => LaRet i pos e ∧ w = w' := by
  have hc := h.blk.cell
  have hle := h.le
  have hfew := h.few
  by_cases hlt : pos < i.n
  · obtain ⟨rb, cs, r, h1, h2, h3⟩ := h.row pos hlt
    have hr : w.cell? ⟨rb, pos, none⟩ = some (.int .i32 r) := (h2.cell pos).trans h3
    rw [h1] at hc
    simp only [Option.map_some] at hc
    clear h h1 h2 h3
    go_enter Tryz.func262, Tryz.ntmps262
    go_wp2
    go_ret
    exact ⟨⟨_, rfl, fun _ => hlt⟩, rfl⟩
  · obtain rfl : pos = i.n := by omega
    clear h hlt
    go_enter Tryz.func262, Tryz.ntmps262
    go_wp2
    go_ret
    exact ⟨⟨-1, by simp, fun h => absurd rfl h⟩, rfl⟩

theorem cons1_any (w : World) (i : InQ) (pos : Nat) (h : InAt w i pos) : Calls Tryz.prog 261 #[.pointer (some ⟨i.ib, 0, none⟩)] w fun e w' => e = .returned (.tuple #[]) ∧ w.setCell ⟨i.ib, 1, none⟩ (.int .i64 ((pos + 1 : Nat) : Int)) = w' := by
  have hc := h.blk.cell
  have hf := h.blk.free
  have hle := h.le
  have hfew := h.few
  clear h
  go_enter Tryz.func261, Tryz.ntmps261
  go_wp2
  go_end0
  exact ⟨rfl, by simp⟩

/-- The same simulator, but for where it stands. -/
def SimQ.at_ (q : SimQ) (ln cp : Int) : SimQ := { q with ln := ln, cp := cp }

set_option maxRecDepth 100000 in
set_option maxHeartbeats 1000000 in
theorem consume_any {B0 : Nat} {w : World} {N : Bd} {v : AV} {f : Nat} {g : GS} {q : SimQ} {i : InQ} {tt nr st pos : Nat} {pi pl pc : Int} {pd : Option Nat} (h : MSt B0 w N v f g q i tt nr st pos pi pl pc pd) (hlt : pos < i.n) :
    Calls Tryz.prog 83 #[.pointer (some ⟨q.sim, 0, none⟩), .iface 126 (.pointer (some ⟨i.ib, 0, none⟩))] w fun e w' => e = .returned (.tuple #[]) ∧ ∃ ln cp, MSt B0 w' N v f g (q.at_ ln cp) i tt nr st (pos + 1) pi pl pc pd ∧ Fy w g w' g := by
  have d1 := fun a w => dLA a w
  have d2 := fun a w => dCons a w
  have hc := h.env.sim.cell
  have hf := h.env.sim.free
  simp only [simK] at hc
  have H := Lib.hid h
  clear h
  go_enter Tryz.func83, Tryz.ntmps83
  go_upto_if 8 with (first | (go_at_call 262; refine (la_any w i pos H.out.inp).mono ?_; rintro e w' ⟨⟨t, rfl, _⟩, rfl⟩))
  by_cases ht : t = 10
  · subst ht
    obtain ⟨m1, y1⟩ := H.out.setSim 7 (.int .i64 (wrap64 (q.ln + 1))) (q.at_ (wrap64 (q.ln + 1)) q.cp) (by simp [simK, SimQ.at_]) rfl rfl rfl rfl rfl st H.out.si H.out.sp H.out.pr
    obtain ⟨m2, y2⟩ := m1.setSim 8 (.int .i64 0) (q.at_ (wrap64 (q.ln + 1)) 0) (by simp [simK, SimQ.at_]) rfl rfl rfl rfl rfl st m1.si m1.sp m1.pr
    have e2 : (q.at_ (wrap64 (q.ln + 1)) q.cp).sim = q.sim := rfl
    rw [e2] at m2 y2
    have M2 := Lib.hid m2
    have Y2 := Lib.hid (y1.trans y2)
    clear m1 y1 m2 y2 e2
    go_wp2_with (first | (go_at_call 261; refine (cons1_any _ i pos M2.out.inp).mono ?_; rintro e w' ⟨rfl, rfl⟩))
    go_end0
    obtain ⟨m3, y3⟩ := M2.out.setIn (pos + 1) (by omega) (by have := M2.out.sp; omega)
    exact ⟨rfl, _, _, m3, Y2.out.trans y3⟩
  · have hb : (t == 10) = false := by simpa using ht
    obtain ⟨m2, y2⟩ := H.out.setSim 8 (.int .i64 (wrap64 (q.cp + 1))) (q.at_ q.ln (wrap64 (q.cp + 1))) (by simp [simK, SimQ.at_]) rfl rfl rfl rfl rfl st H.out.si H.out.sp H.out.pr
    have M2 := Lib.hid m2
    have Y2 := Lib.hid y2
    clear m2 y2 ht
    go_wp2_with (first | (go_at_call 261; refine (cons1_any _ i pos M2.out.inp).mono ?_; rintro e w' ⟨rfl, rfl⟩))
    go_end0
    obtain ⟨m3, y3⟩ := M2.out.setIn (pos + 1) (by omega) (by have := M2.out.sp; omega)
    exact ⟨rfl, _, _, m3, Y2.out.trans y3⟩

set_option maxRecDepth 100000 in
set_option maxHeartbeats 1000000 in
theorem capture_any {B0 : Nat} {w : World} {N : Bd} {v : AV} {f : Nat} {g : GS} {q : SimQ} {i : InQ} {tt nr st pos : Nat} {pi pl pc : Int} {pd : Option Nat} (h : MSt B0 w N v f g q i tt nr st pos pi pl pc pd) (d : DS) (hd : g.ty d.b = some (.proper d)) :
    Calls Tryz.prog 79 #[.pointer (some ⟨q.sim, 0, none⟩), .pointer (some ⟨q.prev, 0, none⟩), .iface 126 (.pointer (some ⟨i.ib, 0, none⟩)), d.ptr] w fun e w' => e = .returned (.tuple #[]) ∧ MSt B0 w' N v f g q i tt nr st pos pos q.ln q.cp (some d.b) ∧ Fy w g w' g := by
  have d1 := fun a w => dIndex a w
  have hc := h.env.sim.cell
  have hp := h.pv.blk.cell
  have hpf := h.pv.blk.free
  have hi := h.inp.blk.cell
  simp only [simK] at hc
  have hn1 := h.ne.1
  have SP := Lib.hid (h.setPv pos q.ln q.cp (some d.b) (fun b hb => by cases hb; exact ⟨d, hd⟩) (fun b hb => by cases hb; exact ⟨pos, rfl, h.sp, h.inp.le⟩))
  unfold DS.ptr
  clear h hd
  go_enter Tryz.func79, Tryz.ntmps79
  go_wp2_with (first | (go_at_call 37; refine (gIdx _ _ _ (by go_simp; first | done | rfl)).mono ?_; rintro e w' ⟨rfl, rfl⟩))
  go_end0
  exact ⟨rfl, SP.out.1, SP.out.2⟩

theorem imin_any (a b : Int) (h : a ≤ b) (w : World) : Calls Tryz.prog 180 #[.int .i64 a, .int .i64 b] w fun e w' => e = .returned (.int .i64 a) ∧ w = w' := by
  by_cases hlt : a < b
  · go_enter Tryz.func180, Tryz.ntmps180
    go_wp2
    go_ret
    exact ⟨rfl, rfl⟩
  · obtain rfl : a = b := by omega
    go_enter Tryz.func180, Tryz.ntmps180
    go_wp2
    go_ret
    exact ⟨rfl, rfl⟩

theorem seek_any (w : World) (i : InQ) (pos k : Nat) (h : InAt w i pos) (hk : k ≤ i.n) : Calls Tryz.prog 265 #[.pointer (some ⟨i.ib, 0, none⟩), .int .i64 (k : Int)] w fun e w' => e = .returned (.tuple #[]) ∧ w.setCell ⟨i.ib, 1, none⟩ (.int .i64 (k : Int)) = w' := by
  have hc := h.blk.cell
  have hf := h.blk.free
  have hfew := h.few
  have hkk : (k : Int) ≤ (i.n : Int) := by omega
  clear h
  go_enter Tryz.func265, Tryz.ntmps265
  go_wp2_with (first | (go_at_call 180; refine (imin_any _ _ hkk _).mono ?_; rintro e w' ⟨rfl, rfl⟩))
  go_end0
  exact ⟨rfl, rfl⟩

set_option maxRecDepth 100000 in
set_option maxHeartbeats 1000000 in
theorem accept_any {B0 : Nat} {w : World} {N : Bd} {v : AV} {f : Nat} {g : GS} {q : SimQ} {i : InQ} {tt nr st pos : Nat} {pi pl pc : Int} {pd : Option Nat} (h : MSt B0 w N v f g q i tt nr st pos pi pl pc pd) (s ln cp : Int) (k : Nat) (hk : k ≤ i.n) (hs : st ≤ k) :
    Calls Tryz.prog 124 #[.pointer (some ⟨q.sim, 0, none⟩), .iface 126 (.pointer (some ⟨i.ib, 0, none⟩)), .pointer none, .int .i64 s, .int .i64 (k : Int), .int .i64 ln, .int .i64 cp] w fun e w' => e = .returned (.tuple #[]) ∧ MSt B0 w' N v f g (q.at_ ln cp) i tt nr st k pi pl pc pd ∧ Fy w g w' g := by
  have d1 := fun a w => dSeek a w
  have n1 : ∀ w, (binOp .neq 149 (.pointer none) (.pointer none)).run Tryz.prog w = .ok (.bool false) w := fun w => by kernel_rfl
  obtain ⟨m1, y1⟩ := h.setIn k hk hs
  have hc := m1.env.sim.cell
  have hf := m1.env.sim.free
  simp only [simK] at hc
  obtain ⟨m2, y2⟩ := m1.setSim 7 (.int .i64 ln) (q.at_ ln q.cp) (by simp [simK, SimQ.at_]) rfl rfl rfl rfl rfl st m1.si m1.sp m1.pr
  obtain ⟨m3, y3⟩ := m2.setSim 8 (.int .i64 cp) (q.at_ ln cp) (by simp [simK, SimQ.at_]) rfl rfl rfl rfl rfl st m2.si m2.sp m2.pr
  have e2 : (q.at_ ln q.cp).sim = q.sim := rfl
  rw [e2] at m3 y3
  have HI := Lib.hid h.inp
  generalize hw1 : w.setCell ⟨i.ib, 1, none⟩ (.int .i64 (k : Int)) = w1 at m3 y1 y2 y3 hc hf
  have M3 := Lib.hid m3
  have Y3 := Lib.hid ((y1.trans y2).trans y3)
  replace hw1 := Lib.hid hw1
  clear m1 m2 m3 y1 y2 y3 h e2
  go_enter Tryz.func124, Tryz.ntmps124
  go_wp2_with (first | (go_at_call 265; refine (seek_any w i pos k HI.out hk).mono ?_; rintro e w' ⟨rfl, rfl⟩; rw [hw1.out]))
  go_end0
  exact ⟨rfl, M3.out, Y3.out⟩

theorem rst_any (b : Nat) (c : Array Value) (w : World) (h : Blk w b 227 c) (h4 : c.size = 4) : Calls Tryz.prog 76 #[.pointer (some ⟨b, 0, none⟩)] w fun e w' => e = .returned (.tuple #[]) ∧
    (((w.setCell ⟨b, 0, none⟩ (.int .i64 (-1))).setCell ⟨b, 1, none⟩ (.int .i64 0)).setCell ⟨b, 2, none⟩ (.int .i64 (-1))).setCell ⟨b, 3, none⟩ (.pointer none) = w' := by
  have hp := h.cell
  have hpf := h.free
  obtain ⟨v0, v1, v2, v3, rfl⟩ : ∃ v0 v1 v2 v3, c = #[v0, v1, v2, v3] := by
    match c, h4 with
    | ⟨[v0, v1, v2, v3]⟩, _ => exact ⟨v0, v1, v2, v3, rfl⟩
  clear h h4
  go_enter Tryz.func76, Tryz.ntmps76
  go_wp2
  go_end0
  exact ⟨rfl, rfl⟩

set_option maxRecDepth 100000 in
theorem reset_any {B0 : Nat} {w : World} {N : Bd} {v : AV} {f : Nat} {g : GS} {q : SimQ} {i : InQ} {tt nr st pos : Nat} {pi pl pc : Int} {pd : Option Nat} (h : MSt B0 w N v f g q i tt nr st pos pi pl pc pd) :
    Calls Tryz.prog 51 #[.pointer (some ⟨q.prev, 0, none⟩)] w fun e w' => e = .returned (.tuple #[]) ∧ MSt B0 w' N v f g q i tt nr st pos (-1) 0 (-1) none ∧ Fy w g w' g := by
  have HB := Lib.hid h.pv.blk
  have SP := Lib.hid (h.setPv (-1) 0 (-1) none (fun b hb => by cases hb) (fun b hb => by cases hb))
  clear h
  go_enter Tryz.func51, Tryz.ntmps51
  go_wp2_with (first | (go_at_call 76; refine (rst_any _ _ _ HB.out rfl).mono ?_; rintro e w' ⟨rfl, rfl⟩))
  go_end0
  exact ⟨rfl, SP.out.1, SP.out.2⟩
end Go.Proofs
end
section
namespace Go.Proofs
open Go.RowKit
open Pl
/-- What the end of a match leaves: a token, or a panic that tells where it began. -/
def FoRet (B0 : Nat) (w0 : World) (N : Bd) (v : AV) (f : Nat) (g0 g : GS) (q : SimQ) (i : InQ) (tt nr st : Nat) (e : Ending) (w' : World) : Prop :=
  Fy w0 g0 w' g ∧ ((∃ (k ln cp : Int) (pos : Nat) (pi pl pc : Int) (pd : Option Nat), e = .returned (.int .i64 k) ∧ MSt B0 w' N v f g (q.at_ ln cp) i tt nr st pos pi pl pc pd) ∨
    (∃ (b : Nat) (x ln cp : Int) (pos : Nat) (pi pl pc : Int) (pd : Option Nat), e = .panicked [{ v := .iface 129 (.pointer (some ⟨b, 0, none⟩)), recovered := false }] ∧ Blk w' b 132 #[.int .i64 st, .int .i64 x] ∧ MSt B0 w' N v f g (q.at_ ln cp) i tt nr st pos pi pl pc pd))

theorem LX.pred {B0 : Nat} {w : World} {N : Bd} {v : AV} {f : Nat} {g : GS} (h : LX B0 w N v f g) {b : Nat} {d : DS} (hd : g.ty b = some (.proper d)) : ∃ pr : Int, w.cell? ⟨b, 4, none⟩ = some (.int .i64 pr) := by
  obtain ⟨hdb, _, sn, ed, ac, pr, ch, lk, ro, hev, DD⟩ := h.dst hd
  exact ⟨pr, by rw [← hdb]; exact DD.blk.cell 4⟩
theorem MSt.c3 {B0 : Nat} {w : World} {N : Bd} {v : AV} {f : Nat} {g : GS} {q : SimQ} {i : InQ} {tt nr st pos : Nat} {pi pl pc : Int} {pd : Option Nat} (h : MSt B0 w N v f g q i tt nr st pos pi pl pc pd) (p : Nat) (hp : q.prev = p) : w.cell? ⟨p, 3, none⟩ = some (.pointer (pd.map fun b => ⟨b, 0, none⟩)) := by
  subst hp
  exact h.pv.blk.cell 3
theorem SimQ.at_self (q : SimQ) : q.at_ q.ln q.cp = q := rfl
theorem neDp_none (w : World) : (binOp .neq 139 (.pointer none) (.pointer none)).run Tryz.prog w = .ok (.bool false) w := by kernel_rfl

set_option maxRecDepth 100000 in
set_option maxHeartbeats 2000000 in
theorem foa_any {B0 : Nat} {w : World} {N : Bd} {v : AV} {f : Nat} {g : GS} {q : SimQ} {i : InQ} {tt nr st pos : Nat} {pi pl pc : Int} {pd : Option Nat} (h : MSt B0 w N v f g q i tt nr st pos pi pl pc pd) (cv : Value) (t : Int) :
    Calls Tryz.prog 84 #[.pointer (some ⟨q.sim, 0, none⟩), .pointer (some ⟨q.prev, 0, none⟩), .iface 126 (.pointer (some ⟨i.ib, 0, none⟩)), cv, .int .i64 t] w fun e w' => FoRet B0 w N v f g g q i tt nr st e w' := by
  have d1 := fun a w => dIndex a w
  have n1 := fun a w => neD_nil a w
  have n2 := fun w => neDp_none w
  have hc := h.env.sim.cell
  have hp := h.pv.blk.cell
  have hi := h.inp.blk.cell
  have hsi := h.si
  simp only [simK] at hc
  rw [hsi] at hc
  have H := Lib.hid h
  have HSI := Lib.hid hsi
  clear h hsi
  cases pd with
  | some b =>
    obtain ⟨d, hd⟩ := H.out.pv.pd b rfl
    obtain ⟨hdb, _, sn, ed, ac, pr, ch, lk, ro, hev, DD⟩ := H.out.lx.dst hd
    obtain ⟨k, hk, hk1, hk2⟩ := H.out.pr b rfl
    rw [hk] at hp
    have b5 : w.cell? ⟨b, 5, none⟩ = some (.pointer none) := by rw [← hdb]; exact DD.blk.cell 5
    simp only [Option.map_some] at hp
    have HD := Lib.hid hd
    have HDB := Lib.hid hdb
    have HK := Lib.hid hk
    clear DD hev hdb hd hk
    go_enter Tryz.func84, Tryz.ntmps84
    go_wp2_with fail
    go_still_tail 19, (by kernel_rfl)
    change wpList _ _ _ _ _ w.drew
    have HA : Hid (Calls Tryz.prog 124 #[.pointer (some ⟨q.sim, 0, none⟩), .iface 126 (.pointer (some ⟨i.ib, 0, none⟩)), .pointer none, .int .i64 st, .int .i64 (k : Int), .int .i64 pl, .int .i64 pc] w.drew fun e w' => e = .returned (.tuple #[]) ∧ MSt B0 w' N v f g (q.at_ pl pc) i tt nr st k k pl pc (some b) ∧ Fy w.drew g w' g) := by
      have := accept_any (H.out.drewN 1) st pl pc k hk2 hk1
      rw [HK.out] at this
      exact Lib.hid this
    go_wp2_with (first | (go_at_call 124; refine HA.out.mono ?_; rintro e w2 ⟨rfl, m2, y2⟩; have c3 := m2.c3 q.prev rfl; simp only [Option.map_some] at c3; obtain ⟨pr2, c4⟩ := m2.lx.pred HD.out; have M2 := Lib.hid m2; have Y2 := Lib.hid y2; clear m2 y2))
    go_ret
    exact ⟨(Fm.drewN w g 1).y.trans Y2.out, .inl ⟨pr2, pl, pc, k, k, pl, pc, some b, by simp, M2.out⟩⟩
  | none =>
    simp only [Option.map_none] at hp
    by_cases ht : t = -1
    · subst ht
      go_enter Tryz.func84, Tryz.ntmps84
      go_wp2_with fail
      go_quiet ((go_at_call 37; exact Calls.quietS (gIdx _ _ _ (by go_simp; first | done | rfl))))
      have HQ := Lib.hid (H.out.drewN nq)
      have YQ := Lib.hid (Fm.drewN w g nq).y
      clear hc hp hi
      generalize w.drewN nq = wq at HQ YQ ⊢
      have hc := HQ.out.env.sim.cell
      have hi := HQ.out.inp.blk.cell
      simp only [simK] at hc
      rw [HSI.out] at hc
      by_cases hps : pos = st
      · subst hps
        go_wp2_with fail
        go_ret
        exact ⟨YQ.out, .inl ⟨-1, q.ln, q.cp, pos, pi, pl, pc, none, by simp, by rw [SimQ.at_self]; exact HQ.out⟩⟩
      · have hb1 : ((pos : Int) == (st : Int)) = false := by simpa using fun e => hps (by omega)
        have hb2 : (pos == st) = false := by simpa using hps
        go_wp2_with fail
        go_still_tail 6, (by kernel_rfl)
        change wpStill _ _ wq.drew _ _ _
        still_call ((gIdx _ _ wq.drew (by go_simp; first | done | rfl)).mono fun _ _ h => ⟨h.1, h.2.symm⟩)
        repeat still_step
        try refine wpStill_nil ?_
        change wpList _ _ _ _ _ wq.drew
        go_wp2
        have kd : Kp (fun _ => True) wq (wq.alloc (.cells #[.int .i64 st, .int .i64 pos] 132)).drew := (Kp.alloc wq _).trans (Kp.drew _)
        refine ⟨rfl, YQ.out.trans (Fm.all g kd).y, .inr ⟨wq.heap.size, pos, q.ln, q.cp, pos, pi, pl, pc, none, rfl, ?_, ?_⟩⟩
        · exact Blk.drewN (n := 1) (Blk.new wq 132 _)
        · rw [SimQ.at_self]; exact HQ.out.fm (HQ.out.lx.all kd) (Fm.all g kd)
    · have htb : (t == -1) = false := by simpa using ht
      go_enter Tryz.func84, Tryz.ntmps84
      go_wp2_with fail
      go_quiet (fail)
      have HQ := Lib.hid (H.out.drewN nq)
      have YQ := Lib.hid (Fm.drewN w g nq).y
      clear hc hp hi
      generalize w.drewN nq = wq at HQ YQ ⊢
      have hc := HQ.out.env.sim.cell
      have hi := HQ.out.inp.blk.cell
      simp only [simK] at hc
      rw [HSI.out] at hc
      go_wp2_with fail
      go_still_tail 6, (by kernel_rfl)
      change wpStill _ _ wq.drew _ _ _
      still_call ((gIdx _ _ wq.drew (by go_simp; first | done | rfl)).mono fun _ _ h => ⟨h.1, h.2.symm⟩)
      repeat still_step
      try refine wpStill_nil ?_
      change wpList _ _ _ _ _ wq.drew
      go_wp2
      have kd : Kp (fun _ => True) wq (wq.alloc (.cells #[.int .i64 st, .int .i64 pos] 132)).drew := (Kp.alloc wq _).trans (Kp.drew _)
      refine ⟨rfl, YQ.out.trans (Fm.all g kd).y, .inr ⟨wq.heap.size, pos, q.ln, q.cp, pos, pi, pl, pc, none, rfl, ?_, ?_⟩⟩
      · exact Blk.drewN (n := 1) (Blk.new wq 132 _)
      · rw [SimQ.at_self]; exact HQ.out.fm (HQ.out.lx.all kd) (Fm.all g kd)
end Go.Proofs
end
section
namespace Go.Proofs
open Go.RowKit
open Pl
/-- The place in the text, as memory holds it. -/
def posOf (w : World) (ib : Nat) : Nat := match w.cell? ⟨ib, 1, none⟩ with
  | some (.int _ n) => n.toNat
  | _ => 0
theorem MSt.posOf {B0 : Nat} {w : World} {N : Bd} {v : AV} {f : Nat} {g : GS} {q : SimQ} {i : InQ} {tt nr st pos : Nat} {pi pl pc : Int} {pd : Option Nat} (h : MSt B0 w N v f g q i tt nr st pos pi pl pc pd) : Proofs.posOf w i.ib = pos := by
  have : w.cell? ⟨i.ib, 1, none⟩ = some (.int .i64 (pos : Int)) := h.inp.blk.cell 1
  unfold Proofs.posOf
  rw [this]; simp

theorem LX.cfgs {B0 : Nat} {w : World} {N : Bd} {v : AV} {f : Nat} {g : GS} (h : LX B0 w N v f g) {b : Nat} {d : DS} (hd : g.ty b = some (.proper d)) : ∃ cb : Nat, w.cell? ⟨b, 1, none⟩ = some (.pointer (some ⟨cb, 0, none⟩)) := by
  obtain ⟨hdb, _, sn, ed, ac, pr, ch, lk, ro, hev, DD⟩ := h.dst hd
  exact ⟨d.cb, by rw [← hdb]; exact DD.blk.cell 1⟩
theorem LX.acc {B0 : Nat} {w : World} {N : Bd} {v : AV} {f : Nat} {g : GS} (h : LX B0 w N v f g) {b : Nat} {d : DS} (hd : g.ty b = some (.proper d)) : ∃ ac : Bool, w.cell? ⟨b, 3, none⟩ = some (.bool ac) := by
  obtain ⟨hdb, _, sn, ed, ac, pr, ch, lk, ro, hev, DD⟩ := h.dst hd
  exact ⟨ac, by rw [← hdb]; exact DD.blk.cell 3⟩
theorem MSt.c10 {B0 : Nat} {w : World} {N : Bd} {v : AV} {f : Nat} {g : GS} {q : SimQ} {i : InQ} {tt nr st pos : Nat} {pi pl pc : Int} {pd : Option Nat} (h : MSt B0 w N v f g q i tt nr st pos pi pl pc pd) (s p : Nat) (hs : q.sim = s) (hp : q.prev = p) : w.cell? ⟨s, 10, none⟩ = some (.pointer (some ⟨p, 0, none⟩)) := by
  subst hs hp
  exact h.env.sim.cell 10

/-- What executing leaves. -/
def ExRet (B0 : Nat) (w0 : World) (N : Bd) (v : AV) (f : Nat) (g0 : GS) (q : SimQ) (i : InQ) (tt nr st : Nat) (K : Nat) (e : Ending) (w' : World) : Prop :=
  ∃ g, g.asked.length ≤ K ∧ FoRet B0 w0 N v f g0 g q i tt nr st e w'

/-- Where the loop stands. -/
def LpR (B0 : Nat) (w0 : World) (N : Bd) (v : AV) (f : Nat) (g0 : GS) (q : SimQ) (i : InQ) (tt nr st K : Nat) (t s : Value) (wr : World) : Prop :=
  ∃ (t' : Int) (g : GS) (d : DS) (ln cp : Int) (pos : Nat) (pi pl pc : Int) (pd : Option Nat), t = .int .i64 t' ∧ s = d.ptr ∧ g.ty d.b = some (.proper d) ∧ MSt B0 wr N v f g (q.at_ ln cp) i tt nr st pos pi pl pc pd ∧ Fy w0 g0 wr g ∧ (t' ≠ -1 → pos < i.n) ∧ g.asked.length + 2 * (i.n - pos) + 2 ≤ K

set_option maxRecDepth 100000 in
set_option maxHeartbeats 4000000 in
theorem exec_any {B0 : Nat} {w : World} {N : Bd} {v : AV} {f : Nat} {g : GS} {q : SimQ} {i : InQ} {tt nr st pos : Nat} {pi pl pc : Int} {pd : Option Nat} (h : MSt B0 w N v f g q i tt nr st pos pi pl pc pd)
    (hstep : ∀ A, Pl.Met N f A → ∀ c, ∃ B, stepA N f c (dd A) = some B ∧ B.length * 88 ≤ 140737488355328) (hneg : ∀ A, Pl.Met N f A → stepA N f (-1) (dd A) = some []) (d : DS) (hd : g.ty d.b = some (.proper d)) (K : Nat) (hK : g.asked.length + 2 * (i.n - pos) + 2 ≤ K) (hK2 : K ≤ 1000000) :
    Calls Tryz.prog 54 #[.pointer (some ⟨q.sim, 0, none⟩), .iface 126 (.pointer (some ⟨i.ib, 0, none⟩)), d.ptr] w fun e w' => ExRet B0 w N v f g q i tt nr st K e w' := by
  have d1 := fun a w => dLA a w
  obtain ⟨_, _, sn, ed, ac, pr, ch, lk, ro, hev, DD⟩ := h.lx.dst hd
  have b3 : w.cell? ⟨d.b, 3, none⟩ = some (.bool ac) := DD.blk.cell 3
  have hc10 : w.cell? ⟨q.sim, 10, none⟩ = some (.pointer (some ⟨q.prev, 0, none⟩)) := h.env.sim.cell 10
  have H := Lib.hid h
  have HD := Lib.hid hd
  have HS := Lib.hid hstep
  have HN := Lib.hid hneg
  unfold DS.ptr
  clear h hd hstep hneg DD hev
  go_enter Tryz.func54, Tryz.ntmps54
  go_upto_if 13 with fail
  go_cut [] (fun wx => ∃ pi pl pc pd, MSt B0 wx N v f g q i tt nr st pos pi pl pc pd ∧ Fy w g wx g)
  case first =>
    cases ac with
    | true =>
      go_wp2_with (first | (go_at_call 79; refine (capture_any H.out d HD.out).mono ?_; rintro e w2 ⟨rfl, m2, y2⟩))
      go_meet
      exact ⟨_, _, _, _, m2, y2⟩
    | false =>
      go_wp2_with fail
      go_meet
      exact ⟨_, _, _, _, H.out, Fy.refl _ _⟩
  case rest =>
    obtain ⟨pi2, pl2, pc2, pd2, m2, y2⟩ := hcut
    have M2 := Lib.hid m2
    have Y2 := Lib.hid y2
    clear m2 y2 b3 hc10
    go_wp2_with (first | (go_at_call 262; refine (la_any _ i pos M2.out.inp).mono ?_; rintro e w' ⟨⟨t0, rfl, ht0⟩, rfl⟩; have HT0 := Lib.hid ht0; clear ht0))
    go_loopw [7, 8] (fun t s wr => LpR B0 w N v f g q i tt nr st K t s wr) (fun _ _ wr => i.n - posOf wr i.ib)
    case atStart => exact ⟨t0, g, d, q.ln, q.cp, pos, pi2, pl2, pc2, pd2, rfl, rfl, HD.out, M2.out, Y2.out, HT0.out, hK⟩
    case round =>
      obtain ⟨t', g1, d1', ln1, cp1, pos1, pi1, pl1, pc1, pd1, rfl, rfl, hd1, m1, y1, ht1, hk1⟩ := hrel
      have M1 := Lib.hid m1
      have Y1 := Lib.hid y1
      have D1 := Lib.hid hd1
      have T1 := Lib.hid ht1
      have hpo := Lib.hid m1.posOf
      have hsim1 : wr.cell? ⟨q.sim, 10, none⟩ = some (.pointer (some ⟨q.prev, 0, none⟩)) := m1.env.sim.cell 10
      unfold DS.ptr
      clear m1 y1 hd1 ht1
      go_upto_if 30 with (first | (go_at_call 80; refine (gettgt_any M1.out.lx d1' D1.out _ t').mono ?_; rintro e w3 ⟨⟨o, rfl, ho, hng⟩, rfl⟩; have HO := Lib.hid ho; have HNG := Lib.hid hng; clear ho hng))
      go_cut [9] from 25 to 59 (fun s9 wx => ∃ (g2 : GS) (b2 : Nat), s9 = .pointer (some ⟨b2, 0, none⟩) ∧ TgB g2 b2 ∧ (t' = -1 → g2.ty b2 = some .err) ∧ g2.asked.length ≤ g1.asked.length + 2 ∧ g2.ty d1'.b = some (.proper d1') ∧ MSt B0 wx N v f g2 (q.at_ ln1 cp1) i tt nr st pos1 pi1 pl1 pc1 pd1 ∧ Fy w g wx g2)
      case first =>
        cases o with
        | none =>
          go_wp2_with (first | (go_at_call 81; refine (ctgt_any M1.out.lx M1.out.env HS.out (by omega) d1' D1.out _ t').mono ?_; rintro e w4 ⟨g2, b2, rfl, hb2, he2, hl2, h2, f2⟩))
          go_meet
          exact ⟨g2, b2, rfl, hb2, fun e => he2 (by rw [e]; exact HN.out _ (M1.out.lx.frz _ _ D1.out).met), hl2, f2.ty _ _ D1.out, M1.out.fm h2 f2, Y1.out.trans f2.y⟩
        | some b =>
          go_wp2_with fail
          go_meet
          exact ⟨g1, b, rfl, HO.out b rfl, fun e => absurd (HNG.out (by omega)) (by simp), by omega, D1.out, M1.out, Y1.out⟩
      case rest =>
        obtain ⟨g2, b2, rfl, hb2, he2, hl2, hd2, m2, y2⟩ := hcut
        have M3 := Lib.hid m2
        have Y3 := Lib.hid y2
        have B3 := Lib.hid hb2
        have E3 := Lib.hid he2
        have D3 := Lib.hid hd2
        clear m2 y2 hb2 he2 hsim1 hd2
        go_upto_if 37 with (first | (go_at_call 82; refine (iserr_any M3.out.lx b2 B3.out).mono ?_; rintro e w5 ⟨⟨r, rfl, hr⟩, rfl⟩; have HR := Lib.hid hr; clear hr))
        cases r with
        | true =>
          have c10 : wc.cell? ⟨q.sim, 10, none⟩ = some (.pointer (some ⟨q.prev, 0, none⟩)) := M3.out.env.sim.cell 10
          obtain ⟨cb3, c1⟩ := M3.out.lx.cfgs D3.out
          have HF : ∀ cv, Hid (Calls Tryz.prog 84 #[.pointer (some ⟨q.sim, 0, none⟩), .pointer (some ⟨q.prev, 0, none⟩), .iface 126 (.pointer (some ⟨i.ib, 0, none⟩)), cv, .int .i64 t'] wc.drew fun e w' => FoRet B0 wc.drew N v f g2 g2 (q.at_ ln1 cp1) i tt nr st e w') := fun cv => Lib.hid (foa_any (M3.out.drewN 1) cv t')
          go_wp2_with fail
          go_still_tail 11, (by kernel_rfl)
          change wpList _ _ _ _ _ wc.drew
          go_wp2_with fail
          refine (HF _).out.mono ?_
          rintro e w6 ⟨y6, (⟨k, ln, cp, pos', pi', pl', pc', pd', rfl, m6⟩ | ⟨b6, x, ln, cp, pos', pi', pl', pc', pd', rfl, hb6, m6⟩)⟩
          · have M6 := Lib.hid m6
            clear m6
            go_wp2
            go_ret
            exact ⟨g2, by omega, (Y3.out.trans (Fm.drewN wc g2 1).y).trans y6, .inl ⟨k, ln, cp, pos', pi', pl', pc', pd', by simp, M6.out⟩⟩
          · have M6 := Lib.hid m6
            have HB6 := Lib.hid hb6
            clear m6 hb6
            go_wp2
            exact ⟨rfl, g2, by omega, (Y3.out.trans (Fm.drewN wc g2 1).y).trans y6, .inr ⟨b6, x, ln, cp, pos', pi', pl', pc', pd', rfl, HB6.out, M6.out⟩⟩
        | false =>
          obtain ⟨d3, hd3⟩ := HR.out rfl
          have htn : t' ≠ -1 := fun e => by have := E3.out e; rw [hd3] at this; cases this
          have hlt := T1.out htn
          have hb1 : (t' == -1) = false := by simpa using htn
          have hb2 : (t' != -1) = true := by simpa using htn
          have hd3b : d3.b = b2 := (M3.out.lx.dst hd3).1
          have hd3' : Hid (g2.ty d3.b = some (.proper d3)) := Lib.hid (by rw [hd3b]; exact hd3)
          have HDB := Lib.hid hd3b
          rw [← hd3b]
          clear hd3 hd3b htn HR
          go_upto_if 46 with (first | (go_at_call 83; refine (consume_any M3.out hlt).mono ?_; rintro e w6 ⟨rfl, ln2, cp2, m4, y4⟩; obtain ⟨ac3, hac⟩ := m4.lx.acc hd3'.out; have c10 := m4.c10 q.sim q.prev rfl rfl; have M4 := Lib.hid m4; have Y4 := Lib.hid y4; clear m4 y4))
          cases ac3 with
          | true =>
            go_wp2_with (first | (go_at_call 79; refine (capture_any M4.out d3 hd3'.out).mono ?_; rintro e w7 ⟨rfl, m7, y7⟩; have M7 := Lib.hid m7; have Y7 := Lib.hid y7; clear m7 y7) | (go_at_call 262; refine (la_any _ i _ M7.out.inp).mono ?_; rintro e w' ⟨⟨t8, rfl, ht8⟩, rfl⟩; have T8 := Lib.hid ht8; clear ht8))
            exact ⟨⟨t8, g2, d3, ln2, cp2, pos1 + 1, _, _, _, _, rfl, rfl, hd3'.out, M7.out, (Y3.out.trans Y4.out).trans Y7.out, T8.out, by omega⟩, by rw [M7.out.posOf, hpo.out]; omega⟩
          | false =>
            go_wp2_with (first | (go_at_call 262; refine (la_any _ i _ M4.out.inp).mono ?_; rintro e w' ⟨⟨t8, rfl, ht8⟩, rfl⟩; have T8 := Lib.hid ht8; clear ht8))
            exact ⟨⟨t8, g2, d3, ln2, cp2, pos1 + 1, _, _, _, _, rfl, rfl, hd3'.out, M4.out, Y3.out.trans Y4.out, T8.out, by omega⟩, by rw [M4.out.posOf, hpo.out]; omega⟩
end Go.Proofs
end
section
namespace Go.Proofs
open Go.RowKit
open Pl
theorem startA_eq (N : Bd) (f : Nat) : ∀ (es : List LE) (i : Nat), startA N f es i = startP N f es i
  | [], i => rfl
  | e :: es, i => by
    show ((N.cl f e.dst).bind fun l => (startA N f es (i + 1)).map fun r => l.map (fun s => (s, i + 1)) ++ r) = _
    rw [startA_eq N f es (i + 1)]; rfl

/-- What is known of a network's numbers. -/
structure NetF (N : Bd) (f : Nat) : Prop where
  pos : 0 < N.st.length
  k0 : N.kind 0 = 6
  eps0 : ∀ e ∈ N.out 0, e.kind = 1
  ne0 : N.out 0 ≠ []
  start : ∃ A, startP N f (N.out 0) 0 = some A ∧ A ≠ [] ∧ A.length * 88 ≤ 140737488355328
  step : ∀ A, Pl.Met N f A → ∀ c, ∃ B, stepA N f c (dd A) = some B ∧ B.length * 88 ≤ 140737488355328
  neg : ∀ A, Pl.Met N f A → stepA N f (-1) (dd A) = some []

/-- What matching leaves. -/
def MaRet (B0 : Nat) (w0 : World) (N : Bd) (v : AV) (f : Nat) (g0 : GS) (q : SimQ) (i : InQ) (tt nr st : Nat) (K : Nat) (e : Ending) (w' : World) : Prop :=
  ∃ g, g.asked.length ≤ K ∧ (1 ≤ g0.asked.length ∨ g0.s0 = none → 1 ≤ g.asked.length) ∧ FoRet B0 w0 N v f g0 g q i tt nr st e w'

theorem FoRet.pre {B0 : Nat} {w0 w1 : World} {N : Bd} {v : AV} {f : Nat} {g0 g1 g : GS} {q : SimQ} {i : InQ} {tt nr st : Nat} {e : Ending} {w' : World} (h : FoRet B0 w1 N v f g1 g q i tt nr st e w') (y : Fy w0 g0 w1 g1) : FoRet B0 w0 N v f g0 g q i tt nr st e w' := ⟨y.trans h.1, h.2⟩

set_option maxRecDepth 100000 in
set_option maxHeartbeats 4000000 in
theorem matn_any {B0 : Nat} {w : World} {N : Bd} {v : AV} {f : Nat} {g : GS} {q : SimQ} {i : InQ} {tt nr st pos : Nat} {pi pl pc : Int} {pd : Option Nat} (h : MSt B0 w N v f g q i tt nr st pos pi pl pc pd)
    (nf : NetF N f) (K : Nat) (hK : g.asked.length + 2 * (i.n - pos) + 4 ≤ K) (hK2 : K ≤ 1000000) :
    Calls Tryz.prog 53 #[.pointer (some ⟨q.sim, 0, none⟩), .iface 126 (.pointer (some ⟨i.ib, 0, none⟩))] w fun e w' => MaRet B0 w N v f g q i tt nr st K e w' := by
  obtain ⟨A, hA, hA1, hA2⟩ := nf.start
  obtain ⟨mb, ml, mc, m1, m2, m3, m4⟩ := h.env.atf.mode
  have hc0 : w.cell? ⟨q.sim, 0, none⟩ = some (.pointer (some ⟨q.ab, 0, none⟩)) := h.env.sim.cell 0
  have hc9 : w.cell? ⟨q.sim, 9, none⟩ = some (.int .i64 0) := h.env.sim.cell 9
  have ha5 := m1.at
  have hm0 := m4.at
  have H := Lib.hid h
  have NF := Lib.hid nf
  have HA : Hid (startA N f (N.out 0) 0 = some A) := Lib.hid (by rw [startA_eq]; exact hA)
  have HM : Hid (Pl.Met N f A) := Lib.hid (.start A hA)
  have HA1 := Lib.hid hA1
  have k6 : kTy (N.kind 0) = 232 := by rw [nf.k0]; rfl
  have K6 := Lib.hid k6
  clear h nf m1 m4 hA hA1 k6
  go_enter Tryz.func53, Tryz.ntmps53
  go_wp2_with fail
  go_quiet (fail)
  have HQ := Lib.hid (H.out.drewN nq)
  have YQ := Lib.hid (Fm.drewN w g nq).y
  clear hc0 hc9 ha5 hm0
  generalize w.drewN nq = wq at HQ YQ ⊢
  have SA : ∀ lv ip, Hid (Calls Tryz.prog 77 #[lv, ip, .iface 232 (.pointer (some ⟨v.st 0, 0, none⟩))] wq fun e w' => ∃ u L, e = .returned (.pointer (some ⟨u.sB, 0, none⟩)) ∧ CfA N v A L ∧ SetD wq.heap.size w' u L ∧ Kp (fun _ => True) wq w') := fun lv ip => Lib.hid (by
    have := start_any N v f lv ip B0 wq HQ.out.lx.hB HQ.out.lx.net NF.out.pos NF.out.eps0 NF.out.ne0 A HA.out hA2
    rw [K6.out] at this
    exact this)
  go_wp2_with (first
    | (go_at_call 77; refine (SA _ _).out.mono ?_; rintro e w2 ⟨u, L, rfl, hL, hs, k2⟩; have c7 := SetD.c7 hs _ rfl; have f7 := hs.blk.free 7; have q7 : w2.setCell ⟨u.sB, 7, none⟩ (.bool false) = w2 := setCell_self hs.blk rfl; have S2 := Lib.hid hs; have HL := Lib.hid hL; have K2 := Lib.hid k2; clear hs hL k2)
    | (go_at_call 78; refine (adst_any HQ.out.lx K2.out HQ.out.env u L A S2.out HL.out HM.out (HL.out.neL HA1.out) hA2 (by omega) false).mono ?_; rintro e w3 ⟨g3, d3, rfl, hd3, hl3, hl4, h3, f3⟩; have M3 := Lib.hid (HQ.out.fm h3 f3); have F3 := Lib.hid f3; have D3 := Lib.hid hd3; have HL4 := Lib.hid hl4; have hl3' := hl3; clear h3 f3 hd3 hl4))
  refine (exec_any M3.out NF.out.step NF.out.neg d3 D3.out K (by omega) hK2).mono ?_
  rintro e w4 ⟨g4, ha4, y4, (⟨k, ln, cp, pos', pi', pl', pc', pd', rfl, m6⟩ | ⟨b6, x, ln, cp, pos', pi', pl', pc', pd', rfl, hb6, m6⟩)⟩
  · have M6 := Lib.hid m6
    have Y4 := Lib.hid y4
    clear m6 y4
    go_wp2
    go_ret
    exact ⟨g4, ha4, fun _ => by have := Y4.out.asl; have := HL4.out; omega, (YQ.out.trans F3.out.y).trans Y4.out, .inl ⟨k, ln, cp, pos', pi', pl', pc', pd', by simp, M6.out⟩⟩
  · have M6 := Lib.hid m6
    have HB6 := Lib.hid hb6
    have Y4 := Lib.hid y4
    clear m6 hb6 y4
    go_wp2
    exact ⟨rfl, g4, ha4, fun _ => by have := Y4.out.asl; have := HL4.out; omega, (YQ.out.trans F3.out.y).trans Y4.out, .inr ⟨b6, x, ln, cp, pos', pi', pl', pc', pd', rfl, HB6.out, M6.out⟩⟩

theorem mark_any (b : Nat) (w : World) : Calls Tryz.prog 263 #[.pointer (some ⟨b, 0, none⟩)] w fun e w' => e = .returned (.int .i64 (-1)) ∧ w = w' := by
  go_enter Tryz.func263, Tryz.ntmps263
  go_wp2
  go_ret
  exact ⟨rfl, rfl⟩
theorem rele_any (b : Nat) (m : Int) (w : World) : Calls Tryz.prog 264 #[.pointer (some ⟨b, 0, none⟩), .int .i64 m] w fun e w' => e = .returned (.tuple #[]) ∧ w = w' := by
  go_enter Tryz.func264, Tryz.ntmps264
  go_wp2
  go_end0
  exact ⟨rfl, rfl⟩
/-- The deferred call of Match. -/
theorem rel_any (a c : Addr) (b : Nat) (m : Int) (w : World) (u : FrameMode) (h1 : w.cell? a = some (.iface 126 (.pointer (some ⟨b, 0, none⟩)))) (h2 : w.cell? c = some (.int .i64 m)) :
    CallsD Tryz.prog 50 #[.pointer (some a), .pointer (some c)] u w fun e u' w' => u' = u ∧ (e = .returned (.tuple #[]) ∧ w' = w) := by
  have d1 := fun a w => dRel a w
  go_enter_d Tryz.func50, Tryz.ntmps50
  go_wp2_with (first | (go_at_call 264; refine (rele_any _ _ _).mono ?_; rintro e w' ⟨rfl, rfl⟩))
  go_end0
  exact ⟨rfl, rfl⟩
end Go.Proofs
end
