/- A part of the proof of the statement on the law FnStates, which the last text proves: part G11. -/
import Derived.Laws.IdiomStrings
import Derived.Test.YtlceacefhnllbaaGreatDoorG10
set_option linter.all false
section
namespace Go.Proofs
open Go.RowKit
open Pl
def QM (q : SimQ) (pos : Nat) : SimQ := { q with si := (pos : Int), mc := wrap64 (q.mc + 1) }

theorem gS0_lx {B0 : Nat} {w : World} {N : Bd} {v : AV} {f : Nat} {g : GS} (h : LX B0 w N v f g) : w.cell? ⟨g.dfa, 5, none⟩ = some (.pointer (g.s0.map fun b => ⟨b, 0, none⟩)) := h.dfa.cell 5
theorem MSt.dr0 {B0 : Nat} {w : World} {N : Bd} {v : AV} {f : Nat} {g : GS} {q : SimQ} {i : InQ} {tt nr st pos : Nat} {pi pl pc : Int} {pd : Option Nat} (h : MSt B0 w N v f g q i tt nr st pos pi pl pc pd) : w.cell? ⟨q.dr, 0, none⟩ = some (.pointer (some ⟨g.dfa, 0, none⟩)) := by
  obtain ⟨cs, h1, h2⟩ := h.env.dr
  exact (h1.cell 0).trans h2

/-- The whole state, between two matches. -/
structure MRe (B0 : Nat) (w : World) (N : Bd) (v : AV) (f : Nat) (g : GS) (q : SimQ) (i : InQ) (tt nr pos : Nat) (pi pl pc : Int) (pd : Option Nat) : Prop where
  lx : LX B0 w N v f g
  env : Env B0 w N v g q tt nr
  inp : InAt w i pos
  inR : g.rt i.ib
  pv : PvAt w g q.prev pi pl pc pd
  pvR : g.rt q.prev
theorem MSt.rest {B0 : Nat} {w : World} {N : Bd} {v : AV} {f : Nat} {g : GS} {q : SimQ} {i : InQ} {tt nr st pos : Nat} {pi pl pc : Int} {pd : Option Nat} (h : MSt B0 w N v f g q i tt nr st pos pi pl pc pd) : MRe B0 w N v f g q i tt nr pos pi pl pc pd := ⟨h.lx, h.env, h.inp, h.inR, h.pv, h.pvR⟩
theorem MRe.fm {B0 : Nat} {w w' : World} {N : Bd} {v : AV} {f : Nat} {g g' : GS} {q : SimQ} {i : InQ} {tt nr pos : Nat} {pi pl pc : Int} {pd : Option Nat} (h : MRe B0 w N v f g q i tt nr pos pi pl pc pd) (hl : LX B0 w' N v f g') (x : Fm w g w' g') :
    MRe B0 w' N v f g' q i tt nr pos pi pl pc pd where
  lx := hl
  env := h.env.fm h.lx x
  inp := ⟨h.inp.blk.kept (x.rts _ h.inR h.inp.blk.lt), fun k hk => by
    obtain ⟨rb, cs, r, h1, h2, h3⟩ := h.inp.row k hk
    exact ⟨rb, cs, r, h1, h2.kept (x.blk _ h2.lt (not21 h.lx h2)), h3⟩, h.inp.le, h.inp.few⟩
  inR := by rw [x.rt]; exact h.inR
  pv := ⟨h.pv.blk.kept (x.rts _ h.pvR h.pv.blk.lt), fun b hb => by obtain ⟨d, hd⟩ := h.pv.pd b hb; exact ⟨d, x.ty _ _ hd⟩⟩
  pvR := by rw [x.rt]; exact h.pvR

theorem MRe.ne {B0 : Nat} {w : World} {N : Bd} {v : AV} {f : Nat} {g : GS} {q : SimQ} {i : InQ} {tt nr pos : Nat} {pi pl pc : Int} {pd : Option Nat} (h : MRe B0 w N v f g q i tt nr pos pi pl pc pd) : q.sim ≠ q.prev ∧ q.sim ≠ i.ib ∧ q.prev ≠ i.ib := by
  have h1 := h.env.sim
  have h2 := h.pv.blk
  have h3 := h.inp.blk
  unfold Blk at h1 h2 h3
  refine ⟨fun e => ?_, fun e => ?_, fun e => ?_⟩
  · rw [e, h2] at h1; simp at h1
  · rw [e, h3] at h1; simp at h1
  · rw [e, h3] at h2; simp at h2

theorem MRe.setSim {B0 : Nat} {w : World} {N : Bd} {v : AV} {f : Nat} {g : GS} {q : SimQ} {i : InQ} {tt nr pos : Nat} {pi pl pc : Int} {pd : Option Nat} (h : MRe B0 w N v f g q i tt nr pos pi pl pc pd) (j : Nat) (u : Value) (q' : SimQ)
    (e1 : (simK q).setIfInBounds j u = simK q') (e2 : q'.sim = q.sim) (e3 : q'.ab = q.ab) (e4 : q'.dr = q.dr) (e5 : q'.nd = q.nd) (e6 : q'.prev = q.prev) :
    MRe B0 (w.setCell ⟨q.sim, j, none⟩ u) N v f g q' i tt nr pos pi pl pc pd ∧ Fy w g (w.setCell ⟨q.sim, j, none⟩ u) g := by
  obtain ⟨l1, k1⟩ := MSt.kp h.lx h.env.simR j u
  obtain ⟨n1, n2, n3⟩ := h.ne
  have far : ∀ k, k ≠ q.sim → (w.setCell ⟨q.sim, j, none⟩ u).heap[k]? = w.heap[k]? := fun k hk => heap_setCell_other _ _ _ _ hk
  obtain ⟨cs, d1, d2⟩ := h.env.dr
  have hdr : q.dr ≠ q.sim := by
    intro e
    have a := h.env.sim
    unfold Blk at a d1
    rw [e, a] at d1
    simp at d1
  exact ⟨{ lx := l1
           env := { sim := by rw [e2]; exact h.env.sim.set j u _ e1, simR := by rw [e2]; exact h.env.simR, dr := ⟨cs, by rw [e4]; exact d1.kept (far _ hdr), d2⟩, nd := by rw [e5]; exact h.env.nd, atf := by rw [e3]; exact h.env.atf.kept (k1.weak (fun k hk hr => absurd (h.lx.low k (.inr (.inl hr))) (by omega))) }
           inp := h.inp.other (far _ (Ne.symm n2)) (fun b cs hb => far _ (blk21 h.env.sim (by decide) hb))
           inR := h.inR
           pv := ⟨by rw [e6]; exact h.pv.blk.kept (far _ (Ne.symm n1)), h.pv.pd⟩
           pvR := by rw [e6]; exact h.pvR }, Fy.root g k1⟩

theorem MRe.setPv {B0 : Nat} {w : World} {N : Bd} {v : AV} {f : Nat} {g : GS} {q : SimQ} {i : InQ} {tt nr pos : Nat} {pi pl pc : Int} {pd : Option Nat} (h : MRe B0 w N v f g q i tt nr pos pi pl pc pd) (pi' pl' pc' : Int) (pd' : Option Nat)
    (h1 : ∀ b, pd' = some b → ∃ d, g.ty b = some (.proper d)) :
    MRe B0 ((((w.setCell ⟨q.prev, 0, none⟩ (.int .i64 pi')).setCell ⟨q.prev, 1, none⟩ (.int .i64 pl')).setCell ⟨q.prev, 2, none⟩ (.int .i64 pc')).setCell ⟨q.prev, 3, none⟩ (.pointer (pd'.map fun b => ⟨b, 0, none⟩))) N v f g q i tt nr pos pi' pl' pc' pd' ∧
    Fy w g ((((w.setCell ⟨q.prev, 0, none⟩ (.int .i64 pi')).setCell ⟨q.prev, 1, none⟩ (.int .i64 pl')).setCell ⟨q.prev, 2, none⟩ (.int .i64 pc')).setCell ⟨q.prev, 3, none⟩ (.pointer (pd'.map fun b => ⟨b, 0, none⟩))) g := by
  obtain ⟨l1, k1⟩ := MSt.kp h.lx h.pvR 0 (.int .i64 pi')
  obtain ⟨l2, k2⟩ := MSt.kp l1 h.pvR 1 (.int .i64 pl')
  obtain ⟨l3, k3⟩ := MSt.kp l2 h.pvR 2 (.int .i64 pc')
  obtain ⟨l4, k4⟩ := MSt.kp l3 h.pvR 3 (.pointer (pd'.map fun b => ⟨b, 0, none⟩))
  have kk := ((k1.trans k2).trans k3).trans k4
  have bb := (((h.pv.blk.set 0 (.int .i64 pi') _ rfl).set 1 (.int .i64 pl') _ rfl).set 2 (.int .i64 pc') _ rfl).set 3 (.pointer (pd'.map fun b => ⟨b, 0, none⟩)) #[.int .i64 pi', .int .i64 pl', .int .i64 pc', .pointer (pd'.map fun b => ⟨b, 0, none⟩)] (by simp)
  have far : ∀ k, k ≠ q.prev → ((((w.setCell ⟨q.prev, 0, none⟩ (.int .i64 pi')).setCell ⟨q.prev, 1, none⟩ (.int .i64 pl')).setCell ⟨q.prev, 2, none⟩ (.int .i64 pc')).setCell ⟨q.prev, 3, none⟩ (.pointer (pd'.map fun b => ⟨b, 0, none⟩))).heap[k]? = w.heap[k]? := fun k hk => by
    rw [heap_setCell_other _ _ _ _ hk, heap_setCell_other _ _ _ _ hk, heap_setCell_other _ _ _ _ hk, heap_setCell_other _ _ _ _ hk]
  generalize (((w.setCell ⟨q.prev, 0, none⟩ (.int .i64 pi')).setCell ⟨q.prev, 1, none⟩ (.int .i64 pl')).setCell ⟨q.prev, 2, none⟩ (.int .i64 pc')).setCell ⟨q.prev, 3, none⟩ (.pointer (pd'.map fun b => ⟨b, 0, none⟩)) = w' at l4 kk bb far ⊢
  obtain ⟨n1, n2, n3⟩ := h.ne
  obtain ⟨cs, d1, d2⟩ := h.env.dr
  have hdr : q.dr ≠ q.prev := by
    intro e
    have a := h.pv.blk
    unfold Blk at a d1
    rw [e, a] at d1
    simp at d1
  exact ⟨{ lx := l4
           env := { sim := h.env.sim.kept (far _ n1), simR := h.env.simR, dr := ⟨cs, d1.kept (far _ hdr), d2⟩, nd := h.env.nd, atf := h.env.atf.kept (kk.weak (fun k hk hr => absurd (h.lx.low k (.inr (.inl hr))) (by omega))) }
           inp := h.inp.other (far _ (Ne.symm n3)) (fun b cs hb => far _ (blk21 h.pv.blk (by decide) hb))
           inR := h.inR
           pv := ⟨bb, h1⟩
           pvR := h.pvR }, Fy.root g kk⟩

theorem setCell_swap (w : World) (a b : Addr) (u v : Value) (h : a.block ≠ b.block) : (w.setCell a u).setCell b v = (w.setCell b v).setCell a u := by
  have hh : ((w.setCell a u).setCell b v).heap = ((w.setCell b v).setCell a u).heap := by
    apply Array.ext_getElem?
    intro k
    unfold World.setCell
    simp only [Array.getElem?_modify]
    by_cases h1 : a.block = k
    · have h2 : ¬ b.block = k := fun e => h (h1.trans e.symm)
      simp [h1, h2]
    · simp [h1]
  have h2 : ∀ x y : World, x.heap = y.heap → x.tape = y.tape → x.drawn = y.drawn → x.os = y.os → x.output = y.output → x = y := by
    intro x y a1 a2 a3 a4 a5
    cases x; cases y; simp_all
  exact h2 _ _ hh rfl rfl rfl rfl

theorem rst51_any (b : Nat) (c : Array Value) (w : World) (h : Blk w b 227 c) (h4 : c.size = 4) : Calls Tryz.prog 51 #[.pointer (some ⟨b, 0, none⟩)] w fun e w' => e = .returned (.tuple #[]) ∧
    (((w.setCell ⟨b, 0, none⟩ (.int .i64 (-1))).setCell ⟨b, 1, none⟩ (.int .i64 0)).setCell ⟨b, 2, none⟩ (.int .i64 (-1))).setCell ⟨b, 3, none⟩ (.pointer none) = w' := by
  have HB := Lib.hid h
  clear h
  go_enter Tryz.func51, Tryz.ntmps51
  go_wp2_with (first | (go_at_call 76; refine (rst_any _ _ _ HB.out h4).mono ?_; rintro e w' ⟨rfl, rfl⟩))
  go_end0
  exact ⟨rfl, rfl⟩

/-- A match begins. -/
theorem MRe.begin {B0 : Nat} {w : World} {N : Bd} {v : AV} {f : Nat} {g : GS} {q : SimQ} {i : InQ} {tt nr pos : Nat} {pi pl pc : Int} {pd : Option Nat} (h : MRe B0 w N v f g q i tt nr pos pi pl pc pd) :
    MSt B0 ((((((w.setCell ⟨q.sim, 6, none⟩ (.int .i64 pos)).setCell ⟨q.prev, 0, none⟩ (.int .i64 (-1))).setCell ⟨q.prev, 1, none⟩ (.int .i64 0)).setCell ⟨q.prev, 2, none⟩ (.int .i64 (-1))).setCell ⟨q.prev, 3, none⟩ (.pointer none))) N v f g { q with si := (pos : Int) } i tt nr pos pos (-1) 0 (-1) none ∧
    Fy w g ((((((w.setCell ⟨q.sim, 6, none⟩ (.int .i64 pos)).setCell ⟨q.prev, 0, none⟩ (.int .i64 (-1))).setCell ⟨q.prev, 1, none⟩ (.int .i64 0)).setCell ⟨q.prev, 2, none⟩ (.int .i64 (-1))).setCell ⟨q.prev, 3, none⟩ (.pointer none))) g := by
  obtain ⟨n1, n2, n3⟩ := h.ne
  obtain ⟨m1, y1⟩ := h.setPv (-1) 0 (-1) none (fun b hb => by cases hb)
  obtain ⟨m2, y2⟩ := m1.setSim 6 (.int .i64 pos) { q with si := (pos : Int) } (by simp [simK]) rfl rfl rfl rfl rfl
  have e : ((((((w.setCell ⟨q.sim, 6, none⟩ (.int .i64 pos)).setCell ⟨q.prev, 0, none⟩ (.int .i64 (-1))).setCell ⟨q.prev, 1, none⟩ (.int .i64 0)).setCell ⟨q.prev, 2, none⟩ (.int .i64 (-1))).setCell ⟨q.prev, 3, none⟩ (.pointer none))) =
      ((((((w.setCell ⟨q.prev, 0, none⟩ (.int .i64 (-1))).setCell ⟨q.prev, 1, none⟩ (.int .i64 0)).setCell ⟨q.prev, 2, none⟩ (.int .i64 (-1))).setCell ⟨q.prev, 3, none⟩ (.pointer none))).setCell ⟨q.sim, 6, none⟩ (.int .i64 pos)) := by
    rw [setCell_swap w ⟨q.sim, 6, none⟩ ⟨q.prev, 0, none⟩ _ _ n1, setCell_swap _ ⟨q.sim, 6, none⟩ ⟨q.prev, 1, none⟩ _ _ n1, setCell_swap _ ⟨q.sim, 6, none⟩ ⟨q.prev, 2, none⟩ _ _ n1, setCell_swap _ ⟨q.sim, 6, none⟩ ⟨q.prev, 3, none⟩ _ _ n1]
  rw [e]
  exact ⟨⟨m2.lx, m2.env, m2.inp, m2.inR, m2.pv, m2.pvR, rfl, Nat.le_refl _, fun b hb => by cases hb⟩, y1.trans y2⟩

set_option maxRecDepth 100000 in
set_option maxHeartbeats 4000000 in
theorem match_any {B0 : Nat} {w : World} {N : Bd} {v : AV} {f : Nat} {g : GS} {q : SimQ} {i : InQ} {tt nr pos : Nat} {pi pl pc : Int} {pd : Option Nat} (h : MRe B0 w N v f g q i tt nr pos pi pl pc pd)
    (nf : NetF N f) (K : Nat) (hK : g.asked.length + 2 * (i.n - pos) + 4 ≤ K) (hK2 : K ≤ 1000000) :
    Calls Tryz.prog 38 #[.pointer (some ⟨q.sim, 0, none⟩), .iface 126 (.pointer (some ⟨i.ib, 0, none⟩)), .int .i64 0] w fun e w' => MaRet B0 w N v f g (QM q pos) i tt nr pos K e w' := by
  have hmf : ∀ (fn : Fn) (first cap : Array Value) (w : World), (Instr.makeFunc fn first cap).run Tryz.prog w = .ok (.func fn first cap) w := fun _ _ _ _ => rfl
  have d1 := fun a w => dIndex a w
  have d2 := fun a w => dMark a w
  have hc := h.env.sim.cell
  have hf := h.env.sim.free
  have lsim := h.env.sim.lt
  have lin := h.inp.blk.lt
  simp only [simK] at hc
  have H := Lib.hid h
  have NF := Lib.hid nf
  clear h nf
  go_enter_defers Tryz.func38, Tryz.ntmps38
  go_upto_region 5 with (first | (go_at_call 263; refine (mark_any _ _).mono ?_; rintro e w' ⟨rfl, rfl⟩))
  obtain ⟨m1, y1⟩ := H.out.setSim 11 (.int .i64 (wrap64 (q.mc + 1))) { q with mc := wrap64 (q.mc + 1) } (by simp [simK]) rfl rfl rfl rfl rfl
  obtain ⟨m2, y2⟩ := m1.setSim 9 (.int .i64 0) { q with mc := wrap64 (q.mc + 1) } (by simp [simK]) rfl rfl rfl rfl rfl
  have hsz : ((w.setCell ⟨q.sim, 11, none⟩ (.int .i64 (wrap64 (q.mc + 1)))).setCell ⟨q.sim, 9, none⟩ (.int .i64 0)).heap.size = w.heap.size := by simp
  have kp : Kp (fun _ => True) ((w.setCell ⟨q.sim, 11, none⟩ (.int .i64 (wrap64 (q.mc + 1)))).setCell ⟨q.sim, 9, none⟩ (.int .i64 0)) ((((w.setCell ⟨q.sim, 11, none⟩ (.int .i64 (wrap64 (q.mc + 1)))).setCell ⟨q.sim, 9, none⟩ (.int .i64 0)).alloc (.cells #[.iface 126 (.pointer (some ⟨i.ib, 0, none⟩))] 205)).alloc (.cells #[.int .i64 (-1)] 3)) := (Kp.alloc _ _).trans (Kp.alloc _ _)
  have bx : Blk ((((w.setCell ⟨q.sim, 11, none⟩ (.int .i64 (wrap64 (q.mc + 1)))).setCell ⟨q.sim, 9, none⟩ (.int .i64 0)).alloc (.cells #[.iface 126 (.pointer (some ⟨i.ib, 0, none⟩))] 205)).alloc (.cells #[.int .i64 (-1)] 3)) w.heap.size 205 #[.iface 126 (.pointer (some ⟨i.ib, 0, none⟩))] := by
    have := (Blk.new ((w.setCell ⟨q.sim, 11, none⟩ (.int .i64 (wrap64 (q.mc + 1)))).setCell ⟨q.sim, 9, none⟩ (.int .i64 0)) 205 #[.iface 126 (.pointer (some ⟨i.ib, 0, none⟩))]).alloc (.cells #[.int .i64 (-1)] 3)
    rw [hsz] at this; exact this
  have bm : Blk ((((w.setCell ⟨q.sim, 11, none⟩ (.int .i64 (wrap64 (q.mc + 1)))).setCell ⟨q.sim, 9, none⟩ (.int .i64 0)).alloc (.cells #[.iface 126 (.pointer (some ⟨i.ib, 0, none⟩))] 205)).alloc (.cells #[.int .i64 (-1)] 3)) (w.heap.size + 1) 3 #[.int .i64 (-1)] := by
    have := Blk.new (((w.setCell ⟨q.sim, 11, none⟩ (.int .i64 (wrap64 (q.mc + 1)))).setCell ⟨q.sim, 9, none⟩ (.int .i64 0)).alloc (.cells #[.iface 126 (.pointer (some ⟨i.ib, 0, none⟩))] 205)) 3 #[.int .i64 (-1)]
    have e : (((w.setCell ⟨q.sim, 11, none⟩ (.int .i64 (wrap64 (q.mc + 1)))).setCell ⟨q.sim, 9, none⟩ (.int .i64 0)).alloc (.cells #[.iface 126 (.pointer (some ⟨i.ib, 0, none⟩))] 205)).heap.size = w.heap.size + 1 := by simp
    rw [e] at this; exact this
  have M5 := Lib.hid (m2.fm (m2.lx.all kp) (Fm.all g kp))
  have Y5 := Lib.hid ((y1.trans y2).trans (Fm.all g kp).y)
  have nM1 : ¬ g.M w.heap.size := fun hm => Nat.lt_irrefl _ (H.out.lx.Mlt hm)
  have nM2 : ¬ g.M (w.heap.size + 1) := fun hm => by have := H.out.lx.Mlt hm; omega
  have BX := Lib.hid bx
  have BM := Lib.hid bm
  clear m1 m2 y1 y2 kp hsz hc hf lsim lin bx bm
  generalize (((w.setCell ⟨q.sim, 11, none⟩ (.int .i64 (wrap64 (q.mc + 1)))).setCell ⟨q.sim, 9, none⟩ (.int .i64 0)).alloc (.cells #[.iface 126 (.pointer (some ⟨i.ib, 0, none⟩))] 205)).alloc (.cells #[.int .i64 (-1)] 3) = w5 at M5 Y5 BX BM ⊢
  have hc := M5.out.env.sim.cell
  have hf := M5.out.env.sim.free
  have hi : w5.cell? ⟨i.ib, 1, none⟩ = some (.int .i64 pos) := M5.out.inp.blk.cell 1
  have hbx : w5.cell? ⟨w.heap.size, 0, none⟩ = some (.iface 126 (.pointer (some ⟨i.ib, 0, none⟩))) := BX.out.cell 0
  obtain ⟨m6, y6⟩ := M5.out.begin
  have M6 := Lib.hid m6
  have Y6 := Lib.hid y6
  have PB : Hid (Blk (w5.setCell ⟨q.sim, 6, none⟩ (.int .i64 pos)) q.prev 227 #[.int .i64 pi, .int .i64 pl, .int .i64 pc, .pointer (pd.map fun b => ⟨b, 0, none⟩)]) := Lib.hid (M5.out.pv.blk.kept (heap_setCell_other _ _ _ _ (Ne.symm M5.out.ne.1)))
  simp only [simK] at hc
  clear m6 y6
  go_upto_region 7 with (first | (go_at_call 37; refine (gIdx _ _ _ hi).mono ?_; rintro e w' ⟨rfl, rfl⟩) | (go_at_call 51; refine (rst51_any _ _ _ PB.out rfl).mono ?_; rintro e w6 ⟨rfl, rfl⟩))
  generalize ((((((w5.setCell ⟨q.sim, 6, none⟩ (.int .i64 pos)).setCell ⟨q.prev, 0, none⟩ (.int .i64 (-1))).setCell ⟨q.prev, 1, none⟩ (.int .i64 0)).setCell ⟨q.prev, 2, none⟩ (.int .i64 (-1))).setCell ⟨q.prev, 3, none⟩ (.pointer none))) = w7 at M6 Y6 ⊢
  have hc7 := M6.out.env.sim.cell
  have hdr := M6.out.dr0
  have nd := M6.out.env.nd
  have hbx7 : w7.cell? ⟨w.heap.size, 0, none⟩ = some (.iface 126 (.pointer (some ⟨i.ib, 0, none⟩))) := (BX.out.kept (Y6.out.blk _ BX.out.lt nM1)).cell 0
  have hbm7 : w7.cell? ⟨w.heap.size + 1, 0, none⟩ = some (.int .i64 (-1)) := (BM.out.kept (Y6.out.blk _ BM.out.lt nM2)).cell 0
  have hlt1 : w.heap.size < w7.heap.size := Nat.lt_of_lt_of_le BX.out.lt Y6.out.size
  have hlt2 : w.heap.size + 1 < w7.heap.size := Nat.lt_of_lt_of_le BM.out.lt Y6.out.size
  have hs0 := gS0_lx M6.out.lx
  have n1 := fun w => eqD_nn w
  have n2 := fun a w => eqDp_nil a w
  have YY := Lib.hid (Y5.out.trans Y6.out)
  simp only [simK] at hc7
  have BX2 := BX
  clear hi hbx hc hf M5 PB
  cases hsc : g.s0 with
  | none =>
    rw [hsc] at hs0
    simp only [Option.map_none] at hs0
    go_wp2_with (first | (go_at_call 52; refine (gS0 _ _ _ hs0).mono ?_; rintro e w' ⟨rfl, rfl⟩))
    refine (matn_any M6.out NF.out K hK hK2).mono ?_
    rintro e w8 ⟨g8, ha8, hb8, y8, (⟨k, ln, cp, pos', pi', pl', pc', pd', rfl, m8⟩ | ⟨b8, x, ln, cp, pos', pi', pl', pc', pd', rfl, hp8, m8⟩)⟩
    · have RR : Hid (MaRet B0 w N v f g (QM q pos) i tt nr pos K (.returned (.int .i64 k)) w8) := Lib.hid ⟨g8, ha8, hb8, YY.out.trans y8, .inl ⟨k, ln, cp, pos', pi', pl', pc', pd', rfl, m8⟩⟩
      have hbx8 : w8.cell? ⟨w.heap.size, 0, none⟩ = some (.iface 126 (.pointer (some ⟨i.ib, 0, none⟩))) := (World.cell?_of_block (y8.blk _ hlt1 (Y6.out.sep _ (BX2.out.lt) nM1))).trans hbx7
      have hbm8 : w8.cell? ⟨w.heap.size + 1, 0, none⟩ = some (.int .i64 (-1)) := (World.cell?_of_block (y8.blk _ hlt2 (Y6.out.sep _ (BM.out.lt) nM2))).trans hbm7
      clear m8 y8 hb8
      go_wp2
      refine leaves_cons (f := 50) (args := #[.pointer (some ⟨w.heap.size, 0, none⟩), .pointer (some ⟨w.heap.size + 1, 0, none⟩)]) (by simp) (by simp [go_sem]) ?_
      refine (rel_any _ _ _ _ _ _ hbx8 hbm8).mono ?_
      rintro e u' w'' ⟨rfl, rfl, rfl⟩
      refine ⟨_, results_tmp rfl _ _ _, ?_⟩
      exact RR.out
    · have RR : Hid (MaRet B0 w N v f g (QM q pos) i tt nr pos K (.panicked [{ v := .iface 129 (.pointer (some ⟨b8, 0, none⟩)), recovered := false }]) w8) := Lib.hid ⟨g8, ha8, hb8, YY.out.trans y8, .inr ⟨b8, x, ln, cp, pos', pi', pl', pc', pd', rfl, hp8, m8⟩⟩
      have hbx8 : w8.cell? ⟨w.heap.size, 0, none⟩ = some (.iface 126 (.pointer (some ⟨i.ib, 0, none⟩))) := (World.cell?_of_block (y8.blk _ hlt1 (Y6.out.sep _ (BX2.out.lt) nM1))).trans hbx7
      have hbm8 : w8.cell? ⟨w.heap.size + 1, 0, none⟩ = some (.int .i64 (-1)) := (World.cell?_of_block (y8.blk _ hlt2 (Y6.out.sep _ (BM.out.lt) nM2))).trans hbm7
      clear m8 y8 hb8 hp8
      go_wp2
      refine leaves_cons (f := 50) (args := #[.pointer (some ⟨w.heap.size, 0, none⟩), .pointer (some ⟨w.heap.size + 1, 0, none⟩)]) (by simp) (by simp [go_sem]) ?_
      refine (rel_any _ _ _ _ _ _ hbx8 hbm8).mono ?_
      rintro e u' w'' ⟨rfl, rfl, rfl⟩
      simp only [Leaves, settle]
      exact RR.out
  | some b0 =>
    obtain ⟨d0, hd0⟩ := M6.out.lx.s0 b0 hsc
    have hdb : d0.b = b0 := (M6.out.lx.dst hd0).1
    have HD0 : Hid (g.ty d0.b = some (.proper d0)) := Lib.hid (by rw [hdb]; exact hd0)
    rw [hsc, ← hdb] at hs0
    simp only [Option.map_some] at hs0
    clear hd0 hdb
    go_wp2_with (first | (go_at_call 52; refine (gS0 _ _ _ hs0).mono ?_; rintro e w' ⟨rfl, rfl⟩))
    have HX : Hid (Calls Tryz.prog 54 #[.pointer (some ⟨q.sim, 0, none⟩), .iface 126 (.pointer (some ⟨i.ib, 0, none⟩)), .pointer (some ⟨d0.b, 0, none⟩)] w7 fun e w' => MaRet B0 w7 N v f g (QM q pos) i tt nr pos K e w') := Lib.hid (by
      refine (exec_any M6.out NF.out.step NF.out.neg d0 HD0.out K (by omega) hK2).mono ?_
      rintro e w' ⟨g', h1, h2⟩
      refine ⟨g', h1, fun h => ?_, h2⟩
      have := h2.1.asl
      rcases h with h | h
      · omega
      · rw [hsc] at h; cases h)
    refine HX.out.mono ?_
    rintro e w8 ⟨g8, ha8, hb8, y8, (⟨k, ln, cp, pos', pi', pl', pc', pd', rfl, m8⟩ | ⟨b8, x, ln, cp, pos', pi', pl', pc', pd', rfl, hp8, m8⟩)⟩
    · have RR : Hid (MaRet B0 w N v f g (QM q pos) i tt nr pos K (.returned (.int .i64 k)) w8) := Lib.hid ⟨g8, ha8, hb8, YY.out.trans y8, .inl ⟨k, ln, cp, pos', pi', pl', pc', pd', rfl, m8⟩⟩
      have hbx8 : w8.cell? ⟨w.heap.size, 0, none⟩ = some (.iface 126 (.pointer (some ⟨i.ib, 0, none⟩))) := (World.cell?_of_block (y8.blk _ hlt1 (Y6.out.sep _ (BX2.out.lt) nM1))).trans hbx7
      have hbm8 : w8.cell? ⟨w.heap.size + 1, 0, none⟩ = some (.int .i64 (-1)) := (World.cell?_of_block (y8.blk _ hlt2 (Y6.out.sep _ (BM.out.lt) nM2))).trans hbm7
      clear m8 y8 hb8
      go_wp2
      refine leaves_cons (f := 50) (args := #[.pointer (some ⟨w.heap.size, 0, none⟩), .pointer (some ⟨w.heap.size + 1, 0, none⟩)]) (by simp) (by simp [go_sem]) ?_
      refine (rel_any _ _ _ _ _ _ hbx8 hbm8).mono ?_
      rintro e u' w'' ⟨rfl, rfl, rfl⟩
      refine ⟨_, results_tmp rfl _ _ _, ?_⟩
      exact RR.out
    · have RR : Hid (MaRet B0 w N v f g (QM q pos) i tt nr pos K (.panicked [{ v := .iface 129 (.pointer (some ⟨b8, 0, none⟩)), recovered := false }]) w8) := Lib.hid ⟨g8, ha8, hb8, YY.out.trans y8, .inr ⟨b8, x, ln, cp, pos', pi', pl', pc', pd', rfl, hp8, m8⟩⟩
      have hbx8 : w8.cell? ⟨w.heap.size, 0, none⟩ = some (.iface 126 (.pointer (some ⟨i.ib, 0, none⟩))) := (World.cell?_of_block (y8.blk _ hlt1 (Y6.out.sep _ (BX2.out.lt) nM1))).trans hbx7
      have hbm8 : w8.cell? ⟨w.heap.size + 1, 0, none⟩ = some (.int .i64 (-1)) := (World.cell?_of_block (y8.blk _ hlt2 (Y6.out.sep _ (BM.out.lt) nM2))).trans hbm7
      clear m8 y8 hb8 hp8
      go_wp2
      refine leaves_cons (f := 50) (args := #[.pointer (some ⟨w.heap.size, 0, none⟩), .pointer (some ⟨w.heap.size + 1, 0, none⟩)]) (by simp) (by simp [go_sem]) ?_
      refine (rel_any _ _ _ _ _ _ hbx8 hbm8).mono ?_
      rintro e u' w'' ⟨rfl, rfl, rfl⟩
      simp only [Leaves, settle]
      exact RR.out
end Go.Proofs
end
section
namespace Go.Proofs
open Go.RowKit
open Pl
/-! ## what the matching begins with -/
theorem ta173 {U : TypeId} (hU : U ∈ dcTypes) (h : U ≠ 173) (a : Addr) (w : World) : (Instr.typeAssert (.iface U (.pointer (some a))) 119 173 true).run Tryz.prog w = .ok (.tuple #[.pointer none, .bool false]) w := by
  unfold dcTypes at hU
  simp only [List.mem_cons, List.not_mem_nil, or_false] at hU
  rcases hU with rfl | rfl | rfl | rfl | rfl | rfl <;> first | (exact absurd rfl h) | kernel_rfl
theorem ta173' (a : Addr) (w : World) : (Instr.typeAssert (.iface 173 (.pointer (some a))) 119 173 true).run Tryz.prog w = .ok (.tuple #[.pointer (some a), .bool true]) w := by kernel_rfl

theorem ndfa_any (U : TypeId) (hU : U ∈ dcTypes) (b : Nat) (i : Int) (w : World) (h : U = 173 → w.cell? ⟨b, 10, none⟩ = some (.bool false)) :
    Calls Tryz.prog 33 #[.iface U (.pointer (some ⟨b, 0, none⟩)), .int .i64 i] w fun e w' => e = .returned (.pointer (some ⟨w.heap.size, 0, none⟩)) ∧
      w.alloc (.cells #[.slice none 0 0, .iface U (.pointer (some ⟨b, 0, none⟩)), .int .i64 i, .pointer none, .int .i64 0, .pointer none, .bool false] 141) = w' := by
  have t1 := fun h a w => ta173 hU h a w
  have t2 := fun a w => ta173' a w
  by_cases hu : U = 173
  · subst hu
    have hb := h rfl
    have hl := cell_lt hb
    clear h t1
    go_enter Tryz.func33, Tryz.ntmps33
    go_wp2
    go_ret
    exact ⟨rfl, rfl⟩
  · have t3 := fun a w => t1 hu a w
    clear h t1 t2
    go_enter Tryz.func33, Tryz.ntmps33
    go_wp2
    go_ret
    exact ⟨rfl, rfl⟩

theorem nss_any (w : World) : Calls Tryz.prog 48 #[] w fun e w' => e = .returned (.pointer (some ⟨w.heap.size, 0, none⟩)) ∧
    w.alloc (.cells #[.int .i64 (-1), .int .i64 0, .int .i64 (-1), .pointer none] 227) = w' := by
  have HB : Hid (Blk (w.alloc (.cells #[.int .i64 0, .int .i64 0, .int .i64 0, .pointer none] 227)) w.heap.size 227 #[.int .i64 0, .int .i64 0, .int .i64 0, .pointer none]) := Lib.hid (Blk.new _ _ _)
  go_enter Tryz.func48, Tryz.ntmps48
  go_wp2_with (first | (go_at_call 76; refine (rst_any _ _ _ HB.out rfl).mono ?_; rintro e w' ⟨rfl, rfl⟩))
  go_ret
  exact ⟨rfl, rfl⟩

theorem mkMap2 (w : World) : (Instr.makeMap 229 (some (.int .i64 1))).run Tryz.prog w = .ok (.map (some w.heap.size)) (w.alloc (.map #[] 0)) := by
  simp [Instr.makeMap, run_underlying Tryz.underlying229, asInt, asIntOf]
theorem njm_any (cmp : Addr) (n s : Value) (w : World) : Calls Tryz.prog 49 #[.iface 198 (.pointer (some cmp)), n, s] w fun e w' => ∃ b, e = .returned (.pointer (some ⟨b, 0, none⟩)) ∧ Kp (fun _ => True) w w' := by
  have m1 := fun w => mkMap2 w
  go_enter Tryz.func49, Tryz.ntmps49
  go_wp2
  go_ret
  exact ⟨_, rfl, (Kp.alloc _ _).trans (Kp.alloc _ _)⟩
theorem npcc_any (w : World) : Calls Tryz.prog 35 #[] w fun e w' => ∃ b, e = .returned (.pointer (some ⟨b, 0, none⟩)) ∧ Kp (fun _ => True) w w' := by
  go_enter Tryz.func35, Tryz.ntmps35
  go_wp2_with (first | (go_at_call 49; refine (njm_any _ _ _ _).mono ?_; rintro e w3 ⟨b3, rfl, kp3⟩))
  go_ret
  exact ⟨_, rfl, ((Kp.alloc _ _).trans kp3).trans (Kp.alloc _ _)⟩

/-- The simulator that is made. -/
def simQ0 (w : World) (ab ca dr nd ndc : Nat) (rc : Value) : SimQ := ⟨w.heap.size, ab, ca, dr, nd, ndc, rc, 0, w.heap.size + 1, -1, 1, 0, 0⟩
theorem nsim_any (rb : Nat) (ab ca dr nd ndc : Nat) (w : World) : Calls Tryz.prog 34 #[.iface 105 (.pointer (some ⟨rb, 0, none⟩)), .pointer (some ⟨ab, 0, none⟩), .slice (some ⟨dr, 0, none⟩) nd ndc, .pointer (some ⟨ca, 0, none⟩)] w fun e w' => e = .returned (.pointer (some ⟨w.heap.size, 0, none⟩)) ∧
    (w.alloc (.cells (simK (simQ0 w ab ca dr nd ndc (.iface 105 (.pointer (some ⟨rb, 0, none⟩))))) 192)).alloc (.cells #[.int .i64 (-1), .int .i64 0, .int .i64 (-1), .pointer none] 227) = w' := by
  go_enter Tryz.func34, Tryz.ntmps34
  go_wp2_with (first | (go_at_call 48; refine (nss_any _).mono ?_; rintro e w3 ⟨rfl, rfl⟩))
  go_ret
  exact ⟨rfl, rfl⟩

theorem gln_any (b : Nat) (v : Value) (w : World) (h : w.cell? ⟨b, 7, none⟩ = some v) : Calls Tryz.prog 39 #[.pointer (some ⟨b, 0, none⟩)] w fun e w' => e = .returned v ∧ w = w' := by
  go_enter Tryz.func39, Tryz.ntmps39
  go_wp2
  go_ret
  exact ⟨rfl, rfl⟩
theorem gcp_any (b : Nat) (v : Value) (w : World) (h : w.cell? ⟨b, 8, none⟩ = some v) : Calls Tryz.prog 40 #[.pointer (some ⟨b, 0, none⟩)] w fun e w' => e = .returned v ∧ w = w' := by
  go_enter Tryz.func40, Tryz.ntmps40
  go_wp2
  go_ret
  exact ⟨rfl, rfl⟩

theorem neE1 (p : Value) (w : World) : (binOp .neq 20 (.iface 129 p) .nilIface).run Tryz.prog w = .ok (.bool true) w := by kernel_rfl
theorem neE0 (w : World) : (binOp .neq 20 .nilIface .nilIface).run Tryz.prog w = .ok (.bool false) w := by kernel_rfl
theorem ta129 (a : Addr) (w : World) : (Instr.typeAssert (.iface 129 (.pointer (some a))) 20 129 true).run Tryz.prog w = .ok (.tuple #[.pointer (some a), .bool true]) w := by kernel_rfl
theorem rep18 (v : Value) : #[v] ++ Array.replicate 18 undef = #[v, undef, undef, undef, undef, undef, undef, undef, undef, undef, undef, undef, undef, undef, undef, undef, undef, undef, undef] := by simp [Array.replicate, List.replicate]

theorem catch_panicking (p : Addr) (x : Int) (b : Nat) (st : Int) (older : List PanicEntry) (w : World) (hc : w.cell? p = some (.int .i64 x)) (hz : w.frozen? p = false) (hb : w.cell? ⟨b, 0, none⟩ = some (.int .i64 st)) :
    CallsD Tryz.prog 36 #[.pointer (some p)] (.panicking ({ v := .iface 129 (.pointer (some ⟨b, 0, none⟩)), recovered := false } :: older)) w fun e u' w' =>
      e = .returned (.tuple #[]) ∧ u' = .panicking ({ v := .iface 129 (.pointer (some ⟨b, 0, none⟩)), recovered := true } :: older) ∧ w' = w.setCell p (.int .i64 st) := by
  have n1 := fun p w => neE1 p w
  have t1 := fun a w => ta129 a w
  refine callsD_of_wpS Tryz.func36 rfl fun c₀ cs hu => ?_
  rw [show Tryz.f36.ntmps - (#[Value.pointer (some p)] : Array Value).size = 18 from rfl, rep18]
  apply wpS_seq
  apply wpS_region
  simp [wpOpsS, go_sem, recoverD, hu, Exit.thenS]
  apply wpS_seq
  apply wpS_region
  simp [wpOpsS, go_sem, n1, Exit.thenS]
  refine wpS_cond (t := true) (by simp [Act.eval]) ?_
  simp only [if_true]
  apply wpS_seq
  apply wpS_region
  simp [wpOpsS, go_sem, t1, Exit.thenS]
  apply wpS_seq
  apply wpS_seq
  apply wpS_region
  simp [wpOpsS, go_sem, Exit.thenS]
  refine wpS_cond (t := false) (by simp [Act.eval]) ?_
  simp only [Bool.false_eq_true, if_false]
  refine wpS_of_wp (wp_skip ?_)
  simp only [Exit.thenS]
  apply wpS_region
  simp [wpOpsS, go_sem, hc, hz, hb, bodyPostS, results, Tryz.results36]

theorem catch_idle (p : Addr) (w : World) :
    CallsD Tryz.prog 36 #[.pointer (some p)] .returning w fun e u' w' => e = .returned (.tuple #[]) ∧ u' = .returning ∧ w' = w := by
  have n1 := fun w => neE0 w
  refine callsD_of_wpS Tryz.func36 rfl fun c₀ cs hu => ?_
  rw [show Tryz.f36.ntmps - (#[Value.pointer (some p)] : Array Value).size = 18 from rfl, rep18]
  apply wpS_seq
  apply wpS_region
  simp [wpOpsS, go_sem, recoverD, hu, Exit.thenS]
  apply wpS_seq
  apply wpS_region
  simp [wpOpsS, go_sem, n1, Exit.thenS]
  refine wpS_cond (t := false) (by simp [Act.eval]) ?_
  simp only [Bool.false_eq_true, if_false]
  refine wpS_of_wp (wp_skip ?_)
  cases c₀
  simp_all [bodyPostS, results, Tryz.results36]
end Go.Proofs
end
section
namespace Go.Proofs
open Go.RowKit
open Pl
/-! ## the tokens, one after the other -/
/-- A DFA that is new. -/
def DfP (w : World) (b : Nat) : Prop := ∃ (a1 : Value) (i : Int), Blk w b 141 #[.slice none 0 0, a1, .int .i64 i, .pointer none, .int .i64 0, .pointer none, .bool false]
theorem DfP.kept {w w' : World} {b : Nat} (h : DfP w b) (e : w'.heap[b]? = w.heap[b]?) : DfP w' b := by
  obtain ⟨a1, i, h1⟩ := h; exact ⟨a1, i, h1.kept e⟩
theorem DfP.lt {w : World} {b : Nat} (h : DfP w b) : b < w.heap.size := by obtain ⟨a1, i, h1⟩ := h; exact h1.lt

def ptrs (bs : List Nat) : List Value := bs.map fun b => .pointer (some ⟨b, 0, none⟩)

/-- What is read of the network's decisions. -/
structure DcF (B0 : Nat) (w : World) (N : Bd) (v : AV) (ab nd : Nat) : Prop where
  row : ∃ db c, LC B0 w ab 0 (.slice (some ⟨db, 0, none⟩) nd c) ∧ ∀ i, i < nd → ∃ s, s < N.st.length ∧ LC B0 w db i (.iface (kTy (N.kind s)) (.pointer (some ⟨v.st s, 0, none⟩))) ∧ kTy (N.kind s) ∈ dcTypes ∧ (kTy (N.kind s) = 173 → LC B0 w (v.st s) 10 (.bool false))
  pos : 0 < nd
  few : nd ≤ 1000000

/-- Some DFAs. -/
structure Dfs (B : Nat) (w0 w : World) (sl : Value) (bs : List Nat) : Prop where
  own : w.ownsRow B 120 1 sl bs.length (ptrs bs)
  ea : ∀ b ∈ bs, DfP w b ∧ B ≤ b
  nd : bs.Nodup
  kp : Kp (fun k => k < B) w0 w

def LpD (B : Nat) (w0 : World) (nd : Nat) (t10 t26 : Value) (wr : World) : Prop := ∃ bs, t26 = .int .i64 (bs.length : Nat) ∧ bs.length ≤ nd ∧ Dfs B w0 wr t10 bs

theorem info120 : (Tryz.prog.info? 120).map (fun i => (i.zero, i.size, i.bytes)) = some (some (.pointer none), 1, 8) := by kernel_rfl
theorem heap_new2 (w : World) (a b : Obj) : ((w.alloc a).alloc b).heap[w.heap.size + 1]? = some b := by
  have := heap_alloc_new (w.alloc a) b
  simpa using this
theorem ptrs_len (bs : List Nat) : (ptrs bs).length = bs.length := by simp [ptrs]
theorem Dfs.step {B : Nat} {w0 wr w1 : World} {sl : Value} {bs : List Nat} (D : Dfs B w0 wr sl bs) (hB : B ≤ wr.heap.size) (a1 : Value) (i : Int) (o : Obj) (gg cap : Nat)
    (own : w1.ownsRow B 120 1 (.slice (some ⟨gg, 0, none⟩) (bs.length + 1) cap) (bs.length + 1) (ptrs bs ++ [.pointer (some ⟨wr.heap.size, 0, none⟩)]))
    (hg : ((wr.alloc (.cells #[.slice none 0 0, a1, .int .i64 i, .pointer none, .int .i64 0, .pointer none, .bool false] 141)).alloc o).grownBy w1 sl.ownBlock) :
    Dfs B w0 w1 (.slice (some ⟨gg, 0, none⟩) (bs.length + 1) cap) (bs ++ [wr.heap.size]) := by
  have no : ∀ b ∈ bs, some b ≠ sl.ownBlock := by
    intro b hb e
    obtain ⟨a1, i, h1⟩ := (D.ea b hb).1
    obtain ⟨_, _, c, h2⟩ := own_blk D.own e.symm
    unfold Blk at h1
    rw [h1] at h2; simp at h2
  have nn : some wr.heap.size ≠ sl.ownBlock := fun e => by have := (own_blk D.own e.symm).2.1; omega
  have k1 : Kp (fun k => some k ≠ sl.ownBlock) wr w1 := ((Kp.alloc _ _).trans (Kp.alloc _ _)).trans (Kp.grown hg (fun k hk => hk))
  refine ⟨?_, ?_, ?_, ?_⟩
  · have : ptrs (bs ++ [wr.heap.size]) = ptrs bs ++ [.pointer (some ⟨wr.heap.size, 0, none⟩)] := by simp [ptrs]
    rw [this]; simpa using own
  · intro b hb
    rcases List.mem_append.1 hb with hb | hb
    · exact ⟨(D.ea b hb).1.kept (k1.blk b (D.ea b hb).1.lt (no b hb)), (D.ea b hb).2⟩
    · simp only [List.mem_singleton] at hb; subst hb
      refine ⟨⟨a1, i, ?_⟩, hB⟩
      have h0 := (Blk.new wr 141 #[.slice none 0 0, a1, .int .i64 i, .pointer none, .int .i64 0, .pointer none, .bool false]).alloc o
      exact h0.kept (hg.block _ (by simp; omega) nn)
  · rw [List.nodup_append]
    refine ⟨D.nd, by simp, ?_⟩
    intro a ha b hb e
    simp only [List.mem_singleton] at hb
    have := (D.ea a ha).1.lt
    omega
  · refine D.kp.trans (k1.weak fun k hk => ?_)
    intro e
    have := (own_blk D.own e.symm).1
    have h2 : k < B := by first | exact hk.1 | exact hk
    omega

/-- What is not told of a block that is none of the DFA's. -/
theorem Frz.kept2 {B0 : Nat} {w w' : World} {N : Bd} {v : AV} {f : Nat} {d : DS} (h : Frz w N v f d) (hn : AtnAt B0 w N v) (no : ∀ {j : Nat} {c : Array Value} {T : TypeId}, w.heap[j]? = some (.cells c T (0, 0)) → (T = 161 ∨ T = 153 ∨ T = 329 ∨ T = 483) → w'.heap[j]? = w.heap[j]?) (kb : Kp (fun k => k < B0) w w') : Frz w' N v f d := by
  refine ⟨?_, ?_, h.ty, ?_, ?_, ?_, ?_, h.keys, h.few, h.ne, h.met⟩
  · exact own_kept' h.ask (fun j hj => by obtain ⟨_, _, c, hc⟩ := own_blk h.ask hj; exact no hc (by simp))
  · exact own_kept' h.cfg (fun j hj => by obtain ⟨_, _, c, hc⟩ := own_blk h.cfg hj; exact no hc (by simp))
  · intro y hy
    obtain ⟨t, ht⟩ := h.keys.all y hy
    refine (World.cell?_of_block (kb.blk y.s (cell_lt (h.sn y hy)) ?_)).trans (h.sn y hy)
    have h2 := (hn t ht.lt).sn.lt
    show y.s < B0
    rw [ht.b]
    exact h2
  · exact fun y hy => Blk.kept (h.ctx y hy) (no (h.ctx y hy) (by simp))
  · exact fun y hy => Blk.kept (h.sem y hy) (no (h.sem y hy) (by simp))
  · exact fun y hy => Blk.kept (h.b y hy) (no (h.b y hy) (by simp))

/-- Another block than those of the DFA changes. -/
structure Off (B0 : Nat) (w : World) (g : GS) (b : Nat) : Prop where
  m : ¬ g.M b
  low : B0 ≤ b
  ty : ∀ c T, w.heap[b]? = some (.cells c T (0, 0)) → ¬ (T = 161 ∨ T = 153 ∨ T = 329 ∨ T = 483)
theorem LX.off {B0 : Nat} {w w' : World} {N : Bd} {v : AV} {f : Nat} {g : GS} (h : LX B0 w N v f g) (b : Nat) (o : Off B0 w g b) (kp : Kp (fun k => k ≠ b) w w') : LX B0 w' N v f g where
  typ := fun k τ hk => by
    obtain ⟨o', h1, h2⟩ := h.typ k τ hk
    exact ⟨o', (kp.blk k (h.Mlt (.inl (by rw [hk]; simp))) (fun e => o.m (.inl (by rw [← e, hk]; simp)))).trans h1, h2⟩
  frz := fun k d hk => (h.frz k d hk).kept2 h.net (fun {j c T} hj hT => kp.blk j (lt_of_block hj) (fun e => o.ty c T (by rw [← e]; exact hj) hT)) (kp.weak (fun j hj e => by have := o.low; omega))
  dfa := h.dfa.kept (kp.blk _ h.dfa.lt (fun e => o.m (.inr (.inr (.inl e.symm)))))
  s0 := h.s0
  ask := own_kept' h.ask (fun k hk => kp.blk k (own_blk h.ask hk).2.1 (fun e => o.m (.inr (.inr (.inr (.inl (by rw [← e]; exact hk)))))))
  askd := h.askd
  few := h.few
  js := fun j hj => (h.js j hj).kept (fun i hi => kp.blk i ((h.js j hj).ownlt hi) (fun e => o.m (.inr (.inr (.inr (.inr ⟨j, hj, by rw [← e]; exact hi⟩))))))
  apD := h.apD
  apA := h.apA
  apJ := h.apJ
  apR := fun k hk => ⟨(h.apR k hk).1, (h.apR k hk).2.1, (h.apR k hk).2.2.1, (h.apR k hk).2.2.2.1, Nat.lt_of_lt_of_le (h.apR k hk).2.2.2.2 kp.size⟩
  rtT := fun k hk => (h.rtT k hk).kept (kp.blk k (h.apR k hk).2.2.2.2 (fun e => o.m (.inr (.inl (by rw [← e]; exact hk)))))
  low := h.low
  hB := Nat.le_trans h.hB kp.size
  net := h.net.kept (kp.weak (fun j hj e => by have := o.low; omega))

theorem MRe.off {B0 : Nat} {w w' : World} {N : Bd} {v : AV} {f : Nat} {g : GS} {q : SimQ} {i : InQ} {tt nr pos : Nat} {pi pl pc : Int} {pd : Option Nat} (h : MRe B0 w N v f g q i tt nr pos pi pl pc pd) (b : Nat) (o : Off B0 w g b) (o2 : ∀ c T, w.heap[b]? = some (.cells c T (0, 0)) → T ≠ 120 ∧ T ≠ 21) (kp : Kp (fun k => k ≠ b) w w') :
    MRe B0 w' N v f g q i tt nr pos pi pl pc pd where
  lx := h.lx.off b o kp
  env := { sim := h.env.sim.kept (kp.blk _ h.env.sim.lt (fun e => o.m (.inr (.inl (by rw [← e]; exact h.env.simR))))), simR := h.env.simR,
           dr := by
             obtain ⟨cs, h1, h2⟩ := h.env.dr
             exact ⟨cs, h1.kept (kp.blk _ h1.lt (fun e => (o2 cs 120 (by rw [← e]; exact h1)).1 rfl)), h2⟩
           nd := h.env.nd, atf := h.env.atf.kept (kp.weak (fun j hj e => by have := o.low; omega)) }
  inp := ⟨h.inp.blk.kept (kp.blk _ h.inp.blk.lt (fun e => o.m (.inr (.inl (by rw [← e]; exact h.inR))))), fun k hk => by
    obtain ⟨rb, cs, r, h1, h2, h3⟩ := h.inp.row k hk
    exact ⟨rb, cs, r, h1, h2.kept (kp.blk _ h2.lt (fun e => (o2 cs 21 (by rw [← e]; exact h2)).2 rfl)), h3⟩, h.inp.le, h.inp.few⟩
  inR := h.inR
  pv := ⟨h.pv.blk.kept (kp.blk _ h.pv.blk.lt (fun e => o.m (.inr (.inl (by rw [← e]; exact h.pvR))))), h.pv.pd⟩
  pvR := h.pvR

theorem Fy.app {w0 w w' : World} {g0 g : GS} (h : Fy w0 g0 w g) (kp : Kp (fun k => k < w0.heap.size) w w') : Fy w0 g0 w' g :=
  ⟨SO.trans (h.so) (kp.so), Nat.le_trans h.size kp.size, fun k hk hm => (kp.blk k (Nat.lt_of_lt_of_le hk h.size) hk).trans (h.blk k hk hm), h.sep, h.ty, h.rt, h.dfa, h.asl⟩

/-- The DFA, as the matching begins. -/
def gs0 (sim pv ib d0 : Nat) (a1 : Value) (i : Int) : GS := { ty := fun _ => none, rt := fun k => k = sim ∨ k = pv ∨ k = ib, dfa := d0, ask := .slice none 0 0, asked := [], js := none, s0 := none, a1 := a1, a2 := i, a4 := 0, a6 := false }
theorem gs0M (sim pv ib d0 : Nat) (a1 : Value) (i : Int) (k : Nat) : (gs0 sim pv ib d0 a1 i).M k ↔ (k = sim ∨ k = pv ∨ k = ib) ∨ k = d0 := by
  constructor
  · rintro (h | h | h | h | ⟨j, h, _⟩)
    · exact absurd rfl h
    · exact .inl h
    · exact .inr h
    · simp [gs0, Value.ownBlock] at h
    · simp [gs0] at h
  · rintro (h | h)
    · exact .inr (.inl h)
    · exact .inr (.inr (.inl h))

theorem MRe.new {B0 : Nat} {w : World} {N : Bd} {v : AV} {f : Nat} {q : SimQ} {i : InQ} {tt nr : Nat} {d0 : Nat} {a1 : Value} {j : Int}
    (hat : AtnAt B0 w N v) (haf : AtF B0 w N v q.ab tt nr) (hs : Blk w q.sim 192 (simK q)) (hp : Blk w q.prev 227 #[.int .i64 (-1), .int .i64 0, .int .i64 (-1), .pointer none])
    (hi : InAt w i 0) (hd : ∃ cs, Blk w q.dr 120 cs ∧ cs[0]? = some (.pointer (some ⟨d0, 0, none⟩))) (hn : 0 < q.nd ∧ q.nd ≤ 1000000)
    (h0 : Blk w d0 141 #[.slice none 0 0, a1, .int .i64 j, .pointer none, .int .i64 0, .pointer none, .bool false]) (l1 : B0 ≤ q.sim) (l2 : B0 ≤ q.prev) (l3 : B0 ≤ i.ib) (l4 : B0 ≤ d0) :
    MRe B0 w N v f (gs0 q.sim q.prev i.ib d0 a1 j) q i tt nr 0 (-1) 0 (-1) none := by
  have e1 : q.sim ≠ d0 := fun e => by unfold Blk at hs h0; rw [e, h0] at hs; simp at hs
  have e2 : q.prev ≠ d0 := fun e => by unfold Blk at hp h0; rw [e, h0] at hp; simp at hp
  have e3 : i.ib ≠ d0 := fun e => by have h1 := hi.blk; unfold Blk at h1 h0; rw [e, h0] at h1; simp at h1
  have hM : ∀ k, (gs0 q.sim q.prev i.ib d0 a1 j).M k → B0 ≤ k := by
    intro k hk
    rcases (gs0M _ _ _ _ _ _ _).1 hk with (rfl | rfl | rfl) | rfl <;> assumption
  refine ⟨⟨fun k τ hk => by simp [gs0] at hk, fun k τ hk => by simp [gs0] at hk, h0, fun b hb => by simp [gs0] at hb, ⟨rfl, .inl ⟨rfl, rfl⟩⟩, fun d hd => by simp [gs0] at hd, by simp [gs0], fun j hj => by simp [gs0] at hj, ⟨rfl, fun ⟨j, hj, _⟩ => by simp [gs0] at hj, by simp [gs0, Value.ownBlock]⟩, fun k hk => by simp [gs0, Value.ownBlock] at hk, fun k ⟨j, hj, _⟩ => by simp [gs0] at hj, ?_, ?_, hM, ?_, hat⟩, ⟨hs, .inl rfl, hd, hn, haf⟩, hi, .inr (.inr rfl), ⟨hp, fun b hb => by cases hb⟩, .inr (.inl rfl)⟩
  · intro k hk
    refine ⟨rfl, ?_, by simp [gs0, Value.ownBlock], fun ⟨j, hj, _⟩ => by simp [gs0] at hj, ?_⟩
    · rcases hk with rfl | rfl | rfl <;> assumption
    · rcases hk with rfl | rfl | rfl
      · exact hs.lt
      · exact hp.lt
      · exact hi.blk.lt
  · intro k hk
    rcases hk with rfl | rfl | rfl
    · exact ⟨_, _, hs, .inl rfl⟩
    · exact ⟨_, _, hp, .inr (.inl rfl)⟩
    · exact ⟨_, _, hi.blk, .inr (.inr (.inl rfl))⟩
  · have := h0.lt; omega


theorem runes_int (s : ByteArray) : ∀ (bound i : Nat) (acc : Array Value), (∀ k < acc.size, ∃ r, acc[k]? = some (.int .i32 r)) → ∀ k < (Conv.runesFrom s bound i acc).size, ∃ r, (Conv.runesFrom s bound i acc)[k]? = some (.int .i32 r)
  | 0, _, acc, h => by simpa [Conv.runesFrom] using h
  | bound + 1, i, acc, h => by
    unfold Conv.runesFrom
    split
    · refine runes_int s bound _ _ ?_
      intro k hk
      simp only [Array.size_push] at hk
      by_cases e : k < acc.size
      · obtain ⟨r, hr⟩ := h k e
        exact ⟨r, by rw [Array.getElem?_push_lt e, ← hr]; simp [e]⟩
      · have : k = acc.size := by omega
        subst this
        exact ⟨_, by simp; rfl⟩
    · exact h

/-- Where the matching of tokens stands. -/
def LpT (B0 : Nat) (w0 : World) (N : Bd) (v : AV) (f : Nat) (g0 : GS) (q0 : SimQ) (i : InQ) (tt nr : Nat) (t8 : Value) (wr : World) : Prop :=
  ∃ (g : GS) (q : SimQ) (pos : Nat) (pi pl pc : Int) (pd : Option Nat) (k : Nat) (xs : List Value), MRe B0 wr N v f g q i tt nr pos pi pl pc pd ∧ q.sim = q0.sim ∧ Fy w0 g0 wr g ∧ g.asked.length ≤ 124 * pos ∧ (1 ≤ g.asked.length ∨ g.s0 = none) ∧ wr.ownsRow w0.heap.size 136 6 t8 k xs ∧ (∀ b, t8.ownBlock = some b → ¬ g.M b) ∧ k ≤ pos
theorem MRe.posOf {B0 : Nat} {w : World} {N : Bd} {v : AV} {f : Nat} {g : GS} {q : SimQ} {i : InQ} {tt nr pos : Nat} {pi pl pc : Int} {pd : Option Nat} (h : MRe B0 w N v f g q i tt nr pos pi pl pc pd) : Proofs.posOf w i.ib = pos := by
  have : w.cell? ⟨i.ib, 1, none⟩ = some (.int .i64 (pos : Int)) := h.inp.blk.cell 1
  unfold Proofs.posOf
  rw [this]; simp
theorem LC.of {B0 : Nat} {w w' : World} (k : Kp (fun _ => True) w w') : Kp (fun k => k < B0) w w' := k.weak (fun _ _ => trivial)

/-- What the matching of all tokens leaves. -/
def MaOut (B0 : Nat) (w0 : World) (N : Bd) (v : AV) (f nd : Nat) (e : Ending) (w' : World) : Prop :=
  ∃ (t8 : Value) (fl : Int) (dr cap : Nat) (g : GS) (bs : List Nat), e = .returned (.tuple #[t8, .int .i64 fl, .slice (some ⟨dr, 0, none⟩) nd cap]) ∧ LX B0 w' N v f g ∧ 1 ≤ g.asked.length ∧ g.asked.length ≤ 10000 ∧ bs.length = nd ∧
    w'.ownsRow 0 120 1 (.slice (some ⟨dr, 0, none⟩) nd cap) nd (ptrs bs) ∧ bs[0]? = some g.dfa ∧ (∀ i b, bs[i]? = some b → 0 < i → w'.cell? ⟨b, 0, none⟩ = some (.slice none 0 0)) ∧ Kp (fun _ => True) w0 w'

theorem kp_mid {w a b c : World} (h1 : Kp (fun _ => True) w a) (h2 : Kp (fun k => k < a.heap.size) a b) (h3 : Kp (fun _ => True) b c) : Kp (fun _ => True) w c :=
  ⟨SO.trans (h1.so) (SO.trans (h2.so) (h3.so)), Nat.le_trans h1.size (Nat.le_trans h2.size h3.size), fun k hk _ => (h3.blk k (Nat.lt_of_lt_of_le hk (Nat.le_trans h1.size h2.size)) trivial).trans ((h2.blk k (Nat.lt_of_lt_of_le hk h1.size) (Nat.lt_of_lt_of_le hk h1.size)).trans (h1.blk k hk trivial))⟩

theorem gs0_no {B0 S gd : Nat} {w : World} {N : Bd} {v : AV} {f : Nat} {q : SimQ} {i : InQ} {tt nr d0 : Nat} {a1 : Value} {j : Int} {cs : Array Value} (h : MRe B0 w N v f (gs0 q.sim q.prev i.ib d0 a1 j) q i tt nr 0 (-1) 0 (-1) none)
    (h1 : S ≤ q.sim) (h2 : S ≤ q.prev) (h3 : S ≤ i.ib) (h4 : S ≤ d0) (hg : Blk w gd 120 cs) (k : Nat) (hk : k < S ∨ k = gd ∨ (k ≠ d0 ∧ DfP w k)) : ¬ (gs0 q.sim q.prev i.ib d0 a1 j).M k := by
  intro hm
  have b1 := h.env.sim
  have b2 := h.pv.blk
  have b3 := h.inp.blk
  have b4 := h.lx.dfa
  rcases hk with hk | rfl | ⟨hk, a2, i2, hd⟩
  · rcases (gs0M _ _ _ _ _ _ _).1 hm with (rfl | rfl | rfl) | rfl <;> omega
  · unfold Blk at b1 b2 b3 b4 hg
    rcases (gs0M _ _ _ _ _ _ _).1 hm with (rfl | rfl | rfl) | e
    · rw [hg] at b1; simp at b1
    · rw [hg] at b2; simp at b2
    · rw [hg] at b3; simp at b3
    · subst e
      have b5 : w.heap[k]? = some (.cells (dfaK (gs0 q.sim q.prev i.ib k a1 j)) 141 (0, 0)) := b4
      rw [hg] at b5; simp at b5
  · unfold Blk at b1 b2 b3 hd
    rcases (gs0M _ _ _ _ _ _ _).1 hm with (rfl | rfl | rfl) | rfl
    · rw [hd] at b1; simp at b1
    · rw [hd] at b2; simp at b2
    · rw [hd] at b3; simp at b3
    · exact hk rfl

theorem info136 : (Tryz.prog.info? 136).map (fun i => (i.zero, i.size, i.bytes)) = some (some (.agg #[.int .i64 0, .int .i64 0, .int .i64 0, .int .i64 0, .int .i64 0, .slice none 0 0]), 6, 64) := by kernel_rfl

/-- A token is put behind the others. -/
theorem MRe.app {B0 S : Nat} {w w1 : World} {N : Bd} {v : AV} {f : Nat} {g : GS} {q : SimQ} {i : InQ} {tt nr pos : Nat} {pi pl pc : Int} {pd : Option Nat} (h : MRe B0 w N v f g q i tt nr pos pi pl pc pd) (hS : B0 ≤ S) {t8 : Value} {k : Nat} {xs : List Value}
    (tk : w.ownsRow S 136 6 t8 k xs) (nt : ∀ b, t8.ownBlock = some b → ¬ g.M b) (o : Obj) (hg : (w.drew.alloc o).grownBy w1 t8.ownBlock) : MRe B0 w1 N v f g q i tt nr pos pi pl pc pd ∧ Kp (fun k => k < S) w w1 := by
  have ka : Kp (fun _ => True) w (w.drew.alloc o) := (Kp.drew _).trans (Kp.alloc _ _)
  cases ho : t8.ownBlock with
  | none =>
    rw [ho] at hg
    have kk : Kp (fun _ => True) w w1 := ka.trans (Kp.grown hg (fun k _ => by simp))
    exact ⟨h.fm (h.lx.all kk) (Fm.all g kk), kk.weak (fun _ _ => trivial)⟩
  | some b =>
    rw [ho] at hg
    obtain ⟨b1, b2, c, b3⟩ := own_blk tk ho
    have kk : Kp (fun k => k ≠ b) w w1 := (ka.weak (fun _ _ => trivial)).trans (Kp.grown hg (fun k hk e => hk (by simpa using e)))
    refine ⟨h.off b ⟨nt b ho, by omega, ?_⟩ ?_ kk, kk.weak (fun k hk e => by omega)⟩
    · intro c' T hT e
      rw [b3] at hT; cases hT
      simp at e
    · intro c' T hT
      rw [b3] at hT; cases hT
      simp

theorem ma_out {B0 S fb gd nd cd d0 : Nat} {w w8 wz w' : World} {N : Bd} {v : AV} {f : Nat} {g0 g : GS} {bs : List Nat} (hl : LX B0 w' N v f g) (h1 : 1 ≤ g.asked.length) (h2 : g.asked.length ≤ 10000) (fy : Fy w8 g0 wz g) (kz : Kp (fun k => k ≠ fb) wz w') (k08 : Kp (fun _ => True) w w8)
    (hfb : w.heap.size ≤ fb) (hS : fb < S) (hS8 : S ≤ w8.heap.size) (o8 : w8.ownsRow S 120 1 (.slice (some ⟨gd, 0, none⟩) nd cd) nd (ptrs bs)) (hbl : bs.length = nd) (hd0 : bs[0]? = some d0) (hg0 : g0.dfa = d0) (hnd : bs.Nodup) (nz : ∀ b ∈ bs, b ≠ d0 → DfP w8 b) (ea : ∀ b ∈ bs, S ≤ b)
    (nm : ∀ k, k < S ∨ k = gd ∨ (k ≠ d0 ∧ DfP w8 k) → ¬ g0.M k) (t8 : Value) (fl : Int) : MaOut B0 w N v f nd (.returned (.tuple #[t8, .int .i64 fl, .slice (some ⟨gd, 0, none⟩) nd cd])) w' := by
  obtain ⟨c1, c2, c3⟩ := own_blk o8 (k := gd) rfl
  have hz : w8.heap.size ≤ wz.heap.size := fy.size
  refine ⟨t8, fl, gd, cd, g, bs, rfl, hl, h1, h2, hbl, ?_, by rw [fy.dfa, hg0]; exact hd0, ?_, ?_⟩
  · have o9 : w'.ownsRow S 120 1 (.slice (some ⟨gd, 0, none⟩) nd cd) nd (ptrs bs) := own_kept' o8 (fun k hk => by
      simp [Value.ownBlock] at hk; subst hk
      exact (kz.blk _ (Nat.lt_of_lt_of_le c2 hz) (by omega)).trans (fy.blk _ c2 (nm _ (.inr (.inl rfl)))))
    refine ⟨o9.1, ?_⟩
    rcases o9.2 with h | ⟨g', cap', cur, e1, e2, e3⟩
    · exact .inl h
    · exact .inr ⟨g', cap', cur, e1, Nat.zero_le _, e3⟩
  · intro i b hb hi
    have hm := List.mem_of_getElem? hb
    have hne : b ≠ d0 := by
      intro e
      subst e
      obtain ⟨l1, e1⟩ := List.getElem?_eq_some_iff.1 hb
      obtain ⟨l2, e2⟩ := List.getElem?_eq_some_iff.1 hd0
      exact (List.pairwise_iff_getElem.1 hnd) 0 i l2 l1 hi (e2.trans e1.symm)
    have hp := nz b hm hne
    have hb8 := hp.lt
    obtain ⟨x1, x2, hx⟩ := hp
    have hx' : Blk w' b 141 _ := (hx.kept (fy.blk _ hb8 (nm _ (.inr (.inr ⟨hne, ⟨x1, x2, hx⟩⟩))))).kept (kz.blk _ (Nat.lt_of_lt_of_le hb8 hz) (by have := ea b hm; omega))
    exact hx'.cell 0
  · refine ⟨SO.trans k08.so (SO.trans fy.so kz.so), Nat.le_trans k08.size (Nat.le_trans hz kz.size), fun k hk _ => ?_⟩
    have h8 : k < w8.heap.size := Nat.lt_of_lt_of_le hk k08.size
    exact (kz.blk _ (Nat.lt_of_lt_of_le h8 hz) (by omega)).trans ((fy.blk _ h8 (nm _ (.inl (by omega)))).trans (k08.blk _ hk trivial))
end Go.Proofs
end
