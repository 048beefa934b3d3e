/- A part of the proof of the statement on the law FnStates, which the last text proves: part G09. -/
import Derived.Deep.CutRange
import Derived.Deep.DeepCutAuto
import Derived.Deep.CutBlock
import Derived.StillTailTactics
import Derived.Test.YtlceacefhnllbaaGreatDoorG08
set_option linter.all false
section
namespace Go.Proofs
open Go.RowKit
open Pl
/-! ## the simulator's surroundings -/

/-- What is read of the network's own block. -/
structure AtF (B0 : Nat) (w : World) (N : Bd) (v : AV) (ab tt nr : Nat) : Prop where
  htt : ∃ c, LC B0 w ab 8 (.slice (some ⟨tt, 0, none⟩) nr c)
  row : ∀ r, r < nr → ∃ n : Int, LC B0 w tt r (.int .i64 n)
  rule : ∀ s, s < N.st.length → (N.st.getD s ⟨0, 0, 0⟩).rule < nr
  few : nr ≤ 1000000
  mode : ∃ mb ml mc, LC B0 w ab 5 (.slice (some ⟨mb, 0, none⟩) ml mc) ∧ 0 < ml ∧ ml ≤ 1000000 ∧ LC B0 w mb 0 (.pointer (some ⟨v.st 0, 0, none⟩))
theorem AtF.kept {B0 : Nat} {w w' : World} {N : Bd} {v : AV} {ab tt nr : Nat} (h : AtF B0 w N v ab tt nr) (k : Kp (fun k => k < B0) w w') : AtF B0 w' N v ab tt nr where
  htt := by obtain ⟨c, h1⟩ := h.htt; exact ⟨c, h1.kept k⟩
  row := fun r hr => by obtain ⟨n, h1⟩ := h.row r hr; exact ⟨n, h1.kept k⟩
  rule := h.rule
  few := h.few
  mode := by obtain ⟨mb, ml, mc, h1, h2, h3, h4⟩ := h.mode; exact ⟨mb, ml, mc, h1.kept k, h2, h3, h4.kept k⟩

/-- The simulator. -/
structure SimQ where
  sim : Nat
  ab : Nat
  ca : Nat
  dr : Nat
  nd : Nat
  ndc : Nat
  rc : Value
  pm : Int
  prev : Nat
  si : Int
  ln : Int
  cp : Int
  mc : Int

def simK (q : SimQ) : Array Value :=
  #[.pointer (some ⟨q.ab, 0, none⟩), .pointer (some ⟨q.ca, 0, none⟩), .slice (some ⟨q.dr, 0, none⟩) q.nd q.ndc, q.rc, .int .i64 q.pm, .pointer none, .int .i64 q.si, .int .i64 q.ln, .int .i64 q.cp, .int .i64 0, .pointer (some ⟨q.prev, 0, none⟩), .int .i64 q.mc]

structure Env (B0 : Nat) (w : World) (N : Bd) (v : AV) (g : GS) (q : SimQ) (tt nr : Nat) : Prop where
  sim : Blk w q.sim 192 (simK q)
  simR : g.rt q.sim
  dr : ∃ cs, Blk w q.dr 120 cs ∧ cs[0]? = some (.pointer (some ⟨g.dfa, 0, none⟩))
  nd : 0 < q.nd ∧ q.nd ≤ 1000000
  atf : AtF B0 w N v q.ab tt nr

theorem Env.fm {B0 : Nat} {w w' : World} {N : Bd} {v : AV} {f : Nat} {g g' : GS} {q : SimQ} {tt nr : Nat} (h : Env B0 w N v g q tt nr) (hl : LX B0 w N v f g) (x : Fm w g w' g') : Env B0 w' N v g' q tt nr where
  sim := h.sim.kept (x.rts _ h.simR h.sim.lt)
  simR := by rw [x.rt]; exact h.simR
  dr := by
    obtain ⟨cs, h1, h2⟩ := h.dr
    refine ⟨cs, h1.kept (x.blk _ h1.lt (fun hm => ?_)), by rw [x.dfa]; exact h2⟩
    obtain ⟨⟨o, e1, e2⟩, _⟩ := hl.Mty _ hm
    have h1' : w.heap[q.dr]? = some (.cells cs 120 (0, 0)) := h1
    rw [h1'] at e1; cases e1
    rcases e2 with ⟨es, c, e⟩ | ⟨c, T, e, hT⟩
    · cases e
    · cases e; rcases hT with h | h | h | h | h | h | h | h | h <;> simp at h
  nd := h.nd
  atf := h.atf.kept (x.kp hl)

/-- What adding a state leaves. -/
def AdRet (B0 : Nat) (w0 : World) (N : Bd) (v : AV) (f : Nat) (g : GS) (e : Ending) (w' : World) : Prop :=
  ∃ (g' : GS) (d : DS), e = .returned d.ptr ∧ g'.ty d.b = some (.proper d) ∧ g'.asked.length ≤ g.asked.length + 2 ∧ g.asked.length + 1 ≤ g'.asked.length ∧ LX B0 w' N v f g' ∧ Fm w0 g w' g'

/-- A state is new: its number is told, its set is shut. -/
theorem LX.fin {B0 : Nat} {w : World} {N : Bd} {v : AV} {f : Nat} {g : GS} (h : LX B0 w N v f g) (d : DS) (hd : g.ty d.b = some (.proper d)) (n : Int) :
    LX B0 ((((w.setCell ⟨d.b, 0, none⟩ (.int .i64 n)).setCell ⟨d.cb, 8, none⟩ (.bool true)).setCell ⟨d.cb, 2, none⟩ (.pointer none)).setCell ⟨d.b, 1, none⟩ (.pointer (some ⟨d.cb, 0, none⟩))) N v f g ∧
    Fm w g ((((w.setCell ⟨d.b, 0, none⟩ (.int .i64 n)).setCell ⟨d.cb, 8, none⟩ (.bool true)).setCell ⟨d.cb, 2, none⟩ (.pointer none)).setCell ⟨d.b, 1, none⟩ (.pointer (some ⟨d.cb, 0, none⟩))) g := by
  have st1 : ∀ w : World, LX B0 w N v f g → ∀ i u, (i = 0 ∧ ∃ n, u = .int .i64 n) ∨ (i = 1 ∧ u = .pointer (some ⟨d.cb, 0, none⟩)) → LX B0 (w.setCell ⟨d.b, i, none⟩ u) N v f g ∧ Fm w g (w.setCell ⟨d.b, i, none⟩ u) g := by
    intro w h i u hu
    obtain ⟨o, o1, _, o2, sn, ed, ac, pr, rfl, o3⟩ := h.typ d.b _ hd
    have kp : Kp (fun j => j ≠ d.b) w (w.setCell ⟨d.b, i, none⟩ u) := Kp.setCell _ _ _ (by simp)
    have hb : Blk w d.b 152 (dstK sn d.cb ed ac pr) := o1
    rcases hu with ⟨rfl, n, rfl⟩ | ⟨rfl, rfl⟩
    · exact ⟨h.put d.b _ hd _ ⟨rfl, o2, n, ed, ac, pr, rfl, o3⟩ (hb.set 0 _ _ (by simp [dstK])) kp, Fm.put h d.b _ hd kp⟩
    · exact ⟨h.put d.b _ hd _ ⟨rfl, o2, sn, ed, ac, pr, rfl, o3⟩ (hb.set 1 _ _ (by simp [dstK])) kp, Fm.put h d.b _ hd kp⟩
  have hd2 : g.ty d.cb = some (.set d) := by obtain ⟨_, _, _, h2, _⟩ := h.typ d.b _ hd; exact h2
  have st2 : ∀ w : World, LX B0 w N v f g → ∀ i u, (i = 8 ∧ u = .bool true) ∨ (i = 2 ∧ u = .pointer none) → LX B0 (w.setCell ⟨d.cb, i, none⟩ u) N v f g ∧ Fm w g (w.setCell ⟨d.cb, i, none⟩ u) g := by
    intro w h i u hu
    obtain ⟨o, o1, _, ch, lk, ro, rfl, o3⟩ := h.typ d.cb _ hd2
    have kp : Kp (fun j => j ≠ d.cb) w (w.setCell ⟨d.cb, i, none⟩ u) := Kp.setCell _ _ _ (by simp)
    have hb : Blk w d.cb 147 (setK d.ask ch lk d.cfg ro) := o1
    rcases hu with ⟨rfl, rfl⟩ | ⟨rfl, rfl⟩
    · exact ⟨h.put d.cb _ hd2 _ ⟨rfl, ch, lk, true, rfl, o3⟩ (hb.set 8 _ _ (by simp [setK])) kp, Fm.put h d.cb _ hd2 kp⟩
    · exact ⟨h.put d.cb _ hd2 _ ⟨rfl, ch, none, ro, rfl, o3⟩ (hb.set 2 _ _ (by simp [setK])) kp, Fm.put h d.cb _ hd2 kp⟩
  obtain ⟨a1, b1⟩ := st1 w h 0 _ (.inl ⟨rfl, n, rfl⟩)
  obtain ⟨a2, b2⟩ := st2 _ a1 8 _ (.inl ⟨rfl, rfl⟩)
  obtain ⟨a3, b3⟩ := st2 _ a2 2 _ (.inr ⟨rfl, rfl⟩)
  obtain ⟨a4, b4⟩ := st1 _ a3 1 _ (.inr ⟨rfl, rfl⟩)
  exact ⟨a4, ((b1.trans b2).trans b3).trans b4⟩

theorem eqC_nil (a : Addr) (w : World) : (binOp .neq 153 (.pointer (some a)) (.pointer none)).run Tryz.prog w = .ok (.bool true) w := by kernel_rfl

set_option maxRecDepth 100000 in
set_option maxHeartbeats 4000000 in
theorem adst_any {B0 : Nat} {w0 w : World} {N : Bd} {v : AV} {f : Nat} {g : GS} {q : SimQ} {tt nr : Nat} (h0 : LX B0 w0 N v f g) (k0 : Kp (fun _ => True) w0 w) (hE : Env B0 w0 N v g q tt nr) (u : SU) (L : List Cf) (A : List (Nat × Nat))
    (hs : SetD w0.heap.size w u L) (hA : CfA N v A L) (hm : Pl.Met N f A) (hne : L ≠ []) (hl : A.length * 88 ≤ 140737488355328) (hask : g.asked.length + 2 ≤ 1000000) (sup : Bool) :
    Calls Tryz.prog 78 #[.pointer (some ⟨q.sim, 0, none⟩), .pointer (some ⟨u.sB, 0, none⟩), .bool sup] w fun e w' => AdRet B0 w0 N v f g e w' := by
  have hsc := hs.blk.cell
  simp only [setCells] at hsc
  obtain ⟨gc, cap, ecf, _⟩ := own_form hs.cfg (fun e => ddC_ne hne (List.eq_nil_of_length_eq_zero e))
  rw [ecf] at hsc
  have hcfg := hs.cfg
  rw [ecf] at hcfg
  have hrow : ∀ i x, (ddC L)[i]? = some x → w.cell? ⟨gc, i, none⟩ = some (.pointer (some ⟨x.b, 0, none⟩)) := fun i x hx => own_cell hcfg i _ (by unfold ptrC; rw [List.getElem?_map, hx]; rfl)
  have hfew : (ddC L).length ≤ 4000000000000 := Nat.le_trans (ddC_len L) (by have := hA.len; omega)
  have lgc : gc < w.heap.size := (own_blk hcfg rfl).2.1
  have lsB := hs.blk.lt
  have HS := Lib.hid hs
  have HR := Lib.hid hrow
  have H0 := Lib.hid h0
  have HE := Lib.hid hE
  have K0 := Lib.hid k0
  have HCF := Lib.hid ecf
  have HG := Lib.hid hcfg
  clear hs hrow h0 hE k0 ecf hcfg
  go_enter Tryz.func78, Tryz.ntmps78
  have hb0 : Hid (Kp (fun _ => True) w (w.alloc (.cells (dstK (-1) u.sB (.slice none 0 0) false 0) 152))) := Lib.hid (Kp.alloc _ _)
  have hbn : Hid (Blk (w.alloc (.cells (dstK (-1) u.sB (.slice none 0 0) false 0) 152)) w.heap.size 152 (dstK (-1) u.sB (.slice none 0 0) false 0)) := Lib.hid (Blk.new _ _ _)
  go_upto_block 0 with (first | (go_at_call 46; refine (ndst_any _ _ _).mono ?_; rintro e w4 ⟨rfl, rfl⟩))
  go_cut [8] (fun s8 wx => wx = w.alloc (.cells (dstK (-1) u.sB (.slice none 0 0) false 0) 152) ∧ ∃ o : Option Nat, s8 = .pointer (o.map fun b => ⟨b, 0, none⟩) ∧ ∀ b, o = some b → ∃ x ∈ ddC L, x.T = 269 ∧ x.b = b)
  case first =>
    go_wp2_with fail
    go_loop [8, 23] (fun s8 i => ∃ k : Nat, k ≤ (ddC L).length ∧ s8 = .pointer none ∧ i = .int .i64 k) (fun _ i => (ddC L).length - (intOf i).toNat)
    case atStart => exact ⟨0, Nat.zero_le _, rfl, rfl⟩
    case round =>
      obtain ⟨k, hk, rfl, rfl⟩ := hrel
      by_cases hkl : k < (ddC L).length
      · obtain ⟨x, hx⟩ : ∃ x, (ddC L)[k]? = some x := ⟨_, List.getElem?_eq_getElem hkl⟩
        have hcell := HR.out k x hx
        have hxb := (HS.out.b x (List.mem_of_getElem? hx)).blk
        have hxT := (HS.out.b x (List.mem_of_getElem? hx)).x.ty
        have hxm := Lib.hid (List.mem_of_getElem? hx)
        have hxc := hxb.cell
        have hxl := hxb.lt
        simp only [Cf.cells, confCells] at hxc
        clear hxb hx
        by_cases hT : x.T = 269
        · have hT' := Lib.hid hT
          rw [hT] at hxc
          have t1 := fun a w => taStop a w
          clear hT
          go_wp2_with (first | (go_at_call 113; refine (gState _ _ _ (by go_simp; first | done | rfl)).mono ?_; rintro e w' ⟨rfl, rfl⟩))
          go_meet
          exact ⟨rfl, some x.b, rfl, fun b hb => ⟨x, hxm.out, hT'.out, by cases hb; rfl⟩⟩
        · have t2 := fun a w => taNoStop hxT hT a w
          go_wp2_with (first | (go_at_call 113; refine (gState _ _ _ (by go_simp; first | done | rfl)).mono ?_; rintro e w' ⟨rfl, rfl⟩))
          exact ⟨⟨k + 1, by omega, rfl, by simp⟩, by simp [intOf]; omega⟩
      · obtain rfl : k = (ddC L).length := by omega
        go_wp2
        go_meet
        exact ⟨rfl, none, rfl, fun b hb => by cases hb⟩
  case rest =>
    obtain ⟨rfl, o, rfl, ho⟩ := hcut
    have HO := Lib.hid ho
    clear ho
    generalize hW : w.alloc (.cells (dstK (-1) u.sB (.slice none 0 0) false 0) 152) = W at hb0 hbn ⊢
    replace hW := Lib.hid hW
    have lbn : w.heap.size < W.heap.size := hbn.out.lt
    have hbc := hbn.out.cell
    have hbf := hbn.out.free
    go_upto_if 37 with fail
    go_cut [] (fun wx => (∃ ac pr, Blk wx w.heap.size 152 (dstK (-1) u.sB (.slice none 0 0) ac pr)) ∧ Kp (fun k => k ≠ w.heap.size) W wx)
    case first =>
      cases o with
      | none =>
        go_wp2_with fail
        go_meet
        exact ⟨⟨false, 0, hbn.out⟩, Kp.rfl'⟩
      | some b =>
        obtain ⟨x, hx, hT, rfl⟩ := HO.out b rfl
        have hxB := HS.out.b x hx
        have hxb : Blk W x.b 161 x.cells := hxB.blk.kept (hb0.out.blk _ hxB.blk.lt trivial)
        have hxl := hxB.blk.lt
        have hxT := hxB.x.ty
        have hxc := hxb.cell
        obtain ⟨t, ht⟩ := hA.all x (ddC_mem hx)
        have k0W := K0.out.trans hb0.out
        have S1 := (H0.out.net t ht.lt).kept (k0W.weak (fun _ _ => trivial))
        have hri : W.cell? ⟨x.s, 3, none⟩ = some (.int .i64 ((N.st.getD t ⟨0, 0, 0⟩).rule)) := by rw [ht.b]; exact S1.ri.at
        have AF := HE.out.atf.kept (k0W.weak (fun _ _ => trivial))
        have hru := AF.rule t ht.lt
        have hfr := AF.few
        obtain ⟨ct, htt⟩ := AF.htt
        obtain ⟨tn, htr⟩ := AF.row _ hru
        have hsim : Blk W q.sim 192 (simK q) := HE.out.sim.kept (k0W.blk _ HE.out.sim.lt trivial)
        have hB0 : B0 ≤ w0.heap.size := H0.out.hB
        have hw0 : w0.heap.size ≤ w.heap.size := K0.out.size
        have l1 : q.sim < w.heap.size := Nat.lt_of_lt_of_le HE.out.sim.lt hw0
        have l2 : q.ab < w.heap.size := by have := htt.lt; omega
        have l3 : tt < w.heap.size := by have := htr.lt; omega
        have l4 : x.s < w.heap.size := by have := S1.ri.lt; rw [← ht.b] at this; omega
        have z1 : Blk ((W.setCell ⟨w.heap.size, 3, none⟩ (.bool true)).setCell ⟨w.heap.size, 5, none⟩ (.pointer none)) w.heap.size 152 (dstK (-1) u.sB (.slice none 0 0) true 0) := (hbn.out.set 3 _ _ rfl).set 5 _ _ rfl
        have z2 : Kp (fun k => k ≠ w.heap.size) W ((W.setCell ⟨w.heap.size, 3, none⟩ (.bool true)).setCell ⟨w.heap.size, 5, none⟩ (.pointer none)) := (Kp.setCell _ _ _ (by simp)).trans (Kp.setCell _ _ _ (by simp))
        have far : ∀ {k : Nat} {i : Nat}, k < w.heap.size → ((W.setCell ⟨w.heap.size, 3, none⟩ (.bool true)).setCell ⟨w.heap.size, 5, none⟩ (.pointer none)).cell? ⟨k, i, none⟩ = W.cell? ⟨k, i, none⟩ := fun {k i} hk => World.cell?_of_block (z2.blk k (by omega) (by omega))
        have g1 : W.cell? ⟨x.b, 7, none⟩ = some (.pointer none) := hxc 7
        have g2 : W.cell? ⟨x.b, 1, none⟩ = some (.iface 269 (.pointer (some ⟨x.s, 0, none⟩))) := by rw [hxc 1, Cf.cells, hT]; rfl
        have g3 : W.cell? ⟨q.sim, 0, none⟩ = some (.pointer (some ⟨q.ab, 0, none⟩)) := hsim.cell 0
        have y2 := (far (i := 1) hxl).trans g2
        have y3 := (far (i := 0) l1).trans g3
        have y4 := (far (i := 8) l2).trans htt.at
        have y5 := (far (i := (N.st.getD t ⟨0, 0, 0⟩).rule) l3).trans htr.at
        have y6 := (far (i := 3) l4).trans hri
        have d1 := fun a w => dRI (show (269 : TypeId) ∈ stTypes by decide) a w
        generalize (N.st.getD t ⟨0, 0, 0⟩).rule = rl at hru htr y5 y6 hri
        have Z1 := Lib.hid z1
        have Z2 := Lib.hid z2
        clear z1 z2 far hxc hxb hsim AF S1 k0W hri htr htt ht
        go_wp2_with fail
        generalize (W.setCell ⟨w.heap.size, 3, none⟩ (.bool true)).setCell ⟨w.heap.size, 5, none⟩ (.pointer none) = wz at Z1 Z2 y2 y3 y4 y5 y6 ⊢
        go_still_tail 14, (by kernel_rfl)
        change wpStill _ _ wz.drew _ _ _
        still_call ((gState _ _ wz.drew (by go_simp; first | done | rfl)).mono fun _ _ h => ⟨h.1, h.2.symm⟩)
        repeat still_step
        still_call ((gRI _ _ wz.drew (by go_simp; first | done | rfl)).mono fun _ _ h => ⟨h.1, h.2.symm⟩)
        repeat still_step
        refine wpStill_nil ?_
        change wpList _ _ _ _ _ wz.drew
        have Z1d : Hid (Blk wz.drew w.heap.size 152 (dstK (-1) u.sB (.slice none 0 0) true 0)) := Lib.hid Z1.out
        have Z2d : Hid (Kp (fun k => k ≠ w.heap.size) W wz.drew) := Lib.hid ⟨⟨Z2.out.so.os, Z2.out.so.out⟩, Z2.out.size, Z2.out.blk⟩
        clear y2 y3 y4 y5 y6
        generalize wz.drew = w2 at Z1d Z2d ⊢
        have s4 : (w2.cell? ⟨w.heap.size, 4, none⟩).isSome = true := by rw [Z1d.out.cell 4]; rfl
        have s4f := Z1d.out.free 4
        go_wp2_with (first | (go_at_call 114; refine (sPred _ _ _ s4 s4f).mono ?_; rintro e w' ⟨rfl, rfl⟩))
        go_meet
        exact ⟨⟨true, tn, Z1d.out.set 4 _ _ (by simp [dstK])⟩, Z2d.out.trans (Kp.setCell _ _ _ (by simp))⟩
    case rest =>
      obtain ⟨⟨ac, pr, hbx⟩, kx⟩ := hcut
      have kw : Kp (fun _ => True) w wc := ⟨SO.trans (hb0.out.so) (kx.so), Nat.le_trans hb0.out.size kx.size, fun k hk _ => (kx.blk k (Nat.lt_of_lt_of_le hk hb0.out.size) (by omega)).trans (hb0.out.blk k hk trivial)⟩
      obtain ⟨hs2, _⟩ := SetU.news HS.out kw
      have kw0 := K0.out.trans kw
      have hx0 := H0.out.all kw0
      have hsz : w0.heap.size ≤ w.heap.size := K0.out.size
      have hbs : w0.heap.size ≤ u.sB := HS.out.bs
      have nM : ∀ k, w0.heap.size ≤ k → ¬ g.M k := fun k hk hm => by have := H0.out.Mlt hm; omega
      have nty : ∀ k, w0.heap.size ≤ k → g.ty k = none := fun k hk => by
        cases ht : g.ty k with
        | none => rfl
        | some σ => exact absurd (.inl (by rw [ht]; simp)) (nM k hk)
      obtain ⟨d, hdd⟩ : ∃ d : DS, d = ⟨w.heap.size, u.sB, u.ask, u.cfg, L, A⟩ := ⟨_, rfl⟩
      have hx1 : LX B0 wc N v f (g.reg u.sB (.set d)) := hx0.reg u.sB (.set d) (nM _ hbs) (Nat.le_trans H0.out.hB hbs) _ hs2.blk ⟨by rw [hdd], -1, some ⟨u.stB, 0, none⟩, false, by rw [hdd]; rfl, .inl rfl⟩ (fun _ e => by cases e)
      have hne2 : w.heap.size ≠ u.sB := by omega
      have hx2 : LX B0 wc N v f ((g.reg u.sB (.set d)).reg w.heap.size (.proper d)) := by
        refine hx1.reg w.heap.size (.proper d) (fun hm => ?_) (Nat.le_trans H0.out.hB hsz) _ hbx ⟨by rw [hdd], ?_, -1, .slice none 0 0, ac, pr, by rw [hdd], .inl rfl⟩ (fun d' e => by cases e; rw [hdd]; exact Frz.of hs2 hA hm hne hl _)
        · rcases GS.reg_M hm with e | e
          · exact nM _ hsz e
          · exact hne2 e
        · have : d.cb = u.sB := by rw [hdd]
          rw [this]
          exact GS.reg_old (by show (if w.heap.size = u.sB then _ else _) = none; rw [if_neg hne2]; exact nty _ hsz) _ _ GS.reg_new
      have fx2 : Fm w0 g wc ((g.reg u.sB (.set d)).reg w.heap.size (.proper d)) :=
        ((Fm.all g kw0).reg u.sB (.set d) hbs (nty _ hbs)).reg w.heap.size (.proper d) hsz (by show (if w.heap.size = u.sB then _ else _) = none; rw [if_neg hne2]; exact nty _ hsz)
      have e2 := HE.out.fm H0.out fx2
      have hd2 : ((g.reg u.sB (.set d)).reg w.heap.size (.proper d)).ty d.b = some (.proper d) := by
        have : d.b = w.heap.size := by rw [hdd]
        rw [this]; exact GS.reg_new
      have ha2 : ((g.reg u.sB (.set d)).reg w.heap.size (.proper d)).asked = g.asked := rfl
      have hdf : ((g.reg u.sB (.set d)).reg w.heap.size (.proper d)).dfa = g.dfa := rfl
      have hdb : d.b = w.heap.size := by rw [hdd]
      have hdc : d.cb = u.sB := by rw [hdd]
      generalize (g.reg u.sB (.set d)).reg w.heap.size (.proper d) = g2 at hx2 fx2 e2 hd2 ha2 hdf
      have hsc2 := e2.sim.cell
      obtain ⟨dcs, hdr1, hdr2⟩ := e2.dr
      have hdc2 : wc.cell? ⟨q.dr, 0, none⟩ = some (.pointer (some ⟨g2.dfa, 0, none⟩)) := (hdr1.cell 0).trans hdr2
      obtain ⟨hnd1, hnd2⟩ := e2.nd
      simp only [simK] at hsc2
      rw [← hdb, ← hdc]
      have X2 := Lib.hid hx2
      have F2 := Lib.hid fx2
      have D2 := Lib.hid hd2
      have A2 := Lib.hid ha2
      have DB := Lib.hid hdb
      have DC := Lib.hid hdc
      clear hx2 fx2 e2 hd2 ha2 hx0 hx1 hdr1 hdr2 kw kw0 hs2 nM nty hdf hdb hdc hbc hbf hsc hdd hbx kx hW hb0 hbn
      go_upto_region 14 with fail
      go_quiet (fail)
      have X3 : Hid (LX B0 (wc.drewN nq) N v f g2) := Lib.hid (X2.out.drewN nq)
      have F3 : Hid (Fm w0 g (wc.drewN nq) g2) := Lib.hid (F2.out.trans (Fm.drewN _ _ _))
      clear hsc2 hdc2
      generalize wc.drewN nq = wd at X3 F3 ⊢
      have LA : g2.asked.length + 2 ≤ 1000000 := by rw [A2.out]; exact hask
      go_upto_if 80 with (first | (go_at_call 115; refine (dget_any X3.out d D2.out (by omega)).mono ?_; rintro e w3 ⟨⟨p, ex, rfl, hp⟩, g3, e1, e2, e3, h3, f3⟩; have HP := Lib.hid hp; have X4 := Lib.hid h3; have F4 := Lib.hid (F3.out.trans f3); have E1 := Lib.hid e1; have E3 := Lib.hid e3; have DF3 := Lib.hid f3.dfa; clear hp h3 f3 e1 e2 e3))
      go_cut [7] (fun s7 wx => ∃ (g4 : GS) (d4 : DS), s7 = d4.ptr ∧ g4.ty d4.b = some (.proper d4) ∧ g4.asked.length ≤ g.asked.length + 2 ∧ g.asked.length + 1 ≤ g4.asked.length ∧ LX B0 wx N v f g4 ∧ Fm w0 g wx g4)
      case first =>
        have D3 : Hid (g3.ty d.b = some (.proper d)) := Lib.hid (by rw [E1.out]; exact D2.out)
        have L3 : g3.asked.length = g.asked.length + 1 := by rw [E3.out, List.length_append, A2.out]; rfl
        cases ex with
        | true =>
          obtain ⟨d4, rfl, hd4⟩ := HP.out rfl
          go_wp2_with fail
          go_meet
          exact ⟨g3, d4, rfl, by rw [E1.out]; exact hd4, by omega, by omega, X4.out, F4.out⟩
        | false =>
          obtain ⟨_, hd2, sn, ed, ac, pr, ch, lk, ro, hev, DD⟩ := X4.out.dst D3.out
          have b1 := DD.blk.cell
          have b1f := DD.blk.free
          have b2 := DD.set.cell
          have b2f := DD.set.free
          have l1 := DD.blk.lt
          have l2 := DD.set.lt
          have hne : d.b ≠ d.cb := by rw [DB.out, DC.out]; omega
          simp only [dstK] at b1
          simp only [setK] at b2
          clear DD hev hd2
          rw [← DF3.out]
          go_wp2_with (first | (go_at_call 116; refine (dlen_any X4.out).mono ?_; rintro e w5 ⟨⟨nn, rfl⟩, rfl⟩; have FF := Lib.hid (X4.out.fin d D3.out nn)) | (go_at_call 117; refine (dput_any FF.out.1 d D3.out (by omega)).mono ?_; rintro e w6 ⟨⟨d6, ex6, rfl, hp6⟩, g6, e61, e62, h6, f6⟩))
          rw [DF3.out]
          go_meet
          exact ⟨g6, d, rfl, by rw [e61]; exact D3.out, by rw [e62, List.length_append]; simp; omega, by rw [e62, List.length_append]; omega, h6, (F4.out.trans FF.out.2).trans f6⟩
      case rest =>
        obtain ⟨g4, d4, rfl, hd4, hl4, hl5, h4, f4⟩ := hcut
        have hd1 : g2.dfa = g4.dfa := F2.out.dfa.trans f4.dfa.symm
        have S4 := Lib.hid (h4.s0put d4 hd4)
        have q4 : (wc.cell? ⟨g4.dfa, 5, none⟩).isSome = true := by rw [h4.dfa.cell 5]; rfl
        have q4f := h4.dfa.free 5
        have X5 := Lib.hid h4
        have F5 := Lib.hid f4
        have D5 := Lib.hid hd4
        unfold DS.ptr at *
        rw [hd1]
        clear h4 f4 hd4 hd1
        cases sup with
        | true =>
          go_wp2
          go_ret
          exact ⟨g4, d4, by simp [DS.ptr], D5.out, hl4, hl5, X5.out, F5.out⟩
        | false =>
          go_wp2_with (first | (go_at_call 118; refine (sS0 _ _ _ q4 q4f).mono ?_; rintro e w' ⟨rfl, rfl⟩))
          go_ret
          exact ⟨{ g4 with s0 := some d4.b }, d4, by simp [DS.ptr], D5.out, hl4, hl5, S4.out.1, F5.out.trans S4.out.2⟩
end Go.Proofs
end
section
namespace Go.Proofs
open Go.RowKit
open Pl
/-! ## edges of the DFA -/
/-- A state that an edge leads to. -/
def TgB (g : GS) (b : Nat) : Prop := (∃ d, g.ty b = some (.proper d)) ∨ g.ty b = some .err
def EdRet (g : GS) (t : Int) (e : Ending) : Prop := ∃ o : Option Nat, e = .returned (.pointer (o.map fun b => ⟨b, 0, none⟩)) ∧ (∀ b, o = some b → TgB g b) ∧ (t < 0 → o = none)
def ErrRet (g : GS) (b : Nat) (e : Ending) : Prop := ∃ r : Bool, e = .returned (.bool r) ∧ (r = false → ∃ d, g.ty b = some (.proper d))

theorem EdC.opt {g : GS} {v : Value} (h : EdC g v) : ∃ o : Option Nat, v = .pointer (o.map fun b => ⟨b, 0, none⟩) ∧ ∀ b, o = some b → TgB g b := by
  rcases h with rfl | ⟨b, rfl, h⟩
  · exact ⟨none, rfl, fun b hb => by cases hb⟩
  · exact ⟨some b, rfl, fun c hc => by cases hc; exact h⟩

set_option maxRecDepth 100000 in
set_option maxHeartbeats 1000000 in
theorem ith_any (db e : Nat) (i : Nat) (u : Value) (w : World) (h2 : w.cell? ⟨db, 2, none⟩ = some (.slice (some ⟨e, 0, none⟩) 128 128)) (hr : w.cell? ⟨e, i, none⟩ = some u) (hi : i < 128) :
    Calls Tryz.prog 120 #[.pointer (some ⟨db, 0, none⟩), .int .i64 (i : Int)] w fun e w' => e = .returned u ∧ w = w' := by
  go_enter Tryz.func120, Tryz.ntmps120
  go_wp2
  go_ret
  exact ⟨rfl, rfl⟩

theorem slnil_eq (w : World) : (binOp .eql 137 (.slice none 0 0) (.slice none 0 0)).run Tryz.prog w = .ok (.bool true) w := by kernel_rfl
theorem slsome_eq (a : Addr) (n c : Nat) (w : World) : (binOp .eql 137 (.slice (some a) n c) (.slice none 0 0)).run Tryz.prog w = .ok (.bool false) w := by kernel_rfl

set_option maxRecDepth 100000 in
set_option maxHeartbeats 1000000 in
theorem gettgt_any {B0 : Nat} {w : World} {N : Bd} {v : AV} {f : Nat} {g : GS} (h : LX B0 w N v f g) (d : DS) (hd : g.ty d.b = some (.proper d)) (lv : Value) (t : Int) :
    Calls Tryz.prog 80 #[lv, d.ptr, .int .i64 t] w fun e w' => EdRet g t e ∧ w = w' := by
  obtain ⟨_, _, sn, ed, ac, pr, ch, lk, ro, hev, DD⟩ := h.dst hd
  have b1 := DD.blk.cell
  simp only [dstK] at b1
  have H := Lib.hid h
  have sn1 := fun w => slnil_eq w
  have sn2 := fun a n c w => slsome_eq a n c w
  clear DD h
  unfold DS.ptr
  by_cases h0 : t < 0
  · go_enter Tryz.func80, Tryz.ntmps80
    go_wp2
    go_ret
    exact ⟨⟨none, rfl, (fun b hb => by cases hb), fun _ => rfl⟩, rfl⟩
  · by_cases h1 : 127 < t
    · go_enter Tryz.func80, Tryz.ntmps80
      go_wp2
      go_ret
      exact ⟨⟨none, rfl, (fun b hb => by cases hb), fun _ => rfl⟩, rfl⟩
    · obtain ⟨i, rfl⟩ : ∃ i : Nat, t = i := ⟨t.toNat, by omega⟩
      have hi : i < 128 := by omega
      have p0 : (0 : Int) ≤ (i : Int) := by omega
      have p1 : (i : Int) ≤ 127 := by omega
      clear h0 h1
      rcases hev with rfl | ⟨e, rfl, he⟩
      · go_enter Tryz.func80, Tryz.ntmps80
        go_wp2_with (first | (go_at_call 119; refine (gEdges _ _ _ (by go_simp; first | done | rfl)).mono ?_; rintro e w' ⟨rfl, rfl⟩))
        go_ret
        exact ⟨⟨none, rfl, (fun b hb => by cases hb), fun _ => rfl⟩, rfl⟩
      · obtain ⟨o, o1, cs, rfl, o2, o3⟩ := H.out.typ e _ he
        obtain ⟨u, hu⟩ : ∃ u, cs[i]? = some u := ⟨_, Array.getElem?_eq_getElem (by omega)⟩
        have hb : Blk w e 139 cs := o1
        have hcell : w.cell? ⟨e, i, none⟩ = some u := (hb.cell i).trans hu
        obtain ⟨op, rfl, hop⟩ := (o3 i u hu).opt
        have HOP := Lib.hid hop
        have c2 : w.cell? ⟨d.b, 2, none⟩ = some (.slice (some ⟨e, 0, none⟩) 128 128) := b1 2
        clear o1 o3 hb hu hop
        go_enter Tryz.func80, Tryz.ntmps80
        go_wp2_with (first | (go_at_call 119; refine (gEdges _ _ _ c2).mono ?_; rintro e w' ⟨rfl, rfl⟩) | (go_at_call 120; refine (ith_any _ _ i _ _ c2 hcell hi).mono ?_; rintro e w' ⟨rfl, rfl⟩))
        go_ret
        exact ⟨⟨op, by simp, HOP.out, fun h => absurd h (by omega)⟩, rfl⟩

theorem neD_nil (a : Addr) (w : World) : (binOp .neq 139 (.pointer (some a)) (.pointer none)).run Tryz.prog w = .ok (.bool true) w := by kernel_rfl
theorem eqDp_nil (a : Addr) (w : World) : (binOp .eql 139 (.pointer (some a)) (.pointer none)).run Tryz.prog w = .ok (.bool false) w := by kernel_rfl

set_option maxRecDepth 100000 in
set_option maxHeartbeats 1000000 in
theorem iserr_any {B0 : Nat} {w : World} {N : Bd} {v : AV} {f : Nat} {g : GS} (h : LX B0 w N v f g) (b : Nat) (hb : TgB g b) :
    Calls Tryz.prog 82 #[.pointer (some ⟨b, 0, none⟩)] w fun e w' => ErrRet g b e ∧ w = w' := by
  have n1 := fun a w => neD_nil a w
  rcases hb with ⟨d, hd⟩ | hd
  · obtain ⟨hdb, _, sn, ed, ac, pr, ch, lk, ro, hev, DD⟩ := h.dst hd
    have b1 : w.cell? ⟨b, 0, none⟩ = some (.int .i64 sn) := by rw [← hdb]; exact DD.blk.cell 0
    have HD := Lib.hid hd
    clear DD h hd hdb
    go_enter Tryz.func82, Tryz.ntmps82
    go_wp2
    go_ret
    exact ⟨⟨_, rfl, fun _ => ⟨d, HD.out⟩⟩, rfl⟩
  · obtain ⟨o, o1, cs, rfl, o2⟩ := h.typ b _ hd
    have hb : Blk w b 152 cs := o1
    have b1 : w.cell? ⟨b, 0, none⟩ = some (.int .i64 2147483647) := (hb.cell 0).trans o2
    clear h hd o1 hb
    go_enter Tryz.func82, Tryz.ntmps82
    go_wp2
    go_ret
    exact ⟨⟨true, by simp, fun h => by cases h⟩, rfl⟩

/-- An edge is put. -/
theorem LX.edgePut {B0 : Nat} {w : World} {N : Bd} {v : AV} {f : Nat} {g : GS} (h : LX B0 w N v f g) (e : Nat) (he : g.ty e = some .edges) (i : Nat) (u : Value) (hu : EdC g u) :
    LX B0 (w.setCell ⟨e, i, none⟩ u) N v f g ∧ Fm w g (w.setCell ⟨e, i, none⟩ u) g := by
  obtain ⟨o, o1, cs, rfl, o2, o3⟩ := h.typ e _ he
  have hb : Blk w e 139 cs := o1
  have kp : Kp (fun j => j ≠ e) w (w.setCell ⟨e, i, none⟩ u) := Kp.setCell _ _ _ (by simp)
  refine ⟨h.put e _ he (.cells (cs.setIfInBounds i u) 139 (0, 0)) ⟨_, rfl, by simpa using o2, fun j x hx => ?_⟩ (hb.set i u _ rfl) kp, Fm.put h e _ he kp⟩
  by_cases hj : j = i
  · subst hj
    by_cases hjl : j < cs.size
    · rw [Array.getElem?_setIfInBounds, if_pos rfl, if_pos hjl] at hx
      cases hx; exact hu
    · rw [Array.getElem?_setIfInBounds, if_pos rfl, if_neg hjl] at hx
      cases hx
  · rw [Array.getElem?_setIfInBounds, if_neg (Ne.symm hj)] at hx
    exact o3 j x hx

/-- A row of edges is made. -/
theorem LX.edgeNew {B0 : Nat} {w : World} {N : Bd} {v : AV} {f : Nat} {g : GS} (h : LX B0 w N v f g) (d : DS) (hd : g.ty d.b = some (.proper d)) (cs : Array Value) (h1 : cs.size = 128) (h2 : ∀ (i : Nat) (u : Value), cs[i]? = some u → u = .pointer none) :
    LX B0 ((w.alloc (.cells cs 139)).setCell ⟨d.b, 2, none⟩ (.slice (some ⟨w.heap.size, 0, none⟩) 128 128)) N v f (g.reg w.heap.size .edges) ∧
    Fm w g ((w.alloc (.cells cs 139)).setCell ⟨d.b, 2, none⟩ (.slice (some ⟨w.heap.size, 0, none⟩) 128 128)) (g.reg w.heap.size .edges) ∧ (g.reg w.heap.size .edges).ty w.heap.size = some .edges ∧ (g.reg w.heap.size .edges).ty d.b = some (.proper d) := by
  have kp : Kp (fun _ => True) w (w.alloc (.cells cs 139)) := Kp.alloc _ _
  have nM : ¬ g.M w.heap.size := fun hm => Nat.lt_irrefl _ (h.Mlt hm)
  have nty : g.ty w.heap.size = none := by
    cases ht : g.ty w.heap.size with
    | none => rfl
    | some σ => exact absurd (.inl (by rw [ht]; simp)) nM
  have x1 : LX B0 (w.alloc (.cells cs 139)) N v f (g.reg w.heap.size .edges) := (h.all kp).reg w.heap.size .edges nM h.hB _ (Blk.new w 139 cs) ⟨cs, rfl, h1, fun i u hu => .inl (h2 i u hu)⟩ (fun d e => by cases e)
  have f1 : Fm w g (w.alloc (.cells cs 139)) (g.reg w.heap.size .edges) := (Fm.all g kp).reg w.heap.size .edges (Nat.le_refl _) nty
  have d1 := f1.ty _ _ hd
  obtain ⟨o, o1, _, o2, sn, ed, ac, pr, rfl, o3⟩ := x1.typ d.b _ d1
  have hb : Blk (w.alloc (.cells cs 139)) d.b 152 (dstK sn d.cb ed ac pr) := o1
  have kp2 : Kp (fun j => j ≠ d.b) (w.alloc (.cells cs 139)) ((w.alloc (.cells cs 139)).setCell ⟨d.b, 2, none⟩ (.slice (some ⟨w.heap.size, 0, none⟩) 128 128)) := Kp.setCell _ _ _ (by simp)
  exact ⟨x1.put d.b _ d1 _ ⟨rfl, o2, sn, _, ac, pr, rfl, .inr ⟨w.heap.size, rfl, GS.reg_new⟩⟩ (hb.set 2 _ _ (by simp [dstK])) kp2, f1.trans (Fm.put x1 d.b _ d1 kp2), GS.reg_new, d1⟩
end Go.Proofs
end
section
namespace Go.Proofs
open Go.RowKit
open Pl
theorem sith_any (db e : Nat) (i : Nat) (p : Option Addr) (w : World) (h2 : w.cell? ⟨db, 2, none⟩ = some (.slice (some ⟨e, 0, none⟩) 128 128)) (hr : (w.cell? ⟨e, i, none⟩).isSome = true) (hf : w.frozen? ⟨e, i, none⟩ = false) (hi : i < 128) :
    Calls Tryz.prog 177 #[.pointer (some ⟨db, 0, none⟩), .int .i64 (i : Int), .pointer p] w fun r w' => r = .returned (.tuple #[]) ∧ w.setCell ⟨e, i, none⟩ (.pointer p) = w' := by
  obtain ⟨u, hu⟩ := Option.isSome_iff_exists.1 hr
  clear hr
  go_enter Tryz.func177, Tryz.ntmps177
  go_wp2
  go_end0
  exact ⟨rfl, rfl⟩

/-- What adding an edge leaves. -/
def AeRet (B0 : Nat) (w0 : World) (N : Bd) (v : AV) (f : Nat) (g : GS) (e : Ending) (w' : World) : Prop :=
  ∃ (g' : GS) (b : Nat), e = .returned (.pointer (some ⟨b, 0, none⟩)) ∧ TgB g' b ∧ g'.asked.length ≤ g.asked.length + 2 ∧ LX B0 w' N v f g' ∧ Fm w0 g w' g'

theorem mkRow137 (w : World) : ∃ cs : Array Value, (Instr.makeSlice 137 (.int .i64 128) (.int .i64 128)).run Tryz.prog w = .ok (.slice (some ⟨w.heap.size, 0, none⟩) 128 128) (w.alloc (.cells cs 139)) ∧ cs.size = 128 ∧ ∀ (i : Nat) (u : Value), cs[i]? = some u → u = .pointer none := by
  obtain ⟨i0, hi0, hz0, hz1, hz2⟩ := info_parts info139
  have hr := run_makeSlice (P := Tryz.prog) w 137 139 i0 (.pointer none) Tryz.underlying137 hi0 hz0 .i64 .i64 128 128 (by omega) (by omega) (by rw [hz1]; decide) (by rw [hz2]; decide) (by omega)
  rw [hz1] at hr
  refine ⟨_, hr, by simp [madeCells], fun i u hu => ?_⟩
  have e : (Value.pointer none).cells = #[.pointer none] := rfl
  rw [e] at hu
  unfold madeCells at hu
  rw [Array.getElem?_map] at hu
  obtain ⟨j, _, rfl⟩ := Option.map_eq_some_iff.1 hu
  have : j % (#[Value.pointer none] : Array Value).size = 0 := by show j % 1 = 0; omega
  rw [this]; rfl

set_option maxRecDepth 100000 in
set_option maxHeartbeats 2000000 in
/-- An edge to a state that is known. -/
theorem aedge1_any {B0 : Nat} {w0 w : World} {N : Bd} {v : AV} {f : Nat} {g0 g : GS} (f0 : Fm w0 g0 w g) (ha : g.asked.length ≤ g0.asked.length + 2) (h : LX B0 w N v f g) (d : DS) (hd : g.ty d.b = some (.proper d)) (lv : Value) (t : Int) (b : Nat) (hb : TgB g b) :
    Calls Tryz.prog 122 #[lv, d.ptr, .int .i64 t, .pointer (some ⟨b, 0, none⟩), .pointer none] w fun e w' => AeRet B0 w0 N v f g0 e w' := by
  have e1 := fun a w => eqDp_nil a w
  have sn1 := fun w => slnil_eq w
  have sn2 := fun a n c w => slsome_eq a n c w
  have XX := Lib.hid h
  have DX := Lib.hid hd
  have TX := Lib.hid hb
  have FX := Lib.hid f0
  unfold DS.ptr
  clear h hd hb f0
  go_enter Tryz.func122, Tryz.ntmps122

  by_cases h0 : t < 0
  · go_wp2
    go_ret
    exact ⟨g, b, by simp, TX.out, ha, XX.out, FX.out⟩
  · by_cases h1 : 127 < t
    · go_wp2
      go_ret
      exact ⟨g, b, by simp, TX.out, ha, XX.out, FX.out⟩
    · obtain ⟨i, rfl⟩ : ∃ i : Nat, t = i := ⟨t.toNat, by omega⟩
      have hi : i < 128 := by omega
      have p0 : (0 : Int) ≤ (i : Int) := by omega
      have p1 : (i : Int) ≤ 127 := by omega
      clear h0 h1
      obtain ⟨_, _, sn, ed, ac, pr, ch, lk, ro, hev, DD⟩ := XX.out.dst DX.out
      have b1 := DD.blk.cell
      have b1f := DD.blk.free
      have lb1 := DD.blk.lt
      have DB := Lib.hid DD.blk
      simp only [dstK] at b1
      clear DD
      rcases hev with rfl | ⟨e, rfl, he⟩
      · have c2 : w.cell? ⟨d.b, 2, none⟩ = some (.slice none 0 0) := b1 2
        have f2 := b1f 2
        obtain ⟨cs, hmk, hcs1, hcs2⟩ := mkRow137 w
        have EN := Lib.hid (XX.out.edgeNew d DX.out cs hcs1 hcs2)
        have s2 : ((w.alloc (.cells cs 139)).cell? ⟨d.b, 2, none⟩).isSome = true := by rw [(DB.out.alloc _).cell 2]; rfl
        have s2f := (DB.out.alloc (.cells cs 139)).free 2
        have B2 := (DB.out.alloc (.cells cs 139)).set 2 (.slice (some ⟨w.heap.size, 0, none⟩) 128 128) _ rfl
        have B3 : Blk ((w.alloc (.cells cs 139)).setCell ⟨d.b, 2, none⟩ (.slice (some ⟨w.heap.size, 0, none⟩) 128 128)) w.heap.size 139 cs := (Blk.new w 139 cs).kept (heap_setCell_other _ _ _ _ (by simp; omega))
        have q2 : ((w.alloc (.cells cs 139)).setCell ⟨d.b, 2, none⟩ (.slice (some ⟨w.heap.size, 0, none⟩) 128 128)).cell? ⟨d.b, 2, none⟩ = some (.slice (some ⟨w.heap.size, 0, none⟩) 128 128) := by rw [B2.cell 2]; simp [dstK]
        have q3 : (((w.alloc (.cells cs 139)).setCell ⟨d.b, 2, none⟩ (.slice (some ⟨w.heap.size, 0, none⟩) 128 128)).cell? ⟨w.heap.size, i, none⟩).isSome = true := by rw [B3.cell i, Array.getElem?_eq_getElem (by omega)]; rfl
        have q3f := B3.free i
        clear B2 B3 hcs2
        generalize hwy : (w.alloc (.cells cs 139)).setCell ⟨d.b, 2, none⟩ (.slice (some ⟨w.heap.size, 0, none⟩) 128 128) = wy at EN q2 q3 q3f
        replace hwy := Lib.hid hwy
        have HE := Lib.hid (EN.out.1.edgePut w.heap.size EN.out.2.2.1 i (.pointer (some ⟨b, 0, none⟩)) (.inr ⟨b, rfl, TX.out.imp (fun ⟨d', hd'⟩ => ⟨d', EN.out.2.1.ty _ _ hd'⟩) (fun hd' => EN.out.2.1.ty _ _ hd')⟩))
        go_wp2_with (first | (go_at_call 119; refine (gEdges _ _ _ c2).mono ?_; rintro e w' ⟨rfl, rfl⟩) | (go_at_call 176; refine (sEdges _ _ _ _ _ s2 s2f).mono ?_; rintro e w' ⟨rfl, rfl⟩; rw [hwy.out]) | (go_at_call 177; refine (sith_any _ _ _ _ _ q2 q3 q3f hi).mono ?_; rintro e w' ⟨rfl, rfl⟩))
        go_ret
        exact ⟨g.reg w.heap.size .edges, b, by simp, TX.out.imp (fun ⟨d', hd'⟩ => ⟨d', EN.out.2.1.ty _ _ hd'⟩) (fun hd' => EN.out.2.1.ty _ _ hd'), ha, HE.out.1, (FX.out.trans EN.out.2.1).trans HE.out.2⟩
      · obtain ⟨o, o1, cs, rfl, o2, o3⟩ := XX.out.typ e _ he
        have hb : Blk w e 139 cs := o1
        have hr : (w.cell? ⟨e, i, none⟩).isSome = true := by rw [hb.cell i, Array.getElem?_eq_getElem (by omega)]; rfl
        have hrf := hb.free i
        have c2 : w.cell? ⟨d.b, 2, none⟩ = some (.slice (some ⟨e, 0, none⟩) 128 128) := b1 2
        have HE := Lib.hid (XX.out.edgePut e he i (.pointer (some ⟨b, 0, none⟩)) (.inr ⟨b, rfl, TX.out⟩))
        clear o1 o3 hb he
        go_wp2_with (first | (go_at_call 119; refine (gEdges _ _ _ c2).mono ?_; rintro e w' ⟨rfl, rfl⟩) | (go_at_call 177; refine (sith_any _ _ _ _ _ c2 hr hrf hi).mono ?_; rintro e w' ⟨rfl, rfl⟩))
        go_ret
        exact ⟨g, b, by simp, TX.out, ha, HE.out.1, FX.out.trans HE.out.2⟩
end Go.Proofs
end
section
namespace Go.Proofs
open Go.RowKit
open Pl
theorem neS_nil (a : Addr) (w : World) : (binOp .neq 148 (.pointer (some a)) (.pointer none)).run Tryz.prog w = .ok (.bool true) w := by kernel_rfl
theorem eqD_nn (w : World) : (binOp .eql 139 (.pointer none) (.pointer none)).run Tryz.prog w = .ok (.bool true) w := by kernel_rfl

set_option maxRecDepth 100000 in
set_option maxHeartbeats 2000000 in
/-- An edge to the state of a set. -/
theorem aedge2_any {B0 : Nat} {w0 w : World} {N : Bd} {v : AV} {f : Nat} {g : GS} {q : SimQ} {tt nr : Nat} (h0 : LX B0 w0 N v f g) (k0 : Kp (fun _ => True) w0 w) (hE : Env B0 w0 N v g q tt nr) (u : SU) (L : List Cf) (A : List (Nat × Nat))
    (hs : SetD w0.heap.size w u L) (hA : CfA N v A L) (hm : Pl.Met N f A) (hne : L ≠ []) (hl : A.length * 88 ≤ 140737488355328) (hask : g.asked.length + 2 ≤ 1000000) (d : DS) (hd : g.ty d.b = some (.proper d)) (t : Int) :
    Calls Tryz.prog 122 #[.pointer (some ⟨q.sim, 0, none⟩), d.ptr, .int .i64 t, .pointer none, .pointer (some ⟨u.sB, 0, none⟩)] w fun e w' => AeRet B0 w0 N v f g e w' := by
  have n1 := fun a w => neS_nil a w
  have n2 := fun w => eqD_nn w
  have sn1 := fun w => slnil_eq w
  have sn2 := fun a n c w => slsome_eq a n c w
  have hsc := hs.blk.cell
  have hsf := hs.blk.free 7
  simp only [setCells] at hsc
  have hs7 : w.cell? ⟨u.sB, 7, none⟩ = some (.bool false) := hsc 7
  have q7 : w.setCell ⟨u.sB, 7, none⟩ (.bool false) = w := setCell_self hs.blk rfl
  have AD := Lib.hid (adst_any h0 k0 hE u L A hs hA hm hne hl hask true)
  have DX := Lib.hid hd
  unfold DS.ptr
  clear hsc h0 k0 hE hs hd
  go_enter Tryz.func122, Tryz.ntmps122
  go_upto_region 7 with (first | (go_at_call 78; refine AD.out.mono ?_; rintro e w3 ⟨g', d', rfl, hd', hl1, hl2, h3, f3⟩; unfold DS.ptr; have XX := Lib.hid h3; have FX := Lib.hid f3; have TX : Hid (TgB g' d'.b) := Lib.hid (.inl ⟨d', hd'⟩); have DX := Lib.hid (f3.ty _ _ DX.out); clear h3 f3 hd'))

  by_cases h0 : t < 0
  · go_wp2
    go_ret
    exact ⟨g', d'.b, by simp, TX.out, hl1, XX.out, FX.out⟩
  · by_cases h1 : 127 < t
    · go_wp2
      go_ret
      exact ⟨g', d'.b, by simp, TX.out, hl1, XX.out, FX.out⟩
    · obtain ⟨i, rfl⟩ : ∃ i : Nat, t = i := ⟨t.toNat, by omega⟩
      have hi : i < 128 := by omega
      have p0 : (0 : Int) ≤ (i : Int) := by omega
      have p1 : (i : Int) ≤ 127 := by omega
      clear h0 h1
      obtain ⟨_, _, sn, ed, ac, pr, ch, lk, ro, hev, DD⟩ := XX.out.dst DX.out
      have b1 := DD.blk.cell
      have b1f := DD.blk.free
      have lb1 := DD.blk.lt
      have DB := Lib.hid DD.blk
      simp only [dstK] at b1
      clear DD
      rcases hev with rfl | ⟨e, rfl, he⟩
      · have c2 : w3.cell? ⟨d.b, 2, none⟩ = some (.slice none 0 0) := b1 2
        have f2 := b1f 2
        obtain ⟨cs, hmk, hcs1, hcs2⟩ := mkRow137 w3
        have EN := Lib.hid (XX.out.edgeNew d DX.out cs hcs1 hcs2)
        have s2 : ((w3.alloc (.cells cs 139)).cell? ⟨d.b, 2, none⟩).isSome = true := by rw [(DB.out.alloc _).cell 2]; rfl
        have s2f := (DB.out.alloc (.cells cs 139)).free 2
        have B2 := (DB.out.alloc (.cells cs 139)).set 2 (.slice (some ⟨w3.heap.size, 0, none⟩) 128 128) _ rfl
        have B3 : Blk ((w3.alloc (.cells cs 139)).setCell ⟨d.b, 2, none⟩ (.slice (some ⟨w3.heap.size, 0, none⟩) 128 128)) w3.heap.size 139 cs := (Blk.new w3 139 cs).kept (heap_setCell_other _ _ _ _ (by simp; omega))
        have q2 : ((w3.alloc (.cells cs 139)).setCell ⟨d.b, 2, none⟩ (.slice (some ⟨w3.heap.size, 0, none⟩) 128 128)).cell? ⟨d.b, 2, none⟩ = some (.slice (some ⟨w3.heap.size, 0, none⟩) 128 128) := by rw [B2.cell 2]; simp [dstK]
        have q3 : (((w3.alloc (.cells cs 139)).setCell ⟨d.b, 2, none⟩ (.slice (some ⟨w3.heap.size, 0, none⟩) 128 128)).cell? ⟨w3.heap.size, i, none⟩).isSome = true := by rw [B3.cell i, Array.getElem?_eq_getElem (by omega)]; rfl
        have q3f := B3.free i
        clear B2 B3 hcs2
        generalize hwy : (w3.alloc (.cells cs 139)).setCell ⟨d.b, 2, none⟩ (.slice (some ⟨w3.heap.size, 0, none⟩) 128 128) = wy at EN q2 q3 q3f
        replace hwy := Lib.hid hwy
        have HE := Lib.hid (EN.out.1.edgePut w3.heap.size EN.out.2.2.1 i (.pointer (some ⟨d'.b, 0, none⟩)) (.inr ⟨d'.b, rfl, TX.out.imp (fun ⟨d', hd'⟩ => ⟨d', EN.out.2.1.ty _ _ hd'⟩) (fun hd' => EN.out.2.1.ty _ _ hd')⟩))
        go_wp2_with (first | (go_at_call 119; refine (gEdges _ _ _ c2).mono ?_; rintro e w' ⟨rfl, rfl⟩) | (go_at_call 176; refine (sEdges _ _ _ _ _ s2 s2f).mono ?_; rintro e w' ⟨rfl, rfl⟩; rw [hwy.out]) | (go_at_call 177; refine (sith_any _ _ _ _ _ q2 q3 q3f hi).mono ?_; rintro e w' ⟨rfl, rfl⟩))
        go_ret
        exact ⟨g'.reg w3.heap.size .edges, d'.b, by simp, TX.out.imp (fun ⟨d', hd'⟩ => ⟨d', EN.out.2.1.ty _ _ hd'⟩) (fun hd' => EN.out.2.1.ty _ _ hd'), hl1, HE.out.1, (FX.out.trans EN.out.2.1).trans HE.out.2⟩
      · obtain ⟨o, o1, cs, rfl, o2, o3⟩ := XX.out.typ e _ he
        have hb : Blk w3 e 139 cs := o1
        have hr : (w3.cell? ⟨e, i, none⟩).isSome = true := by rw [hb.cell i, Array.getElem?_eq_getElem (by omega)]; rfl
        have hrf := hb.free i
        have c2 : w3.cell? ⟨d.b, 2, none⟩ = some (.slice (some ⟨e, 0, none⟩) 128 128) := b1 2
        have HE := Lib.hid (XX.out.edgePut e he i (.pointer (some ⟨d'.b, 0, none⟩)) (.inr ⟨d'.b, rfl, TX.out⟩))
        clear o1 o3 hb he
        go_wp2_with (first | (go_at_call 119; refine (gEdges _ _ _ c2).mono ?_; rintro e w' ⟨rfl, rfl⟩) | (go_at_call 177; refine (sith_any _ _ _ _ _ c2 hr hrf hi).mono ?_; rintro e w' ⟨rfl, rfl⟩))
        go_ret
        exact ⟨g', d'.b, by simp, TX.out, hl1, HE.out.1, FX.out.trans HE.out.2⟩
end Go.Proofs
end
section
namespace Go.Proofs
open Go.RowKit
open Pl
theorem own_slice {w : World} {base : Nat} {e : TypeId} {size n : Nat} {v : Value} {xs : List Value} (h : w.ownsRow base e size v n xs) : ∃ a cap, v = .slice a n cap := by
  rcases h.2 with ⟨rfl, rfl⟩ | ⟨g, cap, cur, rfl, _⟩
  · exact ⟨none, 0, rfl⟩
  · exact ⟨_, cap, rfl⟩
theorem SetD.c3 {B : Nat} {w : World} {u : SU} {L : List Cf} (h : SetD B w u L) (s : Nat) (e : u.sB = s) : ∃ sa sc, w.cell? ⟨s, 3, none⟩ = some (.slice sa (ddC L).length sc) := by
  subst e
  obtain ⟨sa, sc, ecf⟩ := own_slice h.cfg
  refine ⟨sa, sc, ?_⟩
  rw [← ecf]
  exact h.blk.cell 3
theorem SetD.c7 {B : Nat} {w : World} {u : SU} {L : List Cf} (h : SetD B w u L) (s : Nat) (e : u.sB = s) : w.cell? ⟨s, 7, none⟩ = some (.bool false) := by
  subst e
  exact h.blk.cell 7
theorem SetD.kps {w w1 w2 : World} {u u' : SU} {L : List Cf} (h : SetD w.heap.size w1 u L) (k : Kp (fun _ => True) w w1) (fr : Fr w1 u w2 u') : Kp (fun _ => True) w w2 :=
  ⟨SO.trans (k.so) (fr.so), Nat.le_trans k.size fr.size, fun j hj _ => ((SetU.kp h fr).blk j (Nat.lt_of_lt_of_le hj k.size) hj).trans (k.blk j hj trivial)⟩
theorem CfA.nilL {N : Bd} {v : AV} {L : List Cf} {A : List (Nat × Nat)} (h : CfA N v A L) (hA : A = []) : L = [] := List.eq_nil_of_length_eq_zero (by rw [h.len, hA]; rfl)
theorem CfA.neL {N : Bd} {v : AV} {L : List Cf} {A : List (Nat × Nat)} (h : CfA N v A L) (hA : A ≠ []) : L ≠ [] := fun e => hA (List.eq_nil_of_length_eq_zero (by rw [← h.len, e]; rfl))
theorem ddC_pos {L : List Cf} (h : L ≠ []) : ((((ddC L).length : Nat) : Int) == 0) = false := by
  have := ddC_ne h
  simpa using this
theorem ddC_few {N : Bd} {v : AV} {L : List Cf} {A : List (Nat × Nat)} (h : CfA N v A L) (hl : A.length * 88 ≤ 140737488355328) : (ddC L).length ≤ 4000000000000 := Nat.le_trans (ddC_len L) (by have := h.len; omega)
/-- An error's state is told. -/
theorem LX.errNew {B0 : Nat} {w w' : World} {N : Bd} {v : AV} {f : Nat} {g : GS} (h : LX B0 w N v f g) (k : Kp (fun _ => True) w w') (b : Nat) (hb : w.heap.size ≤ b) (he : ErrB w' b) :
    LX B0 w' N v f (g.reg b .err) ∧ Fm w g w' (g.reg b .err) ∧ (g.reg b .err).ty b = some .err := by
  obtain ⟨cs, h1, h2⟩ := he
  have nM : ¬ g.M b := fun hm => by have := h.Mlt hm; omega
  have nty : g.ty b = none := by
    cases ht : g.ty b with
    | none => rfl
    | some σ => exact absurd (.inl (by rw [ht]; simp)) nM
  exact ⟨(h.all k).reg b .err nM (Nat.le_trans h.hB hb) _ h1 ⟨cs, rfl, h2⟩ (fun d e => by cases e), (Fm.all g k).reg b .err hb nty, GS.reg_new⟩

/-- What a look for a target leaves: an error where nothing is reached. -/
def CtRet (B0 : Nat) (w0 : World) (N : Bd) (v : AV) (f : Nat) (g : GS) (P : Prop) (e : Ending) (w' : World) : Prop :=
  ∃ (g' : GS) (b : Nat), e = .returned (.pointer (some ⟨b, 0, none⟩)) ∧ TgB g' b ∧ (P → g'.ty b = some .err) ∧ g'.asked.length ≤ g.asked.length + 2 ∧ LX B0 w' N v f g' ∧ Fm w0 g w' g'

set_option maxRecDepth 100000 in
set_option maxHeartbeats 4000000 in
theorem ctgt_any {B0 : Nat} {w : World} {N : Bd} {v : AV} {f : Nat} {g : GS} {q : SimQ} {tt nr : Nat} (h : LX B0 w N v f g) (hE : Env B0 w N v g q tt nr) (hstep : ∀ A, Pl.Met N f A → ∀ c, ∃ B, stepA N f c (dd A) = some B ∧ B.length * 88 ≤ 140737488355328)
    (hask : g.asked.length + 2 ≤ 1000000) (d : DS) (hd : g.ty d.b = some (.proper d)) (ip : Value) (t : Int) :
    Calls Tryz.prog 81 #[.pointer (some ⟨q.sim, 0, none⟩), ip, d.ptr, .int .i64 t] w fun e w' => CtRet B0 w N v f g (stepA N f t (dd d.A) = some []) e w' := by
  obtain ⟨_, hd2, sn, ed, ac, pr, ch, lk, ro, hev, DD⟩ := h.dst hd
  have hmet := (h.frz _ d hd).met
  obtain ⟨A, hA, hl⟩ := hstep d.A hmet t
  have HM : Hid (Pl.Met N f A) := Lib.hid (.step d.A A t hmet hA)
  have HA := Lib.hid hA
  have H := Lib.hid h
  have HE := Lib.hid hE
  have HD := Lib.hid hd
  have HDD := Lib.hid DD
  have lb1 := DD.blk.lt
  clear h hE hd DD hstep hmet hA hev hd2
  unfold DS.ptr
  by_cases hA0 : A = []
  · have HA0 := Lib.hid hA0
    clear hA0
    go_enter Tryz.func81, Tryz.ntmps81
    go_upto_region 6 with (first
      | (go_at_call 109; refine (newset_any _).mono ?_; rintro e w1 ⟨u, rfl, hs, kp1⟩; have HS := Lib.hid hs; have K1 := Lib.hid kp1; have c1 : w1.cell? ⟨d.b, 1, none⟩ = some (.pointer (some ⟨d.cb, 0, none⟩)) := (HDD.out.blk.kept (kp1.blk _ lb1 trivial)).cell 1; clear hs kp1)
      | (go_at_call 121; refine (reach_any N v f _ _ w.heap.size w1 u ((H.out.net.up H.out.hB).kept (K1.out.weak (fun _ _ => trivial))) HS.out d.cb (ddC d.L) (dd d.A) (HDD.out.fsrc.kept (K1.out.weak (fun _ _ => trivial))) t A HA.out hl).mono ?_; rintro e w2 ⟨rfl, u', L, hL, hs', fr, e'⟩; have hL0 := hL.nilL HA0.out; subst hL0; obtain ⟨sa, sc, c3⟩ := SetD.c3 hs' _ e'; rw [ddC_nil] at c3; have c7 := SetD.c7 hs' _ e'; have K2 := Lib.hid (SetD.kps HS.out K1.out fr); clear e' hs' fr hL)
      | (go_at_call 123; refine (err_any _).mono ?_; rintro e w3 ⟨b, rfl, hbl, hEr, kp3⟩; have EN := Lib.hid ((H.out.all K2.out).errNew kp3 b hbl hEr); clear hEr kp3)
      | (go_at_call 122; refine (aedge1_any ((Fm.all g K2.out).trans EN.out.2.1) (Nat.le_add_right _ _) EN.out.1 d (EN.out.2.1.ty _ _ HD.out) _ t b (.inr EN.out.2.2)).mono ?_; rintro e w4 ⟨g4, b4, rfl, hb4, hl4, h4, f4⟩; have X4 := Lib.hid h4; have F4 := Lib.hid f4; clear h4 f4 hb4))
    go_wp2_with (first | (go_at_call 123; refine (err_any _).mono ?_; rintro e w5 ⟨b5, rfl, hbl5, hEr5, kp5⟩; have EN5 := Lib.hid (X4.out.errNew kp5 b5 hbl5 hEr5); clear hEr5 kp5))
    go_ret
    exact ⟨_, b5, by simp, .inr EN5.out.2.2, fun _ => EN5.out.2.2, hl4, EN5.out.1, F4.out.trans EN5.out.2.1⟩
  · have HA0 := Lib.hid hA0
    clear hA0
    go_enter Tryz.func81, Tryz.ntmps81
    go_wp2_with (first
      | (go_at_call 109; refine (newset_any _).mono ?_; rintro e w1 ⟨u, rfl, hs, kp1⟩; have HS := Lib.hid hs; have K1 := Lib.hid kp1; have c1 : w1.cell? ⟨d.b, 1, none⟩ = some (.pointer (some ⟨d.cb, 0, none⟩)) := (HDD.out.blk.kept (kp1.blk _ lb1 trivial)).cell 1; clear hs kp1)
      | (go_at_call 121; refine (reach_any N v f _ _ w.heap.size w1 u ((H.out.net.up H.out.hB).kept (K1.out.weak (fun _ _ => trivial))) HS.out d.cb (ddC d.L) (dd d.A) (HDD.out.fsrc.kept (K1.out.weak (fun _ _ => trivial))) t A HA.out hl).mono ?_; rintro e w2 ⟨rfl, u', L, hL, hs', fr, e'⟩; have hne := hL.neL HA0.out; have hn0 := ddC_pos hne; obtain ⟨sa, sc, c3⟩ := SetD.c3 hs' _ rfl; have K2 := Lib.hid (SetD.kps HS.out K1.out fr); have S2 := Lib.hid hs'; have HL := Lib.hid hL; have NE := Lib.hid hne; have fewL := ddC_few hL hl; rw [← e']; clear e' hs' fr hL hne)
      | (go_at_call 122; refine (aedge2_any H.out K2.out HE.out u' L A S2.out HL.out HM.out NE.out hl hask d HD.out t).mono ?_; rintro e w4 ⟨g4, b4, rfl, hb4, hl4, h4, f4⟩; have X4 := Lib.hid h4; have F4 := Lib.hid f4; have T4 := Lib.hid hb4; clear h4 f4 hb4))
    go_ret
    exact ⟨g4, b4, by simp, T4.out, fun e => absurd (Option.some.inj (HA.out.symm.trans e)) HA0.out, hl4, X4.out, F4.out⟩
end Go.Proofs
end
