/- A part of the proof of the statement on the law FnStates, which the last text proves: part G35. -/
import Derived.Test.YtlceacefhnllbaaGreatDoorG34
set_option linter.all false
section
namespace Go.Proofs
open Go.RowKit
open Pl
/-! ## precedence is marked: nowhere; the reader's beginnings -/
theorem kTy10 {k : Nat} (h1 : 1 ≤ k) (h2 : k ≤ 12) (h : kTy k = 173) : k = 10 := by
  revert h
  exact kd_cases (P := fun k => kTy k = 173 → k = 10) h1 h2 (by refine ⟨?_, ?_, ?_, ?_, ?_, ?_, ?_, ?_, ?_, ?_, ?_, ?_⟩ <;> decide)
set_option maxRecDepth 100000 in
set_option maxHeartbeats 1000000 in
theorem mkp_any {N : Bd} {rs : List (Nat × Nat)} {k : DK} {w : World} {R : List Int} {ab : Nat} {A tA : Nat → Nat} {vs : Value} {g : DG} {a : Array Value} {f : Nat → Array Value} (ko : KOk N) (ro : ROk N rs) (h : DM k g w R) (fi : FinI N rs ab A tA vs g a f) (hst : 0 < N.st.length) :
    Calls Tryz.prog 71 #[.pointer (some ⟨k.db, 0, none⟩), .pointer (some ⟨ab, 0, none⟩)] w fun e w' => e = .returned (.tuple #[]) ∧ ∃ n, w' = w.drewN n := by
  have D := Lib.hid h
  have KO := Lib.hid ko
  have RO := Lib.hid ro
  have FI := Lib.hid fi
  have hsf := ko.few
  have o0 := (h.rw 0 _ fi.ga.a2).1
  simp only at o0
  obtain ⟨q0, c0, hq0, _⟩ := own_form o0 (by omega)
  subst hq0
  have hc0 : (N.st.length : Int) ≤ (c0 : Int) := by have := own_cap o0; omega
  have c9 : w.cell? ⟨ab, 9, none⟩ = some (.slice (some ⟨q0, 0, none⟩) N.st.length c0) := ((h.bl 0 _ fi.ga.a1).1.cell 9).trans fi.ga.a9
  obtain ⟨q2, c2, x2, h26, h2r, h2p⟩ := fi.st
  have o2 := (h.rw 2 _ h2r).1
  simp only at o2
  have hc2 : (rs.length : Int) ≤ (c2 : Int) := by have := own_cap o2; omega
  have H2p := Lib.hid h2p
  have H2r := Lib.hid h2r
  clear h ko ro fi o0 h2p h2r o2
  go_enter Tryz.func71, Tryz.ntmps71
  go_upto_region 1 with fail
  go_loopw [18] (fun t18 wq => ∃ i n : Nat, t18 = .int .i64 i ∧ i ≤ N.st.length ∧ wq = w.drewN n) (fun t18 _ => N.st.length - (intOf t18).toNat)
  case atStart => exact ⟨0, 0, rfl, Nat.zero_le _, rfl⟩
  case round =>
    obtain ⟨i, n, rfl, hi, hw⟩ := hrel
    have DR : Hid (DM k g wr R) := Lib.hid (by rw [hw]; exact D.out.drewN n)
    have HW := Lib.hid hw
    clear hw c9
    by_cases hil : i < N.st.length
    · have hil' : (i : Int) < (N.st.length : Int) := by omega
      have cs : wr.cell? ⟨q0, i, none⟩ = some (ifA N A i) := own_cell (DR.out.rw 0 _ FI.out.ga.a2).1 _ _ (by simp [hil])
      unfold ifA at cs
      obtain ⟨k1, k12⟩ := KO.out.kd i hil
      by_cases hk : N.kind i = 10
      · have e4 : kTy (N.kind i) = 173 := by rw [hk]; rfl
        rw [e4] at cs
        have t1 := fun a w => taYes173 a w
        have d1 := fun a w => dRI (show (173 : TypeId) ∈ stTypes by decide) a w
        have hri := RO.out.rule i hil
        have hrii : ((lsA N i).rule : Int) < (rs.length : Int) := by omega
        obtain ⟨y, hy⟩ : ∃ y, rs[(lsA N i).rule]? = some y := ⟨rs[(lsA N i).rule]'hri, by simp⟩
        obtain ⟨hy1, hy2⟩ := RO.out.st _ y hy
        have c6 : wr.cell? ⟨ab, 6, none⟩ = some (.slice (some ⟨q2, 0, none⟩) rs.length c2) := ((DR.out.bl 0 _ FI.out.ga.a1).1.cell 6).trans h26
        have c3 : wr.cell? ⟨A i, 3, none⟩ = some (.int .i64 (lsA N i).rule) := ((DR.out.bl _ _ (FI.out.ga.st i hil)).1.cell 3).trans (FI.out.cs.ri i hil)
        have t2 : wr.cell? ⟨q2, (lsA N i).rule, none⟩ = some (.pointer (some ⟨A y.1, 0, none⟩)) := own_cell (DR.out.rw 2 _ H2r.out).1 _ _ (H2p.out _ y hri hy)
        have c8 : wr.cell? ⟨A y.1, 8, none⟩ = some (.bool false) := ((DR.out.bl _ _ (FI.out.ga.st y.1 hy1)).1.cell 8).trans (FI.out.cs.c8 y.1 hy1 (.inr hy2))
        go_upto_region 5 with fail
        go_quiet ((go_at_call 276; exact Calls.quietS (gRI _ _ _ (show World.cell? (World.drewN _ _) _ = _ from c3))))
        go_wp2_with fail
        exact ⟨⟨i + 1, n + nq, by simp, by omega, by rw [HW.out, World.drewN_drewN]⟩, by simp [intOf]; omega⟩
      · have t1 := fun a w => taNo173 (kTy_mem (N.kind i)) (fun e => hk (kTy10 k1 k12 e)) a w
        generalize kTy (N.kind i) = T at *
        go_wp2_with fail
        exact ⟨⟨i + 1, n, by simp, by omega, HW.out⟩, by simp [intOf]; omega⟩
    · have hil' : ¬ (i : Int) < (N.st.length : Int) := by omega
      go_wp2_with fail
      go_end0
      exact ⟨rfl, n, HW.out⟩
theorem cver_any {k : DK} {g : DG} {w : World} {rest : List Int} (h : DM k g w (4 :: rest)) : Calls Tryz.prog 62 #[.pointer (some ⟨k.db, 0, none⟩)] w fun e w' => e = .returned (.tuple #[]) ∧ DM k g w' rest := by
  have D := Lib.hid h
  clear h
  go_enter Tryz.func62, Tryz.ntmps62
  go_wp2_with (first | (go_at_call 92; refine (rdd_any D.out).mono ?_; rintro e w1 ⟨rfl, hd⟩; replace D := Lib.hid hd; clear hd))
  go_end0
  exact ⟨rfl, D.out⟩
/-- A network that is empty. -/
def atn0 (gt mt : Int) (m : Nat) : Array Value := #[.slice none 0 0, .int .i64 gt, .slice none 0 0, .int .i64 mt, .map (some m), .slice none 0 0, .slice none 0 0, .slice none 0 0, .slice none 0 0, .slice none 0 0]
theorem mkMap111 (w : World) : (Instr.makeMap 111 none).run Tryz.prog w = .ok (.map (some w.heap.size)) (w.alloc (.map #[] 0)) := by
  simp [Instr.makeMap]
theorem natn_any (gt mt : Int) (w : World) : Calls Tryz.prog 94 #[.int .i64 gt, .int .i64 mt] w fun e w' => ∃ ab m : Nat, e = .returned (.pointer (some ⟨ab, 0, none⟩)) ∧ w.heap.size ≤ ab ∧ Blk w' ab 117 (atn0 gt mt m) ∧ Kp (fun _ => True) w w' := by
  have hm := mkMap111
  go_enter Tryz.func94, Tryz.ntmps94
  go_wp2_with fail
  go_ret
  exact ⟨_, w.heap.size, rfl, Nat.le_succ _, by have := heap_new2 w (.map #[] 0) (.cells (atn0 gt mt w.heap.size) 117); exact this, (Kp.alloc _ _).trans (Kp.alloc _ _)⟩
set_option maxHeartbeats 1000000 in
theorem nopt_any {w : World} {b : Nat} (h : Blk w b 246 #[.bool true, .bool true, .bool false]) : Calls Tryz.prog 91 #[.pointer (some ⟨b, 0, none⟩)] w fun e w' => ∃ ob : Nat, e = .returned (.pointer (some ⟨ob, 0, none⟩)) ∧ Blk w' ob 246 #[.bool false, .bool true, .bool false] ∧ Kp (fun _ => True) w w' := by
  have e0 : ∀ o, (w.alloc o).cell? ⟨b, 0, none⟩ = some (.bool true) := fun o => (h.alloc o).cell 0
  have e1 : ∀ o, (w.alloc o).cell? ⟨b, 1, none⟩ = some (.bool true) := fun o => (h.alloc o).cell 1
  have e2 : ∀ o, (w.alloc o).cell? ⟨b, 2, none⟩ = some (.bool false) := fun o => (h.alloc o).cell 2
  go_enter Tryz.func91, Tryz.ntmps91
  go_wp2_with fail
  go_ret
  exact ⟨_, rfl, Blk.new _ _ _, Kp.alloc _ _⟩
theorem opt_any (w : World) : Calls Tryz.prog 61 #[] w fun e w' => ∃ ob : Nat, e = .returned (.pointer (some ⟨ob, 0, none⟩)) ∧ Blk w' ob 246 #[.bool false, .bool true, .bool false] ∧ Kp (fun _ => True) w w' := by
  have b0 := Lib.hid (Blk.new w 246 #[.bool true, .bool true, .bool false])
  go_enter Tryz.func61, Tryz.ntmps61
  go_wp2_with (first | (go_at_call 91; refine (nopt_any b0.out).mono ?_; rintro e w1 ⟨ob, rfl, hb, k1⟩; have HB := Lib.hid hb; have K1 := Lib.hid k1; clear hb k1))
  go_ret
  exact ⟨ob, rfl, HB.out, (Kp.alloc _ _).trans K1.out⟩
/-- What the reader's making leaves. -/
def DzRet (w : World) (e : Ending) (w' : World) : Prop := ∃ ob db : Nat, e = .returned (.pointer (some ⟨db, 0, none⟩)) ∧ w.heap.size ≤ db ∧ ob < db ∧ Blk w' ob 246 #[.bool false, .bool true, .bool false] ∧ Blk w' db 214 #[.pointer (some ⟨ob, 0, none⟩), .slice none 0 0, .int .i64 0] ∧ Kp (fun _ => True) w w'
theorem ndz_any (w : World) : Calls Tryz.prog 43 #[.pointer none] w fun e w' => DzRet w e w' := by
  go_enter Tryz.func43, Tryz.ntmps43
  go_wp2_with (first | (go_at_call 61; refine (opt_any w).mono ?_; rintro e w1 ⟨ob, rfl, hb, k1⟩; have HB := Lib.hid hb; have K1 := Lib.hid k1; clear hb k1))
  go_ret
  exact ⟨ob, w1.heap.size, rfl, K1.out.size, HB.out.lt, HB.out.alloc _, Blk.new _ _ _, K1.out.trans (Kp.alloc _ _)⟩
theorem ratn_any {k : DK} {g : DG} {w : World} {rest : List Int} {mt : Int} (h : DM k g w (0 :: mt :: rest)) : Calls Tryz.prog 63 #[.pointer (some ⟨k.db, 0, none⟩)] w fun e w' => ∃ ab m g', e = .returned (.pointer (some ⟨ab, 0, none⟩)) ∧ DM k g' w' rest ∧ g'.bl 0 = some ⟨ab, 117, atn0 0 mt m⟩ := by
  have D := Lib.hid h
  clear h
  go_enter Tryz.func63, Tryz.ntmps63
  go_wp2_with (first | (go_at_call 92; refine (rdd_any D.out).mono ?_; rintro e w1 ⟨rfl, hd⟩; replace D := Lib.hid hd; clear hd) | (go_at_call 94; refine (natn_any _ _ _).mono ?_; rintro e w2 ⟨ab, m, rfl, h1, h2, h3⟩; have E := Lib.hid (D.out.adopt h3 h1 h2 0); clear h1 h2 h3))
  go_ret
  exact ⟨ab, m, _, rfl, E.out, by rw [DG.setB_bl, upO_self]⟩
end Go.Proofs
end
section
namespace Go.Proofs
open Go.RowKit
open Pl
/-! ## what was read, as the lexer wants it -/
theorem c2s_7 {N : Bd} (ko : KOk N) (A : Nat → Nat) (ab : Nat) {s : Nat} (hs : s < N.st.length) : (N.kind s = 8 → (c2s N A ab s)[7]? = some .nilIface) ∧ (kTy (N.kind s) ∈ dcTypes → (c2s N A ab s)[7]? = some (.int .i64 0)) := by
  have hk := ko.kd s hs
  have e7 : N.kind s ≠ 12 → (c2s N A ab s)[7]? = (sXt (N.kind s))[0]? := by
    intro h12
    have e : (cBs N ab s)[7]? = (sXt (N.kind s))[0]? := by
      unfold cBs; rw [show (7 : Nat) = 7 + 0 from rfl, sC_high]
    unfold c2s
    rw [if_neg h12]
    split
    · rw [Array.getElem?_setIfInBounds_ne (by omega), e]
    · exact e
  constructor
  · intro h
    rw [e7 (by omega), h]; rfl
  · intro h
    have h12 : N.kind s ≠ 12 := (dc_kd h).1
    rw [e7 h12]
    revert h
    generalize N.kind s = q at hk ⊢
    exact kd_cases (P := fun q => kTy q ∈ dcTypes → (sXt q)[0]? = some (.int .i64 0)) hk.1 hk.2 (by
      refine ⟨?_, ?_, ?_, ?_, ?_, ?_, ?_, ?_, ?_, ?_, ?_, ?_⟩ <;> first | (intro; rfl) | (intro h; exact absurd h (by decide)))
/-- All that is asked of a network's numbers. -/
structure AllOk (N : Bd) (rs : List (Nat × Nat)) : Prop where
  ko : KOk N
  vo : VOk N
  ro : ROk N rs
  k0 : N.kind 0 = 6
  st : 0 < N.st.length
  ed : N.ed.length ≤ 1000
  de : ∀ s ∈ N.de, s < N.st.length ∧ kTy (N.kind s) ∈ dcTypes
  dn : N.de.length ≤ 1000
  dp : 0 < N.de.length
  v7 : ∀ s, s < N.st.length → N.kind s = 7 → N.out s = []
  ve : ∀ s, s < N.st.length → N.kind s ≠ 1 → ∀ x ∈ N.out s, x.kind = 1
/-- All that stands behind the reading. -/
structure FinA (N : Bd) (rs : List (Nat × Nat)) (ab : Nat) (A tA : Nat → Nat) (vs : Value) (g : DG) (a : Array Value) (f : Nat → Array Value) : Prop where
  fi : FinI N rs ab A tA vs g a f
  tt : RowIs g a 8 4 3 rs.length (P4 rs.length)
  mo : RowIs g a 5 5 232 1 (fun x => x[0]? = some (.pointer (some ⟨A 0, 0, none⟩)))
  dr : ∃ v, a[0]? = some v ∧ g.rw 1 = some ⟨119, 1, v, N.de.length, N.de.map (ifA N A)⟩
def blkOf : Value → Nat | .slice (some a) _ _ => a.block | _ => 0
def capOf : Value → Nat | .slice _ _ c => c | _ => 0
def avOf (N : Bd) (A tA : Nat → Nat) (f : Nat → Array Value) : AV where
  st := A
  row := fun s => blkOf (((f s)[6]?).getD .nilIface)
  cap := fun s => capOf (((f s)[6]?).getD .nilIface)
  tr := fun s i => tA ((outI N N.ed.length s).getD i 0)
theorem LC.mkc {w : World} {b i : Nat} {v : Value} (h : w.cell? ⟨b, i, none⟩ = some v) : LC w.heap.size w b i v := ⟨cell_lt h, h⟩
theorem leaf_epv {N : Bd} (vo : VOk N) {s : Nat} (hs : s < N.st.length) (h7 : N.kind s ≠ 7) : epv N N.ed.length s = !N.leaf s := by
  have hne := vo.v9 s hs h7
  unfold Bd.leaf
  have h7' : (N.kind s == 7) = false := by simpa using h7
  rw [h7', Bool.false_or]
  rw [out_map] at hne ⊢
  unfold epv
  cases e : outI N N.ed.length s with
  | nil => rw [e] at hne; simp at hne
  | cons y l =>
    simp only [List.isEmpty_cons, Bool.not_false, Bool.true_and, List.any_map]
    rw [List.not_any_eq_all_not]
    congr 1
    funext j
    simp only [Function.comp_apply, Bool.not_not]
    rfl
theorem FinA.atn {N : Bd} {rs : List (Nat × Nat)} {ab : Nat} {A tA : Nat → Nat} {vs : Value} {g : DG} {a : Array Value} {f : Nat → Array Value} (h : FinA N rs ab A tA vs g a f) (ao : AllOk N rs) {k : DK} {w : World} {R : List Int} (hd : DM k g w R) : AtnAt w.heap.size w N (avOf N A tA f) := by
  intro s hs
  have B := (hd.bl _ _ (h.fi.ga.st s hs)).1
  obtain ⟨va, vc, h6⟩ := h.fi.row hd hs
  refine ⟨fun h7 => .mkc ((B.cell 2).trans ?_), fun hl e he => ?_, .mkc ((B.cell 4).trans (h.fi.cs.sn s hs)), .mkc ((B.cell 3).trans (h.fi.cs.ri s hs)), ?_, fun hT => .mkc ((B.cell 8).trans (h.fi.cs.c8 s hs (.inl hT))), Nat.le_trans (out_le s) (Nat.le_trans ao.ed (by omega)), fun i e he => ?_⟩
  · rw [h.fi.eps s hs, leaf_epv ao.vo hs h7]
  · by_cases h7 : N.kind s = 7
    · rw [ao.v7 s hs h7] at he; simp at he
    · rcases ao.vo.v1 s hs with h1 | h1
      · unfold Bd.leaf at hl
        simp only [Bool.or_eq_true, beq_iff_eq, List.any_eq_true, Bool.not_eq_true', beq_eq_false_iff_ne] at hl
        rcases hl with hl | ⟨x, hx, hx1⟩
        · exact absurd hl h7
        · exact absurd (h1 x hx) hx1
      · unfold Bd.leaf at hl
        simp only [Bool.or_eq_true, beq_iff_eq, List.any_eq_true, Bool.not_eq_true', beq_eq_false_iff_ne] at hl
        rcases hl with hl | ⟨x, hx, hx1⟩
        · exact absurd hl h7
        · have : x = e := by
            match hh : N.out s, h1, hx, he with
            | [y], _, hx, he => simp at hx he; rw [hx, he]
          rw [← this]; exact hx1
  · by_cases hn : (N.out s).length = 0
    · have hn' : N.out s = [] := List.length_eq_zero_iff.1 hn
      cases va with
      | none =>
        right
        refine ⟨hn', .mkc ((B.cell 6).trans ?_)⟩
        obtain ⟨v', h1, h2⟩ := h.fi.rows s hs
        rw [h6] at h1; cases h1
        have o := (hd.rw _ _ h2).1
        simp only at o
        rcases o.2 with ⟨e, _⟩ | ⟨g', cap', cur, e, _⟩
        · rw [h6, e]
        · cases e
      | some ad =>
        left
        obtain ⟨v', h1, h2⟩ := h.fi.rows s hs
        rw [h6] at h1; cases h1
        have o := (hd.rw _ _ h2).1
        simp only at o
        rcases o.2 with ⟨e, _⟩ | ⟨g', cap', cur, e, _⟩
        · cases e
        · cases e
          refine .mkc ((B.cell 6).trans ?_)
          rw [h6]; simp [avOf, h6, blkOf, capOf]
    · left
      obtain ⟨v', h1, h2⟩ := h.fi.rows s hs
      rw [h6] at h1; cases h1
      have o := (hd.rw _ _ h2).1
      simp only at o
      obtain ⟨gq, cq, e, _⟩ := own_form o hn
      cases e
      refine .mkc ((B.cell 6).trans ?_)
      rw [h6]; simp [avOf, h6, blkOf, capOf]
  · have hj : i < (N.out s).length := (List.getElem?_eq_some_iff.1 he).1
    obtain ⟨v', h1, h2⟩ := h.fi.rows s hs
    have hl : (N.out s).length = (outI N N.ed.length s).length := by rw [out_map, List.length_map]
    have o := (hd.rw _ _ h2).1
    simp only at o
    obtain ⟨gq, cq, e1, _⟩ := own_form o (by omega)
    subst e1
    obtain ⟨j, hj'⟩ : ∃ j, (outI N N.ed.length s)[i]? = some j := ⟨(outI N N.ed.length s)[i]'(by omega), by simp⟩
    have him := outI_lt (List.mem_of_getElem? hj')
    obtain ⟨c, h3, h4⟩ := h.fi.tr j him
    have hej : edA N j = e := by
      rw [out_map, List.getElem?_map, hj'] at he
      simpa using he
    have bt := (hd.bl _ _ h3).1
    have em : e ∈ N.ed := by rw [← hej]; exact List.mem_of_getElem? (edA_at him)
    obtain ⟨w1, w2, w3, w4⟩ := ao.vo.ed e em
    have er : (avOf N A tA f).row s = gq := by simp [avOf, h1, blkOf]
    have et : (avOf N A tA f).tr s i = tA j := by simp [avOf, List.getD, hj']
    rw [er, et]
    rw [hej] at h4
    refine ⟨.mkc (own_cell o _ _ (by rw [List.getElem?_map, hj']; simp [ifT, hej])), .mkc ((bt.cell 0).trans h4.t), .mkc ((bt.cell 4).trans h4.s), w3, fun hk => ⟨.mkc ((bt.cell 2).trans (h4.a hk)), w4 (by omega)⟩, fun hk => ⟨.mkc ((bt.cell 5).trans (h4.r hk).1), .mkc ((bt.cell 6).trans (h4.r hk).2), w4 (by omega)⟩, w2⟩
theorem FinA.atf {N : Bd} {rs : List (Nat × Nat)} {ab : Nat} {A tA : Nat → Nat} {vs : Value} {g : DG} {a : Array Value} {f : Nat → Array Value} (h : FinA N rs ab A tA vs g a f) (ao : AllOk N rs) {k : DK} {w : World} {R : List Int} (hd : DM k g w R) : ∃ tt, AtF w.heap.size w N (avOf N A tA f) ab tt rs.length := by
  obtain ⟨q4, c4, x4, h48, h4r, h4p⟩ := h.tt
  obtain ⟨q5, c5, x5, h55, h5r, h5p⟩ := h.mo
  have ba := (hd.bl 0 _ h.fi.ga.a1).1
  refine ⟨q4, ⟨c4, .mkc ((ba.cell 8).trans h48)⟩, fun r hr => ?_, fun s hs => ao.ro.rule s hs, Nat.le_trans ao.ro.few (by omega), ⟨q5, 1, c5, .mkc ((ba.cell 5).trans h55), by omega, by omega, .mkc (own_cell (hd.rw 5 _ h5r).1 _ _ h5p)⟩⟩
  obtain ⟨z, hz⟩ := h4p r hr
  exact ⟨z, .mkc (own_cell (hd.rw 4 _ h4r).1 _ _ hz)⟩
theorem FinA.dcf {N : Bd} {rs : List (Nat × Nat)} {ab : Nat} {A tA : Nat → Nat} {vs : Value} {g : DG} {a : Array Value} {f : Nat → Array Value} (h : FinA N rs ab A tA vs g a f) (ao : AllOk N rs) {k : DK} {w : World} {R : List Int} (hd : DM k g w R) : DcF w.heap.size w N (avOf N A tA f) ab N.de.length := by
  obtain ⟨v, h0, h1⟩ := h.dr
  have ba := (hd.bl 0 _ h.fi.ga.a1).1
  have o := (hd.rw 1 _ h1).1
  simp only at o
  have hdp := ao.dp
  obtain ⟨q, c, e, _⟩ := own_form o (by omega)
  subst e
  refine ⟨⟨q, c, .mkc ((ba.cell 0).trans h0), fun i hi => ?_⟩, hdp, Nat.le_trans ao.dn (by omega)⟩
  obtain ⟨s, hs⟩ : ∃ s, N.de[i]? = some s := ⟨N.de[i]'hi, by simp⟩
  obtain ⟨hs1, hs2⟩ := ao.de s (List.mem_of_getElem? hs)
  refine ⟨s, hs1, .mkc (own_cell o _ _ (by rw [List.getElem?_map, hs]; rfl)), hs2, fun h173 => ?_⟩
  obtain ⟨k1, k2⟩ := ao.ko.kd s hs1
  exact .mkc (((hd.bl _ _ (h.fi.ga.st s hs1)).1.cell 10).trans (h.fi.cs.c10 s hs1 (kTy10 k1 k2 h173)))
end Go.Proofs
end
section
namespace Go.Proofs
open Go.RowKit
open Pl
/-! ## a network is read whole -/
theorem dm0 {W : World} {db dg dc : Nat} {op : Value} {L : List Int} (hb : Blk W db 214 #[op, .slice (some ⟨dg, 0, none⟩) L.length dc, .int .i64 0]) (hr : RowAt W dg (flI L)) (hc : L.length ≤ dc) (hf : L.length ≤ 1000000) (hg : dg < db) (hL : Rng L) :
    DM ⟨db, W, db, dg, dc, op, L⟩ ⟨upT (fun _ => .no) db .des, fun _ => none, fun _ => none⟩ W L where
  lo := fun j hj => by
    by_cases e : j = db
    · subst e; exact ⟨Nat.le_refl _, hb.lt⟩
    · exact absurd (by simp [upT, e]) hj
  bl := fun i b h => by cases h
  rw := fun i r h => by cases h
  kp := Kp.rfl'.weak (fun _ _ => trivial)
  rd := ⟨⟨0, hb, rfl⟩, hr, hc, hf, by show dg ≠ db; omega, hL⟩
  ds := by simp [upT]
  dg := hg
  bs := Nat.le_of_lt hb.lt
/-- What the reading leaves. -/
def DeRet (N : Bd) (db : Nat) (w : World) (e : Ending) (w' : World) : Prop :=
  ∃ (ab tt nr nd : Nat) (v : AV), e = .returned (.pointer (some ⟨ab, 0, none⟩)) ∧ AtnAt w'.heap.size w' N v ∧ AtF w'.heap.size w' N v ab tt nr ∧ DcF w'.heap.size w' N v ab nd ∧ Kp (fun j => j < db) w w'
/-- All steps of the reading, joined. -/
theorem fin_join {N : Bd} {rs : List (Nat × Nat)} (ao : AllOk N rs) {ab : Nat} {A tA : Nat → Nat} {vs v9 : Value} {g3 g4 g7 g8 gE gB : DG} {a3 a4 a7 a8 : Array Value} {f0 f3 fE fB f7 : Nat → Array Value}
    (r6 : RowIs g3 a3 6 2 268 rs.length (P2 A rs rs.length)) (r8 : RowIs g3 a3 8 4 3 rs.length (P4 rs.length)) (st7 : St7 N rs N.st.length f0 f3)
    (mo : RowIs g4 a4 5 5 232 1 (fun x => x[0]? = some (.pointer (some ⟨A 0, 0, none⟩)))) (mo1 : ∀ j, j ≠ 5 → a4[j]? = a3[j]?) (mo2 : ∀ i, i ≠ 5 → g4.rw i = g3.rw i)
    (ed : EdI N ab a4 A vs f3 g4 tA N.ed.length gE fE) (bk : BkI N ab a4 A vs fE gE (S8p N N.st.length) (S4p N N.st.length) (S10p N N.st.length) gB fB)
    (de : DeI N ab a4 A vs fB gB N.de g7 a7 f7 v9)
    (ga8 : GA N ab a8 g8 A vs f7) (la1 : ∀ j, j ≠ 2 → a8[j]? = a7[j]?) (la2 : ∀ i, i ≠ 6 → g8.rw i = g7.rw i) (la3 : ∀ j, g8.bl (2 * j + 2) = g7.bl (2 * j + 2)) : FinA N rs ab A tA vs g8 a8 f7 := by
  have f7e : ∀ s c, c = 2 ∨ c = 6 → (f7 s)[c]? = (fE s)[c]? := fun s c hc => by
    rw [de.fo s c (by omega), bk.fo s c (by omega) (by omega) (by omega)]
  have row : ∀ i, i ≠ 1 → i ≠ 6 → i < 8 → i ≠ 5 → g8.rw i = g3.rw i := fun i h1 h6 h8 h5 => by
    rw [la2 i h6, de.ro i h1, bk.rw, ed.ro i h8, mo2 i h5]
  have row8 : ∀ i, 8 ≤ i → g8.rw i = gE.rw i := fun i h8 => by rw [la2 i (by omega), de.ro i (by omega), bk.rw]
  have ac : ∀ c, c ≠ 0 → c ≠ 2 → a8[c]? = a4[c]? := fun c h0 h2 => by rw [la1 c h2, de.ao c h0]
  refine ⟨⟨ga8, de.cs, de.d7, fun j hj => ?_, fun s hs => ?_, fun s hs => ?_, fun s hs hk => ?_, fun s hs hk => ?_, fun s hs hk => ?_, fun s hs hk => ?_, ?_⟩, ?_, ?_, ?_⟩
  · obtain ⟨c, h1, h2⟩ := ed.tr j hj
    exact ⟨c, by rw [la3, de.bo, bk.bl, h1], h2⟩
  · obtain ⟨v, h1, h2⟩ := ed.rows s hs
    refine ⟨v, by rw [f7e s 6 (by omega), h1], ?_⟩
    rw [row8 _ (by omega), h2, out_map, List.length_map]
  · rw [f7e s 2 (by omega), ed.eps s hs]
  · rw [de.fo s 7 (by rintro ⟨h, _⟩; exact (dc_kd h).2.2.1 hk)]
    obtain ⟨p, hp, hpB, hpa⟩ := ao.vo.be s hs hk
    exact bk.e8 s hs hk ⟨p, hp, hpB, hpa⟩
  · rw [de.fo s 10 (by omega)]
    obtain ⟨p, hp, hpk, x, hx, hxd⟩ := ao.vo.pb s hs hk
    exact bk.e4 s hs hk ⟨p, hp, hpk, x, hx, hxd⟩
  · rw [de.fo s 9 (by omega)]
    obtain ⟨p, hp, hpk, x, hx, hxd⟩ := ao.vo.sb s hs hk
    exact bk.e10 s hs hk ⟨p, hp, hpk, x, hx, hxd⟩
  · obtain ⟨p, hp, hpk, x, hx, hxs⟩ := ao.ro.has s hs hk
    obtain ⟨u, hu⟩ := st7.one p hp hpk x hx
    rw [hxs] at hu
    refine ⟨269, u, ?_⟩
    rw [de.fo s 7 (by rintro ⟨h, _⟩; exact (dc_kd h).2.1 hk), bk.fo s 7 (by omega) (by omega) (by omega), ed.fo s 7 (by omega) (by omega), hu]
  · exact r6.of (row 2 (by omega) (by omega) (by omega) (by omega)) (by rw [ac 6 (by omega) (by omega), mo1 6 (by omega)]) (fun _ h => h)
  · exact r8.of (row 4 (by omega) (by omega) (by omega) (by omega)) (by rw [ac 8 (by omega) (by omega), mo1 8 (by omega)]) (fun _ h => h)
  · refine mo.of ?_ (ac 5 (by omega) (by omega)) (fun _ h => h)
    rw [la2 5 (by omega), de.ro 5 (by omega), bk.rw, ed.ro 5 (by omega)]
  · exact ⟨v9, by rw [la1 0 (by omega)]; exact de.a0', by rw [la2 1 (by omega)]; exact de.r1⟩
end Go.Proofs
end
section
namespace Go.Proofs
open Go.RowKit
open Pl
/-! ## a network is made of its numbers -/
theorem serL_eq (N : Bd) (rs : List (Nat × Nat)) (mt : Int) : serL N rs mt = 4 :: 0 :: mt :: (N.st.length : Int) :: (N.st.flatMap serS ++ (0 :: 0 :: ((rs.length : Int) :: (rs.flatMap serR ++ (1 :: 0 :: 0 :: ((N.ed.length : Int) :: (N.ed.flatMap serE ++ ((N.de.length : Int) :: (serN N.de ++ (0 :: []))))))))))  := by
  simp [serL]
set_option maxRecDepth 100000 in
set_option maxHeartbeats 2000000 in
theorem deser_any {N : Bd} {rs : List (Nat × Nat)} (ao : AllOk N rs) {W : World} {ob db dg dc : Nat} {mt : Int} (hob : Blk W ob 246 #[.bool false, .bool true, .bool false]) (hdb : Blk W db 214 #[.pointer (some ⟨ob, 0, none⟩), .slice none 0 0, .int .i64 0]) (hlt : ob < db) (hdg : dg < db)
    (hr : RowAt W dg (flI (serL N rs mt))) (hc : (serL N rs mt).length ≤ dc) (hf : (serL N rs mt).length ≤ 1000000) (hL : Rng (serL N rs mt)) :
    Calls Tryz.prog 44 #[.pointer (some ⟨db, 0, none⟩), .slice (some ⟨dg, 0, none⟩) (serL N rs mt).length dc] W fun e w' => DeRet N db W e w' := by
  have AO := Lib.hid ao
  have hko := Lib.hid ao.ko
  have hro := Lib.hid ao.ro
  have hvo := Lib.hid ao.vo
  have hst := ao.st
  obtain ⟨L, hLe⟩ : ∃ L, L = serL N rs mt := ⟨_, rfl⟩
  rw [← hLe] at hr hc hf hL ⊢
  have HLE := Lib.hid hLe
  have b2 := (hdb.set 1 (.slice (some ⟨dg, 0, none⟩) L.length dc) _ rfl).set 2 (.int .i64 0) #[.pointer (some ⟨ob, 0, none⟩), .slice (some ⟨dg, 0, none⟩) L.length dc, .int .i64 0] rfl
  have k2 : Kp (fun j => j < db) W ((W.setCell ⟨db, 1, none⟩ (.slice (some ⟨dg, 0, none⟩) L.length dc)).setCell ⟨db, 2, none⟩ (.int .i64 0)) := (Kp.setCell _ _ _ (by simp)).trans (Kp.setCell _ _ _ (by simp))
  have r2 : RowAt ((W.setCell ⟨db, 1, none⟩ (.slice (some ⟨dg, 0, none⟩) L.length dc)).setCell ⟨db, 2, none⟩ (.int .i64 0)) dg (flI L) := fun i u hu => by
    have h0 := hr i u hu
    exact (World.cell?_of_block (k2.blk dg (cell_lt h0) hdg)).trans h0
  have D0 := Lib.hid (dm0 b2 r2 hc hf hdg hL)
  have OB : Hid (∀ g w R, DM ⟨db, (W.setCell ⟨db, 1, none⟩ (.slice (some ⟨dg, 0, none⟩) L.length dc)).setCell ⟨db, 2, none⟩ (.int .i64 0), db, dg, dc, .pointer (some ⟨ob, 0, none⟩), L⟩ g w R → Blk w ob 246 #[.bool false, .bool true, .bool false] ∧ Kp (fun j => j < db) W w) := Lib.hid (fun g w R h => by
    have hk := k2.trans h.kp
    exact ⟨hob.kept (hk.blk ob hob.lt hlt), hk⟩)
  have c1 : W.cell? ⟨db, 1, none⟩ = some (.slice none 0 0) := hdb.cell 1
  have c1f : W.frozen? ⟨db, 1, none⟩ = false := hdb.free 1
  have b1 := hdb.set 1 (.slice (some ⟨dg, 0, none⟩) L.length dc) _ rfl
  have c2 : (W.setCell ⟨db, 1, none⟩ (.slice (some ⟨dg, 0, none⟩) L.length dc)).cell? ⟨db, 2, none⟩ = some (.int .i64 0) := b1.cell 2
  have c2f : (W.setCell ⟨db, 1, none⟩ (.slice (some ⟨dg, 0, none⟩) L.length dc)).frozen? ⟨db, 2, none⟩ = false := b1.free 2
  clear b1 b2 k2 r2 hdb hob hr hL ao hLe
  go_enter Tryz.func44, Tryz.ntmps44
  go_upto_region 3 with fail
  obtain ⟨k, hk⟩ : ∃ k : DK, k = ⟨db, (W.setCell ⟨db, 1, none⟩ (.slice (some ⟨dg, 0, none⟩) L.length dc)).setCell ⟨db, 2, none⟩ (.int .i64 0), db, dg, dc, .pointer (some ⟨ob, 0, none⟩), L⟩ := ⟨_, rfl⟩
  rw [← hk] at D0 OB
  have hkdb : db = k.db := by rw [hk]
  have hkop : k.op = .pointer (some ⟨ob, 0, none⟩) := by rw [hk]
  obtain ⟨g0, hg0⟩ : ∃ g0 : DG, g0 = ⟨upT (fun _ => .no) db .des, fun _ => none, fun _ => none⟩ := ⟨_, rfl⟩
  rw [← hg0] at D0
  generalize (W.setCell ⟨db, 1, none⟩ (.slice (some ⟨dg, 0, none⟩) L.length dc)).setCell ⟨db, 2, none⟩ (.int .i64 0) = W2 at D0 ⊢
  have D : Hid (DM k g0 W2 (4 :: 0 :: mt :: (N.st.length : Int) :: (N.st.flatMap serS ++ (0 :: 0 :: ((rs.length : Int) :: (rs.flatMap serR ++ (1 :: 0 :: 0 :: ((N.ed.length : Int) :: (N.ed.flatMap serE ++ ((N.de.length : Int) :: (serN N.de ++ (0 :: [])))))))))))) := Lib.hid (by
    have := D0.out
    rw [HLE.out, serL_eq] at this
    exact this)
  have HOP := Lib.hid hkop
  have HKDB := Lib.hid hkdb
  clear D0 c1 c1f c2 c2f hk hg0 hkop HLE
  rw [hkdb]
  rw [hkdb] at OB
  clear hkdb hlt hdg hc hf
  go_upto_region 5 with (first | (go_at_call 62; refine (cver_any D.out).mono ?_; rintro e w1 ⟨rfl, hd⟩; replace D := Lib.hid hd; clear hd) | (go_at_call 63; refine (ratn_any D.out).mono ?_; rintro e w2 ⟨ab, m, g1, rfl, hd, hb⟩; replace D := Lib.hid hd; have HB1 := Lib.hid hb; clear hd hb))
  go_upto_region 6 with (first | (go_at_call 64; refine (rdst_any hko.out D.out HB1.out rfl).mono ?_; rintro e w3 ⟨rfl, g2, A, hd, ⟨v9, hb2, hr2⟩, hst2⟩; replace D := Lib.hid hd; have G2 : Hid (GA N ab ((atn0 0 mt m).setIfInBounds 9 v9) g2 A v9 (c2s N A ab)) := Lib.hid ⟨hb2, Array.getElem?_setIfInBounds_self_of_lt (by simp [atn0]), by simp [atn0], hr2, hst2⟩; have CI := Lib.hid (c2s_init hko.out A ab); clear hd hb2 hr2 hst2 HB1))
  have HA2 : Hid (∀ j, j ≠ 9 → ((atn0 0 mt m).setIfInBounds 9 v9)[j]? = (atn0 0 mt m)[j]?) := Lib.hid (fun j hj => Array.getElem?_setIfInBounds_ne (fun e => hj e.symm))
  generalize (atn0 0 mt m).setIfInBounds 9 v9 = a2 at *
  go_upto_region 7 with (first | (go_at_call 65; refine (rdru_any hko.out hro.out D.out G2.out CI.out.1 (by rw [HA2.out 1 (by omega)]; rfl)).mono ?_; rintro e w4 ⟨rfl, g3, a3, f3, hd, hg3, hc3, h6, h8, h7, hs7, ha3⟩; replace D := Lib.hid hd; have G3 := Lib.hid hg3; have C3 := Lib.hid hc3; have R6 := Lib.hid h6; have R8 := Lib.hid h8; have S7 := Lib.hid hs7; have HA3 := Lib.hid ha3; clear hd hg3 hc3 h6 h8 h7 hs7 ha3))
  go_upto_region 8 with (first | (go_at_call 66; refine (rdmo_any D.out G3.out hst AO.out.k0).mono ?_; rintro e w5 ⟨rfl, g4, a4, hd, hg4, ho4, hw4, hp4⟩; replace D := Lib.hid hd; have G4 := Lib.hid hg4; have HO4 := Lib.hid ho4; have HW4 := Lib.hid hw4; have HP4 := Lib.hid hp4; clear hd hg4 ho4 hw4 hp4))
  have F3 : Hid (∀ s, s < N.st.length → ∀ c, c ≠ 7 ∨ N.kind s ≠ 2 → (f3 s)[c]? = (c2s N A ab s)[c]?) := Lib.hid (fun s _ c hc => S7.out.same s c (by omega))
  have H26 : Hid (∀ s, s < N.st.length → (f3 s)[2]? = some (.bool false) ∧ (f3 s)[6]? = some (.slice none 0 0)) := Lib.hid (fun s hs => by rw [F3.out s hs 2 (by omega), F3.out s hs 6 (by omega)]; exact CI.out.2 s hs)
  have HN8 : Hid (∀ s, s < N.st.length → N.kind s = 8 → (f3 s)[7]? = some .nilIface) := Lib.hid (fun s hs hk => by rw [F3.out s hs 7 (by omega)]; exact (c2s_7 hko.out A ab hs).1 hk)
  go_upto_region 10 with (first | (go_at_call 67; refine (rdse_any D.out).mono ?_; rintro e w6 ⟨rfl, hd⟩; replace D := Lib.hid hd; clear hd) | (go_at_call 68; refine (rded_any hko.out hvo.out D.out G4.out C3.out H26.out HN8.out AO.out.ed hst).mono ?_; rintro e w7 ⟨rfl, gE, fE, tA, gB, fB, hd, hed, hbk⟩; replace D := Lib.hid hd; have ED := Lib.hid hed; have BK := Lib.hid hbk; clear hd hed hbk))
  have D7B : Hid (D7 N fB) := Lib.hid (fun s hs hT => ⟨0, by
    have nk := dc_kd hT
    rw [BK.out.fo s 7 (by omega) (by omega) (by omega), ED.out.fo s 7 (by omega) (by omega), F3.out s hs 7 (by omega)]
    exact (c2s_7 hko.out A ab hs).2 hT⟩)
  have A40 : Hid (a4[0]? = some (.slice none 0 0)) := Lib.hid (by rw [HO4.out 0 (by omega), HA3.out 0 (by omega) (by omega) (by omega), HA2.out 0 (by omega)]; rfl)
  have A41 : Hid (a4[1]? = some (.int .i64 0)) := Lib.hid (by rw [HO4.out 1 (by omega), HA3.out 1 (by omega) (by omega) (by omega), HA2.out 1 (by omega)]; rfl)
  go_upto_region 11 with (first | (go_at_call 69; refine (rdde_any hko.out D.out BK.out.ga BK.out.cs D7B.out A40.out AO.out.de AO.out.dn).mono ?_; rintro e w8 ⟨rfl, g7, a7, f7, v7, hd, hI⟩; replace D := Lib.hid hd; have DI := Lib.hid hI; clear hd hI))
  have A71 : Hid (a7[1]? = some (.int .i64 0)) := Lib.hid (by rw [DI.out.ao 1 (by omega)]; exact A41.out)
  go_upto_region 12 with (first | (go_at_call 70; refine (rdla_any D.out DI.out.ga A71.out).mono ?_; rintro e w9 ⟨rfl, g8, a8, hd, hg8, ho8, hw8, hb8⟩; replace D := Lib.hid hd; have FA := Lib.hid (fin_join AO.out R6.out R8.out S7.out HP4.out HO4.out HW4.out ED.out BK.out DI.out hg8 ho8 hw8 hb8); clear hd hg8 ho8 hw8 hb8))
  clear G2 CI HA2 G3 C3 R6 R8 S7 HA3 G4 HO4 HW4 HP4 F3 H26 HN8 ED BK D7B A40 A41 DI A71
  go_upto_region 14 with (first | (go_at_call 71; refine (mkp_any hko.out hro.out D.out FA.out.fi hst).mono ?_; rintro e wA ⟨rfl, nA, hwA⟩; replace D : Hid (DM k g8 wA []) := Lib.hid (by rw [hwA]; exact D.out.drewN nA); clear hwA) | (go_at_call 72; refine (vfy_any hko.out hvo.out D.out FA.out.fi AO.out.ed hst AO.out.v7 AO.out.ve HOP.out ((OB.out _ _ _ D.out).1.cell 1)).mono ?_; rintro e wB ⟨rfl, rfl⟩))
  have cop : wA.cell? ⟨k.db, 0, none⟩ = some (.pointer (some ⟨ob, 0, none⟩)) := by
    obtain ⟨pp, hdb, _⟩ := D.out.rd.pos
    rw [hdb.cell 0]; simp [HOP.out]
  have cog : wA.cell? ⟨ob, 2, none⟩ = some (.bool false) := (OB.out _ _ _ D.out).1.cell 2
  go_wp2_with (first | (go_at_call 73; refine (gGen _ _ _ cog).mono ?_; rintro e w' ⟨rfl, rfl⟩))
  go_ret
  obtain ⟨tt, hat⟩ := FA.out.atf AO.out D.out
  exact ⟨ab, tt, _, _, _, rfl, FA.out.atn AO.out D.out, hat, FA.out.dcf AO.out D.out, by rw [HKDB.out]; exact (OB.out _ _ _ D.out).2⟩
set_option maxHeartbeats 1000000 in
theorem zzatn_any {N : Bd} {rs : List (Nat × Nat)} (ao : AllOk N rs) {W : World} {dg dc : Nat} {mt : Int} (hr : RowAt W dg (flI (serL N rs mt))) (hc : (serL N rs mt).length ≤ dc) (hf : (serL N rs mt).length ≤ 1000000) (hL : Rng (serL N rs mt)) :
    Calls Tryz.prog 30 #[.slice (some ⟨dg, 0, none⟩) (serL N rs mt).length dc] W fun e w' => NtRet N W e w' := by
  have hdg : dg < W.heap.size := by
    have h1 : (flI (serL N rs mt))[0]? = some (.int .i32 4) := by rw [serL_eq]; rfl
    exact cell_lt (hr 0 _ h1)
  have AO := Lib.hid ao
  have HR := Lib.hid hr
  have HL := Lib.hid hL
  have HC := Lib.hid hc
  clear ao hr hL hc
  go_enter Tryz.func30, Tryz.ntmps30
  go_wp2_with (first | (go_at_call 43; refine (ndz_any W).mono ?_; rintro e w1 ⟨ob, db, rfl, h1, h2, h3, h4, h5⟩; have H1 := Lib.hid h1; have H2 := Lib.hid h2; have H3 := Lib.hid h3; have H4 := Lib.hid h4; have H5 := Lib.hid h5; clear h1 h2 h3 h4 h5) | (go_at_call 44; refine (deser_any AO.out H3.out H4.out H2.out (Nat.lt_of_lt_of_le hdg H1.out) (HR.out.up H5.out) HC.out hf HL.out).mono ?_; rintro e w2 ⟨ab, tt, nr, nd, v, rfl, g1, g2, g3, g4⟩; have G1 := Lib.hid g1; have G2 := Lib.hid g2; have G3 := Lib.hid g3; have G4 := Lib.hid g4; clear g1 g2 g3 g4))
  go_ret
  refine ⟨ab, tt, nr, nd, v, rfl, G1.out, G2.out, G3.out, ⟨SO.trans (H5.out.so) (G4.out.so), Nat.le_trans H5.out.size G4.out.size, fun j hj _ => ?_⟩⟩
  exact (G4.out.blk j (Nat.lt_of_lt_of_le hj H5.out.size) (Nat.lt_of_lt_of_le hj H1.out)).trans (H5.out.blk j hj trivial)
end Go.Proofs
end
section
namespace Go.Proofs
open Go.RowKit
open Pl
/-! ## the networks of good rules are all that is asked -/
theorem allok {es : List Ex} (gl : GoodL es) {ks : List Nat} (hk : ks.length = (compile es).2.length) : AllOk (compile es).1 ((compile es).2.zip ks) := by
  have g := netG gl
  have ht := tot_compile gl
  unfold tot at ht
  exact ⟨kok gl, vok gl, rok gl hk, kind_of g.first, st_lt g.first, by omega, deok, by omega, compile_de es, vok7 gl, vokE gl⟩
theorem chrE_rng {i d : Nat} {a b : Int} (h1 : 0 ≤ a) (h2 : a ≤ b) (h3 : b ≤ 127) : (chrE i d a b).kind < 2147483648 ∧ 0 ≤ (chrE i d a b).a1 ∧ (chrE i d a b).a1 < 2147483648 ∧ 0 ≤ (chrE i d a b).a2 ∧ (chrE i d a b).a2 < 2147483648 := by
  unfold chrE
  split
  · exact ⟨by show 5 < 2147483648; decide, h1, by show a < _; omega, by show (0 : Int) ≤ 0; decide, by show (0 : Int) < 2147483648; decide⟩
  · exact ⟨by show 2 < 2147483648; decide, h1, by show a < _; omega, by show 0 ≤ b; omega, by show b < _; omega⟩
theorem epsE_rng (i d : Nat) : (epsE i d).kind < 2147483648 ∧ 0 ≤ (epsE i d).a1 ∧ (epsE i d).a1 < 2147483648 ∧ 0 ≤ (epsE i d).a2 ∧ (epsE i d).a2 < 2147483648 := by
  exact ⟨by show 1 < 2147483648; decide, by show (0 : Int) ≤ 0; decide, by show (0 : Int) < 2147483648; decide, by show (0 : Int) ≤ 0; decide, by show (0 : Int) < 2147483648; decide⟩
theorem mem_eps {i : Nat} {ds : List Nat} {x : LE} (h : x ∈ ds.map (epsE i)) : ∃ d, x = epsE i d := by
  obtain ⟨d, _, rfl⟩ := List.mem_map.1 h; exact ⟨d, rfl⟩
theorem edrng {es : List Ex} (gl : GoodL es) : ∀ x ∈ (compile es).1.ed, x.kind < 2147483648 ∧ 0 ≤ x.a1 ∧ x.a1 < 2147483648 ∧ 0 ≤ x.a2 ∧ x.a2 < 2147483648 := by
  intro x hx
  have g := netG gl
  have hsrc := g.src x hx
  have hm := mem_out hx
  have eps : ∀ {i d : Nat}, x = epsE i d → x.kind < 2147483648 ∧ 0 ≤ x.a1 ∧ x.a1 < 2147483648 ∧ 0 ≤ x.a2 ∧ x.a2 < 2147483648 := by
    rintro i d rfl; exact epsE_rng i d
  by_cases h0 : x.src = 0
  · rw [h0, g.out0] at hm
    obtain ⟨d, e⟩ := mem_eps hm; exact eps e
  · obtain ⟨y, hy, ho⟩ := NetG.at g (s := x.src) (by omega) hsrc
    generalize x.src = i at *
    cases ho with
    | chars r d a b h1 h2 h3 h4 h5 h6 => rw [h2] at hm; simp at hm; rw [hm]; exact chrE_rng h4 h5 h6
    | basic r d h1 h2 => rw [h2] at hm; simp at hm; exact eps hm
    | ruleStart r d h1 h2 => rw [h2] at hm; simp at hm; exact eps hm
    | block r k ds h1 h2 h3 h4 => rw [h4] at hm; obtain ⟨d, e⟩ := mem_eps hm; exact eps e
    | plusBlock r j ds h1 h2 h3 => rw [h3] at hm; obtain ⟨d, e⟩ := mem_eps hm; exact eps e
    | ruleStop r j h1 h2 => rw [h2] at hm; simp at hm
    | blockEnd r j k d h1 h2 => rw [h2] at hm; simp at hm; exact eps hm
    | starBack r j h1 h2 h3 => rw [h3] at hm; simp at hm; exact eps hm
    | starEntry r j h1 h2 h3 => rw [h3] at hm; simp at hm; rcases hm with hm | hm <;> exact eps hm
    | plusBack r j a h1 h2 h3 => rw [h3] at hm; simp at hm; rcases hm with hm | hm <;> exact eps hm
    | loopEnd r a d h1 h2 h3 => rw [h3] at hm; simp at hm; exact eps hm
theorem starg {es : List Ex} (gl : GoodL es) : ∀ x ∈ (compile es).1.st, x.kind ≠ 0 ∧ x.kind ≤ 12 ∧ x.rule ≤ 4 ∧ x.arg ≤ (compile es).1.st.length := by
  intro x hx
  have g := netG gl
  obtain ⟨i, hi, e⟩ := List.getElem_of_mem hx
  have hx' : (compile es).1.st[i]? = some x := by rw [List.getElem?_eq_getElem hi, e]
  have hf := gl.few
  by_cases h0 : i = 0
  · subst h0
    rw [g.first] at hx'; cases hx'
    exact ⟨by decide, by decide, by decide, Nat.zero_le _⟩
  · obtain ⟨y, hy, ho⟩ := NetG.at g (s := i) (by omega) hi
    rw [hx'] at hy; cases hy
    cases ho with
    | chars r d a b h1 h2 => exact ⟨by simp, by simp, by simp only; omega, Nat.zero_le _⟩
    | basic r d h1 h2 => exact ⟨by simp, by simp, by simp only; omega, Nat.zero_le _⟩
    | ruleStart r d h1 h2 => exact ⟨by simp, by simp, by simp only; omega, Nat.zero_le _⟩
    | block r k ds h1 h2 h3 h4 => exact ⟨by simp only; omega, by simp only; omega, by simp only; omega, by simp only; omega⟩
    | plusBlock r j ds h1 h2 h3 => exact ⟨by simp, by simp, by simp only; omega, by simp only; omega⟩
    | ruleStop r j h1 h2 => exact ⟨by simp, by simp, by simp only; omega, Nat.zero_le _⟩
    | blockEnd r j k d h1 h2 => exact ⟨by simp, by simp, by simp only; omega, Nat.zero_le _⟩
    | starBack r j h1 h2 h3 => exact ⟨by simp, by simp, by simp only; omega, Nat.zero_le _⟩
    | starEntry r j h1 h2 h3 => exact ⟨by simp, by simp, by simp only; omega, Nat.zero_le _⟩
    | plusBack r j a h1 h2 h3 => exact ⟨by simp, by simp, by simp only; omega, Nat.zero_le _⟩
    | loopEnd r a d h1 h2 h3 => exact ⟨by simp, by simp, by simp only; omega, by simp only; omega⟩
theorem kds_len (n : Nat) : (kds n).length = n := by simp [kds]
theorem kds_le {n y : Nat} (h : y ∈ kds n) : y ≤ n := by
  unfold kds at h
  obtain ⟨i, hi, rfl⟩ := List.mem_map.1 h
  have := List.mem_range.1 hi
  omega
theorem sml {es : List Ex} (gl : GoodL es) : Sml (compile es).1 ((compile es).2.zip (kds es.length)) := by
  have g := netG gl
  have ht := tot_compile gl
  have ht' := ht
  unfold tot at ht
  have hf := gl.few
  have hl := compile_len es
  have hv := vok gl
  refine ⟨fun x hx => ?_, fun x hx => ?_, fun x hx => ?_, fun x hx => ?_, ht', ?_⟩
  · obtain ⟨h1, h2, h3, h4⟩ := starg gl x hx
    exact ⟨h1, by omega, by omega, by omega⟩
  · obtain ⟨j, hj, e⟩ := List.getElem_of_mem hx
    have hx' : ((compile es).2.zip (kds es.length))[j]? = some x := by rw [List.getElem?_eq_getElem hj, e]
    have h1 := ((rok gl (ks := kds es.length) (by rw [kds_len, hl])).st j x hx').1
    rw [List.getElem?_zip_eq_some] at hx'
    have h2 := kds_le (List.mem_of_getElem? hx'.2)
    exact ⟨by omega, by omega⟩
  · obtain ⟨h1, h2, _⟩ := hv.ed x hx
    obtain ⟨h3, h4, h5, h6, h7⟩ := edrng gl x hx
    exact ⟨by omega, by omega, h3, h4, h5, h6, h7⟩
  · have := (deok (es := es) x hx).1
    omega
  · rw [List.length_zip, kds_len, hl]; omega
theorem rng_app {a b : List Int} (h1 : Rng a) (h2 : Rng b) : Rng (a ++ b) := fun x hx => by
  rcases List.mem_append.1 hx with h | h
  · exact h1 x h
  · exact h2 x h
theorem rng_fm {α : Type} {f : α → List Int} {l : List α} (h : ∀ x ∈ l, Rng (f x)) : Rng (l.flatMap f) := fun x hx => by
  obtain ⟨y, hy, hx⟩ := List.mem_flatMap.1 hx
  exact h y hy x hx
theorem rng_one {x : Int} (h1 : 0 ≤ x) (h2 : x < 2147483648) : Rng [x] := fun y hy => by
  simp at hy; subst hy; exact ⟨h1, h2⟩
theorem rng_serL {N : Bd} {rs : List (Nat × Nat)} (sm : Sml N rs) {mt : Nat} (hm : mt < 2147483648) : Rng (serL N rs (mt : Int)) := by
  have ht := sm.t
  unfold tot at ht
  have hn := sm.n
  unfold serL
  refine rng_app (rng_app (rng_app (rng_app (rng_app (rng_app (rng_app (rng_app (rng_app (rng_app (rng_app (rng_app (rng_app ?_ ?_) ?_) ?_) ?_) ?_) ?_) ?_) ?_) ?_) ?_) ?_) ?_) ?_
  · intro x hx
    simp at hx
    rcases hx with rfl | rfl | rfl | rfl <;> omega
  · refine rng_fm fun x hx => ?_
    obtain ⟨h1, h2, h3, h4⟩ := sm.s x hx
    unfold serS
    refine rng_app (fun y hy => ?_) ?_
    · simp at hy; rcases hy with rfl | rfl <;> omega
    · split
      · exact rng_one (by omega) (by omega)
      · intro y hy; simp at hy
  · exact rng_one (by omega) (by omega)
  · exact rng_one (by omega) (by omega)
  · exact rng_one (by omega) (by omega)
  · refine rng_fm fun x hx => ?_
    obtain ⟨h1, h2⟩ := sm.r x hx
    intro y hy
    unfold serR at hy
    simp at hy; rcases hy with rfl | rfl <;> omega
  · exact rng_one (by omega) (by omega)
  · exact rng_one (by omega) (by omega)
  · exact rng_one (by omega) (by omega)
  · exact rng_one (by omega) (by omega)
  · refine rng_fm fun x hx => ?_
    obtain ⟨h1, h2, h3, h4, h5, h6, h7⟩ := sm.e x hx
    intro y hy
    unfold serE at hy
    simp at hy; rcases hy with rfl | rfl | rfl | rfl | rfl | rfl <;> omega
  · exact rng_one (by omega) (by omega)
  · intro y hy
    unfold serN at hy
    obtain ⟨z, hz, rfl⟩ := List.mem_map.1 hy
    have := sm.d z hz
    omega
  · exact rng_one (by omega) (by omega)
theorem len_serL {N : Bd} {rs : List (Nat × Nat)} (sm : Sml N rs) (mt : Int) : (serL N rs mt).length ≤ 1000000 := by
  have ht := sm.t
  unfold tot at ht
  have hn := sm.n
  have h1 := flat_len serS 3 (fun x => by unfold serS; split <;> simp) N.st
  have h2 := flat_len serR 2 (fun x => by simp [serR]) rs
  have h3 := flat_len serE 6 (fun x => by simp [serE]) N.ed
  have h4 : (serN N.de).length = N.de.length := by simp [serN]
  unfold serL
  simp only [List.length_append, List.length_cons, List.length_nil]
  omega
theorem mtOf_kds (n : Nat) (h : n ≤ 4) : mtOf (kds n) < 2147483648 := mtOf_lt 2147483648 (by omega) _ _ (by omega) (fun y hy => by have := kds_le hy; omega)
end Go.Proofs
end
section
namespace Go.Proofs
open Go.RowKit
open Pl
/-! ## the law's premises, joined -/
theorem hash_fold : ∀ (L : List Cf) (A : List (Nat × Nat)), L.map (fun y => (y.n, y.alt)) = toI A → ∀ (h : Int) (m : Nat), h % 4294967296 = ((w32 m : Nat) : Int) →
    (L.foldl (fun h x => wrap64 (wrap64 (31 * h) + x.h)) h) % 4294967296 = ((w32 (A.foldl (fun h x => (h * 31 + lh x.1 x.2) % 4294967296) m) : Nat) : Int)
  | [], [], _, h, m, hm => hm
  | [], a :: A, e, _, _, _ => by simp [toI] at e
  | x :: L, [], e, _, _, _ => by simp [toI] at e
  | x :: L, a :: A, e, h, m, hm => by
    simp only [List.map_cons, toI, List.cons.injEq, Prod.mk.injEq] at e
    obtain ⟨⟨e1, e2⟩, e3⟩ := e
    simp only [List.foldl_cons]
    refine hash_fold L A e3 _ _ ?_
    have hx : x.h = (lh a.1 a.2 : Int) := by unfold Cf.h; rw [e1, e2, lhI_eq]
    rw [hx]
    generalize lh a.1 a.2 = l
    unfold w32 at hm ⊢
    unfold wrap64
    omega
theorem dfaHashL_eq {L : List Cf} {A : List (Nat × Nat)} (e : L.map (fun y => (y.n, y.alt)) = toI A) : dfaHashL L = (dfaN A : Int) := by
  unfold dfaHashL dfaN
  have h := hash_fold L A e 1 1 (by unfold w32; omega)
  have e1 : mUI ((7 : Nat) : Int) (hashL L) = ((mU 7 (A.foldl (fun h x => (h * 31 + lh x.1 x.2) % 4294967296) 1) : Nat) : Int) := by
    refine mUI_eq 7 _ _ ?_
    unfold hashL
    exact h
  have z : (7 : Int) = ((7 : Nat) : Int) := rfl
  have t : (1 : Int) = ((1 : Nat) : Int) := rfl
  rw [z, e1, t, mFI_eq]
theorem keys_mem {L : List Cf} {A : List (Nat × Nat)} (e : L.map (fun y => (y.n, y.alt)) = toI A) {c : Cf} (hc : c ∈ L) : ∃ a ∈ A, c.n = (a.1 : Int) ∧ c.alt = (a.2 : Int) := by
  have h : (c.n, c.alt) ∈ toI A := by rw [← e]; exact List.mem_map_of_mem (f := fun y : Cf => (y.n, y.alt)) hc
  unfold toI at h
  obtain ⟨a, ha, he⟩ := List.mem_map.1 h
  simp only [Prod.mk.injEq] at he
  exact ⟨a, ha, he.1.symm, he.2.symm⟩
theorem nodup_few : ∀ (n : Nat) (l : List Nat), l.Nodup → (∀ x ∈ l, x < n) → l.length ≤ n
  | 0, l, _, h => by
    cases l with
    | nil => simp
    | cons a l => exact absurd (h a (by simp)) (by omega)
  | n + 1, l, hn, h => by
    by_cases hm : n ∈ l
    · have h1 := nodup_few n (l.erase n) (hn.erase n) (fun x hx => by
        have h2 := (hn.mem_erase_iff.1 hx)
        have := h x h2.2
        omega)
      rw [List.length_erase_of_mem hm] at h1
      omega
    · have := nodup_few n l hn (fun x hx => by
        have := h x hx
        have : x ≠ n := fun e => hm (e ▸ hx)
        omega)
      omega
theorem netf_of {N : Bd} {nr f : Nat} (h : NetP N nr f) : NetF N f := ⟨h.pos, h.k0, h.eps0, h.ne0, h.start, h.step, h.neg⟩
theorem hashok {es : List Ex} (g : GoodL es) (h : tinyL es = true) {f : Nat} (hf : ∀ j, 1 ≤ j → j < (compile es).1.st.length → ∃ L, (compile es).1.cl f j = some L) : HashOk (compile es).1 f := by
  obtain ⟨hV, hH⟩ := tiny_all g h hf
  refine ⟨fun d1 d2 h1 h2 hh _ => ?_, fun d h1 x hx y hy hxy => ?_⟩
  · obtain ⟨m1, _, v1, _, k1⟩ := h1
    obtain ⟨m2, _, v2, _, k2⟩ := h2
    rw [dfaHashL_eq k1.keys, dfaHashL_eq k2.keys] at hh
    have := hH _ _ m1 m2 (by exact_mod_cast hh)
    rw [k1.keys, k2.keys, this]
  · obtain ⟨m1, _, v1, k1, _⟩ := h1
    obtain ⟨a, ha, a1, a2⟩ := keys_mem k1.keys hx
    obtain ⟨b, hb, b1, b2⟩ := keys_mem k1.keys hy
    have va := hV _ m1 a ha
    have vb := hV _ m1 b hb
    rw [a1, a2, b1, b2, lhI_eq, lhI_eq] at hxy
    have e : lhg a = lhg b := by unfold lhg; exact_mod_cast hxy
    have := va.inj vb ((va.lh vb).1 e)
    subst this
    exact ⟨a1.trans b1.symm, a2.trans b2.symm⟩
theorem lawC {es : List Ex} (g : GoodL es) {w : World} {rb rc : Nat} (hs : SlE w (.slice (some ⟨rb, 0, none⟩) es.length rc) es) {s : ByteArray} (hsz : s.size ≤ 2147483647) :
    ∃ N f, LawC (.slice (some ⟨rb, 0, none⟩) es.length rc) es.length s w N f := by
  obtain ⟨f, hf, hP⟩ := netP g
  have hlen := compile_len es
  have gn := netG g
  have ht := tot_compile g
  have hfew := g.few
  have hsml := sml g
  have hao := allok g (ks := kds es.length) (by rw [kds_len, hlen])
  refine ⟨(compile es).1, f, netf_of hP, fun d hd c hc => ?_, fun d hd => ?_, fun V hV => ?_, fun V hV => ?_⟩
  · obtain ⟨m, _, v, k, _⟩ := hd
    obtain ⟨a, ha, a1, a2⟩ := keys_mem k.keys hc
    obtain ⟨f1, f2, f3, f4⟩ := hP.fine _ m a ha
    rw [a1, a2]
    exact ⟨by omega, by omega, by omega, by omega⟩
  · obtain ⟨m, _, v, _, k⟩ := hd
    have hl := congrArg List.length k.keys
    simp only [toI, List.length_map] at hl
    rw [hl]
    have hfn := hP.fine _ m
    have h1 := nodup_few (compile es).1.st.length ((dd d.A).map (·.1)) (dd_nodup hfn) (fun x hx => by
      obtain ⟨y, hy, rfl⟩ := List.mem_map.1 hx
      exact (hfn y (dd_mem hy)).2.1)
    rw [List.length_map] at h1
    unfold tot at ht
    omega
  · refine (lexNet_any g (hs.up hV)).mono ?_
    rintro e v' ⟨x, he, hm, hk⟩
    refine ⟨x, he, hm.s.2.1, hk, fun U hU => ?_⟩
    have ht2 := ht
    unfold tot at ht2
    exact lexer_any (hm.up hU) (by rw [kds_len, hlen]) (by rw [hlen]; omega) (fun y hy => by have := kds_le hy; omega) hsml (compile_de es) (st_lt gn.first) (compile_ed g) (by rw [hlen]; exact g.pos)
      (fun W' gq cq hW' hr hc => zzatn_any hao hr hc (len_serL hsml _) (rng_serL hsml (mtOf_kds es.length g.few)))
  · refine (tiny_any (hs.up hV) g.few s hsz).mono ?_
    rintro e v' ⟨t, he, hk, hp⟩
    exact ⟨t, he, hk, fun h => hashok g (hp h) hf⟩
/-- The law, over a list of expressions that can be read. -/
theorem fn_walk {w : World} {la : Option Addr} {ln lc : Nat} {es : List Ex} (hs : SlE w (.slice la ln lc) es) (hsm : SmL es) (s : ByteArray) (hsz : s.size ≤ 2147483647) :
    Calls Tryz.prog 3 #[.slice la ln lc, .string s] w fun e w' => e = .returned (.bool true) ∧ Kp (fun _ => True) w w' := by
  obtain ⟨q, c, hf⟩ := hs.form
  refine fn_any la ln lc s ?_ ?_
  · refine (small_any la ln lc s w).mono ?_
    rintro e w' ⟨t, he, rfl, hp⟩
    refine ⟨t, he, Kp.rfl', fun ht V hV => ?_⟩
    have hl4 := hp ht
    have hl : es.length ≤ 4 := by
      simp only [Value.slice.injEq] at hf
      omega
    refine (rules_any (hs.up hV) hl hsm).mono ?_
    rintro e V' ⟨rb, rc, he', hs', hk'⟩
    refine ⟨rb, es.length, rc, he', hl, hk', fun U hU => ?_⟩
    refine (lexGoodL_any (hs'.up hU) hl).mono ?_
    rintro e U' ⟨t', he'', hk'', hg⟩
    exact ⟨t', he'', hk'', fun h => lawC (hg h) (hs'.up (hU.trans hk'')) hsz⟩
  · intro V
    refine (lexText_any s hsz V).mono ?_
    rintro e v' ⟨t, he, hv, hp⟩
    exact ⟨t, he, hv, hp⟩
end Go.Proofs
end
