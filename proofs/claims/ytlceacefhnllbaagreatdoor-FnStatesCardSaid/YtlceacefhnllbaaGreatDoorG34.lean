/- A part of the proof of the statement on the law FnStates, which the last text proves: part G34. -/
import Derived.Test.YtlceacefhnllbaaGreatDoorG33
set_option linter.all false
section
namespace Go.Proofs
open Go.RowKit
open Pl
set_option maxRecDepth 100000 in
set_option maxHeartbeats 60000000 in
theorem vfy_any {N : Bd} {rs : List (Nat × Nat)} {k : DK} {w : World} {R : List Int} {ab ob : Nat} {A tA : Nat → Nat} {vs : Value} {g : DG} {a : Array Value} {f : Nat → Array Value} (ko : KOk N) (vo : VOk N) (h : DM k g w R) (fi : FinI N rs ab A tA vs g a f) (hfew : N.ed.length ≤ 1000) (hst : 0 < N.st.length)
    (v7 : ∀ s, s < N.st.length → N.kind s = 7 → N.out s = []) (ve : ∀ s, s < N.st.length → N.kind s ≠ 1 → ∀ x ∈ N.out s, x.kind = 1) (hop : k.op = .pointer (some ⟨ob, 0, none⟩)) (hob : w.cell? ⟨ob, 1, none⟩ = some (.bool true)) :
    Calls Tryz.prog 72 #[.pointer (some ⟨k.db, 0, none⟩), .pointer (some ⟨ab, 0, none⟩)] w fun e w' => e = .returned (.tuple #[]) ∧ w = w' := by
  have D := Lib.hid h
  have KO := Lib.hid ko
  have VO := Lib.hid vo
  have FI := Lib.hid fi
  have V7 := Lib.hid v7
  have VE := Lib.hid ve
  have hsf := ko.few
  obtain ⟨pp, hdb, _⟩ := h.rd.pos
  have cop : w.cell? ⟨k.db, 0, none⟩ = some (.pointer (some ⟨ob, 0, none⟩)) := by rw [hdb.cell 0]; simp [hop]
  have o0 := (h.rw 0 _ fi.ga.a2).1
  simp only at o0
  obtain ⟨q0, c0, hq0, _⟩ := own_form o0 (by omega)
  subst hq0
  have hc0 : (N.st.length : Int) ≤ (c0 : Int) := by have := own_cap o0; omega
  have c9 : w.cell? ⟨ab, 9, none⟩ = some (.slice (some ⟨q0, 0, none⟩) N.st.length c0) := ((h.bl 0 _ fi.ga.a1).1.cell 9).trans fi.ga.a9
  have OS : Hid (∀ i, i < N.st.length → w.cell? ⟨q0, i, none⟩ = some (ifA N A i)) := Lib.hid (fun i hi => own_cell o0 _ _ (by simp [hi]))
  clear h ko vo fi o0 hop hdb v7 ve
  go_enter Tryz.func72, Tryz.ntmps72
  go_upto_region 2 with (first | (go_at_call 106; refine (gVer _ _ _ hob).mono ?_; rintro e w' ⟨rfl, rfl⟩))
  go_loopw [34] (fun t34 wq => ∃ i : Nat, t34 = .int .i64 i ∧ i ≤ N.st.length ∧ wq = w) (fun t34 _ => N.st.length - (intOf t34).toNat)
  case atStart => exact ⟨0, rfl, Nat.zero_le _, rfl⟩
  case round =>
    obtain ⟨p, rfl, hp, rfl⟩ := hrel
    by_cases hpl : p < N.st.length
    · have hpl' : (p : Int) < (N.st.length : Int) := by omega
      have cs := OS.out p hpl
      unfold ifA at cs
      obtain ⟨va, vc, h6⟩ := FI.out.row D.out hpl
      have hlo : (N.out p).length ≤ 1000 := Nat.le_trans (out_le p) hfew
      have B := (D.out.bl _ _ (FI.out.ga.st p hpl)).1
      have c6 : wr.cell? ⟨A p, 6, none⟩ = some (.slice va (N.out p).length vc) := (B.cell 6).trans h6
      have c2 : wr.cell? ⟨A p, 2, none⟩ = some (.bool (epv N N.ed.length p)) := (B.cell 2).trans (FI.out.eps p hpl)
      have dT := fun a w => dTrs (kTy_mem (N.kind p)) a w
      have dE := fun a w => dEps (kTy_mem (N.kind p)) a w
      obtain ⟨k1, k12⟩ := KO.out.kd p hpl
      have HB := Lib.hid B
      have H6 := Lib.hid h6
      clear B h6
      generalize hTT : kTy (N.kind p) = TT at *
      go_upto_region 5 with fail
      by_cases h1 : N.kind p = 1
      · have eT : TT = 330 := by rw [← hTT, h1]; rfl
        subst eT
        have s1 := fun a w => ta330_295 a w
        have s2 := fun a w => ta330_173 a w
        have s3 := fun a w => ta330_301 a w
        have s4 := fun a w => ta330_253 a w
        have s5 := fun a w => ta330_268 a w
        have s6 := fun a w => ta330_257 a w
        have s7 := fun a w => ta330_264 a w
        have s8 := fun a w => ta330_119 a w
        have s9 := fun a w => ta330_269 a w
        have hl1 := VO.out.on p hpl h1
        have hl1' : ((N.out p).length : Int) ≤ 1 := by omega
        clear HB H6
        cases hev : epv N N.ed.length p
        · as_aux_lemma =>
          rw [hev] at c2
          go_wp2_with (first | (go_at_call 274; refine (gEps _ _ _ c2).mono ?_; rintro e w' ⟨rfl, rfl⟩) | (go_at_call 104; refine (gTrs _ _ _ c6).mono ?_; rintro e w' ⟨rfl, rfl⟩) | (go_at_call 107; refine (chk_any _ _ _).mono ?_; rintro e w' ⟨rfl, rfl⟩))
          go_roundw
          case measure => simp [intOf]; omega
          case rel =>
            (repeat apply Exists.intro)
            exact ⟨⟨p + 1, by simp, by omega, rfl⟩, rfl⟩
        · as_aux_lemma =>
          rw [hev] at c2
          go_wp2_with (first | (go_at_call 274; refine (gEps _ _ _ c2).mono ?_; rintro e w' ⟨rfl, rfl⟩) | (go_at_call 104; refine (gTrs _ _ _ c6).mono ?_; rintro e w' ⟨rfl, rfl⟩) | (go_at_call 107; refine (chk_any _ _ _).mono ?_; rintro e w' ⟨rfl, rfl⟩))
          go_roundw
          case measure => simp [intOf]; omega
          case rel =>
            (repeat apply Exists.intro)
            exact ⟨⟨p + 1, by simp, by omega, rfl⟩, rfl⟩
      by_cases h7 : N.kind p = 7
      · as_aux_lemma =>
        have eT : TT = 269 := by rw [← hTT, h7]; rfl
        subst eT
        have s1 := fun a w => ta269_295 a w
        have s2 := fun a w => ta269_173 a w
        have s3 := fun a w => ta269_301 a w
        have s4 := fun a w => ta269_253 a w
        have s5 := fun a w => ta269_268 a w
        have s6 := fun a w => ta269_257 a w
        have s7 := fun a w => ta269_264 a w
        have s8 := fun a w => ta269_119 a w
        have s9 := fun a w => ta269_269 a w
        have ho := V7.out p hpl h7
        have hl0 : (N.out p).length = 0 := by rw [ho]; rfl
        have hev : epv N N.ed.length p = false := by
          rw [out_map] at ho
          unfold epv
          rw [List.map_eq_nil_iff.1 ho]; rfl
        rw [hev] at c2
        rw [hl0] at c6
        clear HB H6
        go_wp2_with (first | (go_at_call 274; refine (gEps _ _ _ c2).mono ?_; rintro e w' ⟨rfl, rfl⟩) | (go_at_call 104; refine (gTrs _ _ _ c6).mono ?_; rintro e w' ⟨rfl, rfl⟩) | (go_at_call 107; refine (chk_any _ _ _).mono ?_; rintro e w' ⟨rfl, rfl⟩))
        go_roundw
        case measure => simp [intOf]; omega
        case rel =>
          (repeat apply Exists.intro)
          exact ⟨⟨p + 1, by simp, by omega, rfl⟩, rfl⟩
      have hev : epv N N.ed.length p = true := epv_all (VE.out p hpl h1) (VO.out.v9 p hpl h7)
      rw [hev] at c2
      go_upto_region 6 with (first | (go_at_call 274; refine (gEps _ _ _ c2).mono ?_; rintro e w' ⟨rfl, rfl⟩) | (go_at_call 104; refine (gTrs _ _ _ c6).mono ?_; rintro e w' ⟨rfl, rfl⟩) | (go_at_call 107; refine (chk_any _ _ _).mono ?_; rintro e w' ⟨rfl, rfl⟩))
      clear c2 dE
      by_cases hk : N.kind p = 4
      · as_aux_lemma =>
        have eT : TT = 295 := by rw [← hTT, hk]; rfl
        subst eT
        have s0 := fun a w => ta295_295 a w
        obtain ⟨T1, u1, hu⟩ := FI.out.e4 p hpl hk
        have cX : wr.cell? ⟨A p, 10, none⟩ = some (.iface T1 (.pointer (some u1))) := (HB.out.cell 10).trans hu
        clear hu HB H6
        go_wp2_with (first | (go_at_call 104; refine (gTrs _ _ _ c6).mono ?_; rintro e w' ⟨rfl, rfl⟩) | (go_at_call 107; refine (chk_any _ _ _).mono ?_; rintro e w' ⟨rfl, rfl⟩))
        go_roundw
        case measure => simp [intOf]; omega
        case rel =>
          (repeat apply Exists.intro)
          exact ⟨⟨p + 1, by simp, by omega, rfl⟩, rfl⟩
      · have h4 := hk
        have s295 := fun a w => taNo295 (T := TT) (by rw [← hTT]; exact kTy_mem _) (by rw [← hTT]; exact kTy_no k1 k12 (x := 4) (by omega) (by omega) hk rfl) a w
        go_upto_region 13 with fail
        clear s295
        by_cases hk : N.kind p = 10
        · as_aux_lemma =>
          have eT : TT = 173 := by rw [← hTT, hk]; rfl
          subst eT
          have s0 := fun a w => ta173_173 a w
          obtain ⟨T1, u1, hu⟩ := FI.out.e10 p hpl hk
          have c9l : wr.cell? ⟨A p, 9, none⟩ = some (.iface T1 (.pointer (some u1))) := (HB.out.cell 9).trans hu
          clear hu
          obtain ⟨e1, e2, ho, hk1, hk2⟩ := VO.out.se p hpl hk
          have hl2 : (N.out p).length = 2 := by rw [ho]; rfl
          have c8 : wr.cell? ⟨A p, 8, none⟩ = some (.bool false) := (HB.out.cell 8).trans (FI.out.cs.c8 p hpl (.inl (by rw [hk]; decide)))
          obtain ⟨gq, cq, tb, x, e, hcq, hx, ct, ctt⟩ := FI.out.edge D.out hpl H6.out (j := 0) (by omega)
          obtain ⟨gq', cq', tb', y, e', hcq', hy, ct', ctt'⟩ := FI.out.edge D.out hpl H6.out (j := 1) (by omega)
          simp only [Value.slice.injEq, true_and] at e e'
          obtain ⟨rfl, rfl⟩ := e
          obtain ⟨e3, rfl⟩ := e'
          simp only [Option.some.injEq, Addr.mk.injEq, and_true] at e3
          subst e3
          rw [ho] at hx hy
          simp at hx hy
          subst hx hy
          unfold ifA at ctt ctt'
          have f1 : kTy (N.kind e1.dst) = 309 := by rw [hk1]; rfl
          have f2 : kTy (N.kind e2.dst) = 253 := by rw [hk2]; rfl
          rw [f1] at ctt
          rw [f2] at ctt'
          have g1 := fun a w => ta309_309 a w
          have g2 := fun a w => ta253_253 a w
          have d1 := fun a w => dTgt (trTy_mem e1.kind) a w
          have d2 := fun a w => dTgt (trTy_mem e2.kind) a w
          rw [hl2] at c6
          clear hlo HB H6
          generalize trTy e1.kind = TT1 at *
          generalize trTy e2.kind = TT2 at *
          go_wp2_with (first | (go_at_call 104; refine (gTrs _ _ _ c6).mono ?_; rintro e w' ⟨rfl, rfl⟩) | (go_at_call 107; refine (chk_any _ _ _).mono ?_; rintro e w' ⟨rfl, rfl⟩) | (go_at_call 101; refine (gTgt _ _ _ ctt).mono ?_; rintro e w' ⟨rfl, rfl⟩) | (go_at_call 101; refine (gTgt _ _ _ ctt').mono ?_; rintro e w' ⟨rfl, rfl⟩))
          go_roundw
          case measure => simp [intOf]; omega
          case rel =>
            (repeat apply Exists.intro)
            exact ⟨⟨p + 1, by simp, by omega, rfl⟩, rfl⟩
        · have h10 := hk
          have s173 := fun a w => taNo173 (T := TT) (by rw [← hTT]; exact kTy_mem _) (by rw [← hTT]; exact kTy_no k1 k12 (x := 10) (by omega) (by omega) hk rfl) a w
          go_upto_region 27 with fail
          clear s173
          by_cases hk : N.kind p = 9
          · as_aux_lemma =>
            have eT : TT = 301 := by rw [← hTT, hk]; rfl
            subst eT
            have s0 := fun a w => ta301_301 a w
            obtain ⟨e1, ho, hk1⟩ := VO.out.bk p hpl hk
            have hl2 : (N.out p).length = 1 := by rw [ho]; rfl
            obtain ⟨gq, cq, tb, x, e, hcq, hx, ct, ctt⟩ := FI.out.edge D.out hpl H6.out (j := 0) (by omega)
            simp only [Value.slice.injEq, true_and] at e
            obtain ⟨rfl, rfl⟩ := e
            rw [ho] at hx
            simp at hx
            subst hx
            unfold ifA at ctt
            have f1 : kTy (N.kind e1.dst) = 173 := by rw [hk1]; rfl
            rw [f1] at ctt
            have g1 := fun a w => ta173_173 a w
            have d1 := fun a w => dTgt (trTy_mem e1.kind) a w
            rw [hl2] at c6
            clear hlo HB H6
            generalize trTy e1.kind = TT1 at *
            go_wp2_with (first | (go_at_call 104; refine (gTrs _ _ _ c6).mono ?_; rintro e w' ⟨rfl, rfl⟩) | (go_at_call 107; refine (chk_any _ _ _).mono ?_; rintro e w' ⟨rfl, rfl⟩) | (go_at_call 101; refine (gTgt _ _ _ ctt).mono ?_; rintro e w' ⟨rfl, rfl⟩))
            go_roundw
            case measure => simp [intOf]; omega
            case rel =>
              (repeat apply Exists.intro)
              exact ⟨⟨p + 1, by simp, by omega, rfl⟩, rfl⟩
          · have h9 := hk
            have s301 := fun a w => taNo301 (T := TT) (by rw [← hTT]; exact kTy_mem _) (by rw [← hTT]; exact kTy_no k1 k12 (x := 9) (by omega) (by omega) hk rfl) a w
            go_upto_region 32 with fail
            clear s301
            by_cases hk : N.kind p = 12
            · as_aux_lemma =>
              have eT : TT = 253 := by rw [← hTT, hk]; rfl
              subst eT
              have s0 := fun a w => ta253_253 a w
              obtain ⟨T1, u1, hu⟩ : ∃ T1 u1, (f p)[7]? = some (.iface T1 (.pointer (some u1))) := ⟨_, _, FI.out.cs.le7 p hpl hk⟩
              have cX : wr.cell? ⟨A p, 7, none⟩ = some (.iface T1 (.pointer (some u1))) := (HB.out.cell 7).trans hu
              clear hu HB H6
              go_wp2_with (first | (go_at_call 104; refine (gTrs _ _ _ c6).mono ?_; rintro e w' ⟨rfl, rfl⟩) | (go_at_call 107; refine (chk_any _ _ _).mono ?_; rintro e w' ⟨rfl, rfl⟩))
              go_roundw
              case measure => simp [intOf]; omega
              case rel =>
                (repeat apply Exists.intro)
                exact ⟨⟨p + 1, by simp, by omega, rfl⟩, rfl⟩
            · have h12 := hk
              have s253 := fun a w => taNo253 (T := TT) (by rw [← hTT]; exact kTy_mem _) (by rw [← hTT]; exact kTy_no k1 k12 (x := 12) (by omega) (by omega) hk rfl) a w
              go_upto_region 35 with fail
              clear s253
              by_cases hk : N.kind p = 2
              · as_aux_lemma =>
                have eT : TT = 268 := by rw [← hTT, hk]; rfl
                subst eT
                have s0 := fun a w => ta268_268 a w
                obtain ⟨T1, u1, hu⟩ := FI.out.e2 p hpl hk
                have cX : wr.cell? ⟨A p, 7, none⟩ = some (.iface T1 (.pointer (some u1))) := (HB.out.cell 7).trans hu
                clear hu HB H6
                go_wp2_with (first | (go_at_call 104; refine (gTrs _ _ _ c6).mono ?_; rintro e w' ⟨rfl, rfl⟩) | (go_at_call 107; refine (chk_any _ _ _).mono ?_; rintro e w' ⟨rfl, rfl⟩))
                go_roundw
                case measure => simp [intOf]; omega
                case rel =>
                  (repeat apply Exists.intro)
                  exact ⟨⟨p + 1, by simp, by omega, rfl⟩, rfl⟩
              · have h2 := hk
                have s268 := fun a w => taNo268 (T := TT) (by rw [← hTT]; exact kTy_mem _) (by rw [← hTT]; exact kTy_no k1 k12 (x := 2) (by omega) (by omega) hk rfl) a w
                go_upto_region 38 with fail
                clear s268
                by_cases hB : isB N p = true
                · as_aux_lemma =>
                  have hT : TT ∈ blTypes := by rw [← hTT]; exact isB_ty hB
                  have s0 := fun a w => taB3 hT a w
                  have dG := fun a w => dGetEnd hT a w
                  have c9e : wr.cell? ⟨A p, 9, none⟩ = some (.pointer (some ⟨A (lsA N p).arg, 0, none⟩)) := (HB.out.cell 9).trans (FI.out.cs.b9 p hpl hB)
                  clear HB H6
                  go_wp2_with (first | (go_at_call 104; refine (gTrs _ _ _ c6).mono ?_; rintro e w' ⟨rfl, rfl⟩) | (go_at_call 107; refine (chk_any _ _ _).mono ?_; rintro e w' ⟨rfl, rfl⟩) | (go_at_call 305; refine (gEnd _ _ _ c9e).mono ?_; rintro e w' ⟨rfl, rfl⟩))
                  go_roundw
                  case measure => simp [intOf]; omega
                  case rel =>
                    (repeat apply Exists.intro)
                    exact ⟨⟨p + 1, by simp, by omega, rfl⟩, rfl⟩
                · have hB' : isB N p = false := by simpa using hB
                  have h35 : N.kind p ≠ 3 ∧ N.kind p ≠ 5 := by unfold isB at hB'; simp at hB'; omega
                  have s257 := fun a w => taB0 (T := TT) (by rw [← hTT]; exact noB_ty k1 k12 hB') a w
                  go_upto_region 41 with fail
                  clear s257
                  by_cases hk : N.kind p = 8
                  · as_aux_lemma =>
                    have eT : TT = 264 := by rw [← hTT, hk]; rfl
                    subst eT
                    have s0 := fun a w => ta264_264 a w
                    obtain ⟨T1, u1, hu⟩ := FI.out.e8 p hpl hk
                    have cX : wr.cell? ⟨A p, 7, none⟩ = some (.iface T1 (.pointer (some u1))) := (HB.out.cell 7).trans hu
                    clear hu HB H6
                    go_wp2_with (first | (go_at_call 104; refine (gTrs _ _ _ c6).mono ?_; rintro e w' ⟨rfl, rfl⟩) | (go_at_call 107; refine (chk_any _ _ _).mono ?_; rintro e w' ⟨rfl, rfl⟩))
                    go_roundw
                    case measure => simp [intOf]; omega
                    case rel =>
                      (repeat apply Exists.intro)
                      exact ⟨⟨p + 1, by simp, by omega, rfl⟩, rfl⟩
                  · have h8 := hk
                    have s264 := fun a w => taNo264 (T := TT) (by rw [← hTT]; exact kTy_mem _) (by rw [← hTT]; exact kTy_no k1 k12 (x := 8) (by omega) (by omega) hk rfl) a w
                    go_upto_region 44 with fail
                    clear s264
                    by_cases hk : N.kind p = 6
                    · have eT : TT = 232 := by rw [← hTT, hk]; rfl
                      subst eT
                      have s0 := fun a w => ta232_119 a w
                      obtain ⟨dv, hdv⟩ := FI.out.d7 p hpl (by rw [hk]; decide)
                      have c7 : wr.cell? ⟨A p, 7, none⟩ = some (.int .i64 dv) := (HB.out.cell 7).trans hdv
                      clear hdv HB H6
                      have dD := fun a w => dGetDec (show (232 : TypeId) ∈ dcTypes by decide) a w
                      by_cases hl : ((N.out p).length : Int) ≤ 1
                      · as_aux_lemma =>
                        go_wp2_with (first | (go_at_call 104; refine (gTrs _ _ _ c6).mono ?_; rintro e w' ⟨rfl, rfl⟩) | (go_at_call 107; refine (chk_any _ _ _).mono ?_; rintro e w' ⟨rfl, rfl⟩) | (go_at_call 285; refine (gDec _ _ _ c7).mono ?_; rintro e w' ⟨rfl, rfl⟩))
                        go_roundw
                        case measure => simp [intOf]; omega
                        case rel =>
                          (repeat apply Exists.intro)
                          exact ⟨⟨p + 1, by simp, by omega, rfl⟩, rfl⟩
                      · as_aux_lemma =>
                        go_wp2_with (first | (go_at_call 104; refine (gTrs _ _ _ c6).mono ?_; rintro e w' ⟨rfl, rfl⟩) | (go_at_call 107; refine (chk_any _ _ _).mono ?_; rintro e w' ⟨rfl, rfl⟩) | (go_at_call 285; refine (gDec _ _ _ c7).mono ?_; rintro e w' ⟨rfl, rfl⟩))
                        go_roundw
                        case measure => simp [intOf]; omega
                        case rel =>
                          (repeat apply Exists.intro)
                          exact ⟨⟨p + 1, by simp, by omega, rfl⟩, rfl⟩
                    · have h6 := hk
                      by_cases hk : N.kind p = 11
                      · have eT : TT = 291 := by rw [← hTT, hk]; rfl
                        subst eT
                        have s0 := fun a w => ta291_119 a w
                        obtain ⟨dv, hdv⟩ := FI.out.d7 p hpl (by rw [hk]; decide)
                        have c7 : wr.cell? ⟨A p, 7, none⟩ = some (.int .i64 dv) := (HB.out.cell 7).trans hdv
                        clear hdv HB H6
                        have dD := fun a w => dGetDec (show (291 : TypeId) ∈ dcTypes by decide) a w
                        by_cases hl : ((N.out p).length : Int) ≤ 1
                        · as_aux_lemma =>
                          go_wp2_with (first | (go_at_call 104; refine (gTrs _ _ _ c6).mono ?_; rintro e w' ⟨rfl, rfl⟩) | (go_at_call 107; refine (chk_any _ _ _).mono ?_; rintro e w' ⟨rfl, rfl⟩) | (go_at_call 285; refine (gDec _ _ _ c7).mono ?_; rintro e w' ⟨rfl, rfl⟩))
                          go_roundw
                          case measure => simp [intOf]; omega
                          case rel =>
                            (repeat apply Exists.intro)
                            exact ⟨⟨p + 1, by simp, by omega, rfl⟩, rfl⟩
                        · as_aux_lemma =>
                          go_wp2_with (first | (go_at_call 104; refine (gTrs _ _ _ c6).mono ?_; rintro e w' ⟨rfl, rfl⟩) | (go_at_call 107; refine (chk_any _ _ _).mono ?_; rintro e w' ⟨rfl, rfl⟩) | (go_at_call 285; refine (gDec _ _ _ c7).mono ?_; rintro e w' ⟨rfl, rfl⟩))
                          go_roundw
                          case measure => simp [intOf]; omega
                          case rel =>
                            (repeat apply Exists.intro)
                            exact ⟨⟨p + 1, by simp, by omega, rfl⟩, rfl⟩
                      · have h11 := hk
                        omega
    · have hpl' : ¬ (p : Int) < (N.st.length : Int) := by omega
      go_wp2_with fail
      go_end0
      exact ⟨rfl, rfl⟩
end Go.Proofs
end
