/- A part of the proof of the statement on the law FnStates, which the last text proves: part G14. -/
import Derived.Test.YtlceacefhnllbaaGreatDoorG13
set_option linter.all false
section
namespace Go.Proofs
open Go.RowKit
open Pl
theorem info103 : (Tryz.prog.info? 103).map (fun i => (i.zero, i.size, i.bytes)) = some (some (.agg #[.int .i64 0, .int .i64 0, .slice none 0 0, .bool false, .bool false, .int .i64 0]), 6, 56) := by kernel_rfl
theorem info73 : (Tryz.prog.info? 73).map (fun i => (i.zero, i.size, i.bytes)) = some (some (.agg #[.int .i64 0, .int .i64 0, .slice none 0 0, .slice none 0 0]), 4, 64) := by kernel_rfl

theorem metRow_all {B : Nat} {w : World} {sl : Value} {ds : List DS} {j : Nat} (hj : ds.length ≤ j) (h : MetRow B w sl (ds.take j)) : MetRow B w sl ds := by rwa [List.take_of_length_le hj] at h

/-- Where the outer loop stands. -/
def LpM1 (B0 : Nat) (w : World) (N : Bd) (v : AV) (f : Nat) (g : GS) (dsl : Value) (nd : Nat) (bs : List Nat) (t2 t13 : Value) (wr : World) : Prop :=
  ∃ i : Nat, t13 = .int .i64 i ∧ i ≤ nd ∧ WL B0 w.heap.size w N v f g dsl nd bs wr ∧ ((i = 0 ∧ t2 = .slice none 0 0) ∨ (0 < i ∧ MetRow w.heap.size wr t2 g.asked))
/-- Where the loop over the states stands. -/
def LpM2 (B0 : Nat) (w : World) (N : Bd) (v : AV) (f : Nat) (g : GS) (dsl : Value) (nd : Nat) (bs : List Nat) (t2 t23 : Value) (wr : World) : Prop :=
  ∃ j : Nat, t23 = .int .i64 j ∧ j ≤ g.asked.length ∧ WL B0 w.heap.size w N v f g dsl nd bs wr ∧ MetRow w.heap.size wr t2 (g.asked.take j)

set_option maxRecDepth 100000 in
set_option maxHeartbeats 4000000 in
theorem met_any {B0 : Nat} {w : World} {N : Bd} {v : AV} {f : Nat} {g : GS} {dr cap nd : Nat} {bs : List Nat} (h : WL B0 w.heap.size w N v f g (.slice (some ⟨dr, 0, none⟩) nd cap) nd bs w) (hbl : bs.length = nd) (hd0 : bs[0]? = some g.dfa) (nf : NetF N f) (hpos : 0 < nd) (hnd : nd ≤ 1000000) (h1 : 1 ≤ g.asked.length) (h2 : g.asked.length ≤ 10000) :
    Calls Tryz.prog 28 #[.slice (some ⟨dr, 0, none⟩) nd cap] w fun e w' => ∃ sl, e = .returned sl ∧ MetRow w.heap.size w' sl g.asked ∧ Kp (fun k => k < B0) w w' := by
  have H := Lib.hid h
  have NF := Lib.hid nf
  clear h nf
  go_enter Tryz.func28, Tryz.ntmps28
  go_wp2_with fail
  go_loopw [2, 13] (fun t2 t13 wr => LpM1 B0 w N v f g (.slice (some ⟨dr, 0, none⟩) nd cap) nd bs t2 t13 wr) (fun _ t13 _ => nd - (intOf t13).toNat)
  case atStart => exact ⟨0, rfl, Nat.zero_le _, H.out, .inl ⟨rfl, rfl⟩⟩
  case round =>
    obtain ⟨i, rfl, hi, hwl, hr⟩ := hrel
    have W1 := Lib.hid hwl
    have R1 := Lib.hid hr
    clear hwl hr
    by_cases hin : i < nd
    · have hin' : (i : Int) < (nd : Int) := by omega
      obtain ⟨lx, hS, row, oth, kB⟩ := W1.out.lx
      obtain ⟨bi, hbi⟩ : ∃ b, bs[i]? = some b := ⟨bs[i]'(by omega), by simp⟩
      have cb : wr.cell? ⟨dr, i, none⟩ = some (.pointer (some ⟨bi, 0, none⟩)) := own_cell row i _ (by simp [ptrs, hbi])
      by_cases hi0 : i = 0
      · subst hi0
        have e0 : bi = g.dfa := by rw [hd0] at hbi; exact (Option.some.inj hbi).symm
        subst e0
        obtain ⟨ga, ca, ha1, ha2⟩ := own_form lx.ask (by omega)
        have hask := lx.ask
        have cd : wr.cell? ⟨g.dfa, 0, none⟩ = some g.ask := lx.dfa.cell 0
        rw [ha1] at cd hask
        have LX1 := Lib.hid lx
        have AS := Lib.hid hask
        have e2 : u2 = .slice none 0 0 := R1.out.elim (fun h => h.2) (fun h => absurd h.1 (by omega))
        subst e2
        clear lx row oth hask kB R1
        go_wp2_with fail
        go_loopw [2, 23] (fun t2 t23 wr => LpM2 B0 w N v f g (.slice (some ⟨dr, 0, none⟩) nd cap) nd bs t2 t23 wr) (fun _ t23 _ => g.asked.length - (intOf t23).toNat)
        case atStart => exact ⟨0, rfl, Nat.zero_le _, W1.out, MetRow.nil _ _⟩
        case round =>
          obtain ⟨j, rfl, hj, hwl2, hm2⟩ := hrel
          have W2 := Lib.hid hwl2
          have R2 := Lib.hid hm2
          clear hwl2 hm2
          by_cases hjn : j < g.asked.length
          · have hjn' : (j : Int) < (g.asked.length : Int) := by omega
            obtain ⟨lx2, hS2, row2, oth2, kB2⟩ := W2.out.lx
            obtain ⟨d, hd⟩ : ∃ d, g.asked[j]? = some d := ⟨g.asked[j]'hjn, by simp⟩
            have hask2 := lx2.ask
            rw [ha1] at hask2
            have cj := own_cell hask2 j d.ptr (by simp [hd])
            have hty := lx2.askd d (List.mem_of_getElem? hd)
            unfold DS.ptr at cj
            have HD := Lib.hid hd
            have HT := Lib.hid hty
            clear lx2 row2 oth2 kB2 hask2 hd hty
            go_upto_region 8 with (first | (go_at_call 41; refine (hash_wl W2.out d HT.out).mono ?_; rintro e wh ⟨rfl, whl, khl, hsz⟩; have WH := Lib.hid whl; have KH := Lib.hid khl; clear whl khl))
            obtain ⟨mb, hmb⟩ : ∃ m, m = wr.heap.size := ⟨_, rfl⟩
            have hSm : w.heap.size ≤ mb := by rw [hmb]; exact hS2
            rw [← hmb] at hsz ⊢
            have HMB := Lib.hid hmb
            clear hmb
            obtain ⟨lxh, hSh, _, _, _⟩ := WH.out.lx
            obtain ⟨_, _, sn, ed, ac, pr, ch, lk, ro, _, D⟩ := lxh.dst HT.out
            have fz := lxh.frz d.b d HT.out
            have hne1 : d.L.length ≠ 0 := fun e => fz.ne (List.eq_nil_of_length_eq_zero e)
            have hne2 : (ddC d.L).length ≠ 0 := fun e => ddC_ne fz.ne (List.eq_nil_of_length_eq_zero e)
            have hlq : d.L.length ≤ 1600000000000 := by have := met_len NF.out fz.met; have := fz.keys.len; omega
            have hlc : (ddC d.L).length ≤ 1600000000000 := Nat.le_trans (ddC_len _) hlq
            obtain ⟨gc, cc, hc1, hc2⟩ := own_form fz.cfg hne2
            obtain ⟨gq, cq, hq1, hq2⟩ := own_form fz.ask hne1
            have cfgh := fz.cfg
            rw [hc1] at cfgh
            have km : Kp (fun _ => True) wh (wh.alloc (.cells #[.int .i64 0, .int .i64 (dfaHashL (ddC d.L)), .slice none 0 0, .slice none 0 0] 73)) := Kp.alloc _ _
            have bm : Blk (wh.alloc (.cells #[.int .i64 0, .int .i64 (dfaHashL (ddC d.L)), .slice none 0 0, .slice none 0 0] 73)) mb 73 #[.int .i64 0, .int .i64 (dfaHashL (ddC d.L)), .slice none 0 0, .slice none 0 0] := by rw [← hsz]; exact Blk.new _ _ _
            generalize wh.alloc (.cells #[.int .i64 0, .int .i64 (dfaHashL (ddC d.L)), .slice none 0 0, .slice none 0 0] 73) = wm at km bm ⊢
            have c1m : wm.cell? ⟨d.b, 1, none⟩ = some (.pointer (some ⟨d.cb, 0, none⟩)) := (World.cell?_of_block (km.blk _ D.blk.lt trivial)).trans (D.blk.cell 1)
            have c3m : wm.cell? ⟨d.cb, 3, none⟩ = some (.slice (some ⟨gc, 0, none⟩) (ddC d.L).length cc) := by
              refine (World.cell?_of_block (km.blk _ D.set.lt trivial)).trans ((D.set.cell 3).trans ?_)
              rw [hc1]; rfl
            have KM := Lib.hid km
            have BM := Lib.hid bm
            have FZ := Lib.hid fz
            have CFG := Lib.hid cfgh
            have DD := Lib.hid D
            clear km bm fz cfgh lxh D
            go_wp2_with fail
            go_loopw [39] (fun t39 wx => LpM3 wh mb mb (dfaHashL (ddC d.L)) (ddC d.L) (fun c => #[.int .i64 0, .int .i64 (dfaHashL (ddC d.L)), c, .slice none 0 0]) t39 wx) (fun t39 _ => (ddC d.L).length - (intOf t39).toNat)
            case atStart => exact ⟨0, .slice none 0 0, rfl, Nat.zero_le _, BM.out, CfgRow.nil _ _, KM.out.weak (fun _ _ => trivial)⟩
            case round =>
              obtain ⟨k, c, rfl, hk, bmk, row, kx0⟩ := hrel
              have kx : Kp (fun _ => True) wh wr := ⟨⟨kx0.so.os, kx0.so.out⟩, kx0.size, fun j hj _ => kx0.blk j hj (by omega)⟩
              by_cases hkn : k < (ddC d.L).length
              · have hkn' : (k : Int) < ((ddC d.L).length : Int) := by omega
                obtain ⟨x, hx⟩ : ∃ x, (ddC d.L)[k]? = some x := ⟨(ddC d.L)[k]'hkn, by simp⟩
                have cx : wr.cell? ⟨gc, k, none⟩ = some (.pointer (some ⟨x.b, 0, none⟩)) := by
                  have := own_cell CFG.out k (.pointer (some ⟨x.b, 0, none⟩)) (by simp [ptrC, hx])
                  exact (World.cell?_of_block (kx.blk gc (cell_lt this) trivial)).trans this
                have CFO : Hid (CfO wr x.b 0 x.T x.s x.n x.alt x.c x.p) := Lib.hid ((FZ.out.cfo (List.mem_of_getElem? hx)).kept kx)
                obtain ⟨vs, v1, v2, v3⟩ := row
                have hlen : ((ddC d.L).take k).length = k := by simp; omega
                have c2 : wr.cell? ⟨mb, 2, none⟩ = some c := bmk.cell 2
                have f2 := bmk.free 2
                have lmb := bmk.lt
                have BMK := Lib.hid bmk
                have V2 := Lib.hid v2
                have V3 := Lib.hid v3
                have KX := Lib.hid kx
                clear bmk v2 v3 kx kx0 c1m c3m
                obtain ⟨i6, hi6, hy0, hy1, hy2⟩ := info_parts info103
                go_upto_region 11 with fail
                go_region_law (first | (refine step_append_lies _ (by rfl) _ _ _ (by rfl) mb 103 i6 _ 6 56 Tryz.underlying71 hi6 hy0 hy1 hy2 rfl (by omega) c ((ddC d.L).take k).length (flatG ((ddC d.L).take k) vs) (by rfl) (O5.out.alloc _) ⟨w5.heap.size, 0, none⟩ 1 1 (cfgV x (.slice (some ⟨cg, 0, none⟩) 3 cc5)) (by rfl) (by rfl) (World.news_of_block (cs := #[.int .i64 x.n, .int .i64 x.alt, .slice (some ⟨cg, 0, none⟩) 3 cc5, .bool false, .bool false, .int .i64 (lhI x.n x.alt)]) (t := 103) (fr := (0, 0)) (heap_alloc_new w5 _)) (by simp [Value.oneCell', cfgV]) (by omega) (by simp [maxLen]; omega) (by omega) (by simp; omega) (w5.heap.size + 1) (by simp) ?_; intro gg cap1 w1 hown1 hgrow hat hlt; have ST := Lib.hid (CfgRow.step v1 V2.out V3.out K5.out (Nat.le_of_lt lmb : mb ≤ wr.drew.heap.size) HX.out _ gg cap1 hown1 hgrow); have B1 := BMK.out.kept (ST.out.2.2 mb _ 73 BMK.out (by decide)); have c21 := B1.cell 2; have f21 := B1.free 2; have l21 := B1.lt; have HB1 := Lib.hid B1; have HG : Hid (w5.heap.size ≤ w1.heap.size) := Lib.hid (Nat.le_trans (by simp) hgrow.size); clear hown1 hgrow hat hlt B1) | (go_simp; go_at_call 42; refine (zcfg_any _ _ _ _ _ _ _ _ _ (CFO.out.kept (Kp.drew wr))).mono ?_; rintro e w5 ⟨cv, rfl, hcx, kp5⟩; obtain ⟨cg, cc5, rfl, _⟩ := own_form hcx (by omega); have K5 : Hid (Kp (fun _ => True) wr w5) := Lib.hid ((Kp.drew wr).trans kp5); have B5 := BMK.out.kept (K5.out.blk _ BMK.out.lt trivial); have c25 : w5.cell? ⟨mb, 2, none⟩ = some c := B5.cell 2; have f25 := B5.free 2; have l5 : mb < w5.heap.size := B5.lt; have O5 : Hid (w5.ownsRow mb 103 6 c ((ddC d.L).take k).length (flatG ((ddC d.L).take k) vs)) := Lib.hid (own_kept' V2.out (fun k hk => K5.out.blk k (own_blk V2.out hk).2.1 trivial)); have HX := Lib.hid hcx; clear hcx kp5 B5))
                all_goals go_wp2_with fail
                all_goals exact LpM3.step hx (by omega) (KX.out.weak (fun _ _ => trivial)) ST.out HB1.out (fun u => by simp) (Nat.le_trans K5.out.size HG.out)
              · have hkn' : ¬ (k : Int) < ((ddC d.L).length : Int) := by omega
                have hke : k = (ddC d.L).length := by omega
                subst hke
                rw [List.take_of_length_le (Nat.le_refl _)] at row
                have c1m : wr.cell? ⟨d.b, 1, none⟩ = some (.pointer (some ⟨d.cb, 0, none⟩)) := (World.cell?_of_block (kx.blk _ DD.out.blk.lt trivial)).trans (DD.out.blk.cell 1)
                have c0m : wr.cell? ⟨d.cb, 0, none⟩ = some (.slice (some ⟨gq, 0, none⟩) d.L.length cq) := by
                  refine (World.cell?_of_block (kx.blk _ DD.out.set.lt trivial)).trans ((DD.out.set.cell 0).trans ?_)
                  rw [hq1]; rfl
                have ROW := Lib.hid row
                have BMK := Lib.hid bmk
                have KX := Lib.hid kx
                have hmbl := bmk.lt
                clear row bmk kx kx0
                obtain ⟨w4, rfl⟩ : ∃ w4, w4 = wr := ⟨_, rfl⟩
                go_wp2_with fail
                go_loopw [59] (fun t59 wx => LpM3 w4 mb w4.heap.size (dfaHashL (ddC d.L)) d.L (fun a => #[.int .i64 0, .int .i64 (dfaHashL (ddC d.L)), c, a]) t59 wx) (fun t59 _ => d.L.length - (intOf t59).toNat)
                case atStart => exact ⟨0, .slice none 0 0, rfl, Nat.zero_le _, BMK.out, CfgRow.nil _ _, Kp.rfl'⟩
                case round =>
                  obtain ⟨k, a, rfl, hk, bmk, row, k4⟩ := hrel
                  have kx : Kp (fun _ => True) wh wr := ⟨SO.trans (KX.out.so) (k4.so), Nat.le_trans KX.out.size k4.size, fun j hj _ => (k4.blk j (Nat.lt_of_lt_of_le hj KX.out.size) (by omega)).trans (KX.out.blk j hj trivial)⟩
                  by_cases hkn : k < d.L.length
                  · have hkn' : (k : Int) < (d.L.length : Int) := by omega
                    obtain ⟨x, hx⟩ : ∃ x, d.L[k]? = some x := ⟨d.L[k]'hkn, by simp⟩
                    have c1w : wr.cell? ⟨d.b, 1, none⟩ = some (.pointer (some ⟨d.cb, 0, none⟩)) := (World.cell?_of_block (kx.blk _ DD.out.blk.lt trivial)).trans (DD.out.blk.cell 1)
                    have c0w : wr.cell? ⟨d.cb, 0, none⟩ = some (.slice (some ⟨gq, 0, none⟩) d.L.length cq) := by
                      refine (World.cell?_of_block (kx.blk _ DD.out.set.lt trivial)).trans ((DD.out.set.cell 0).trans ?_)
                      rw [hq1]; rfl
                    have CFO : Hid (CfO wr gq (k * 9) x.T x.s x.n x.alt x.c x.p) := Lib.hid ((FZ.out.cfa hq1 hx).kept kx)
                    obtain ⟨vs, v1, v2, v3⟩ := row
                    have hlen : (d.L.take k).length = k := by simp; omega
                    have c3 : wr.cell? ⟨mb, 3, none⟩ = some a := bmk.cell 3
                    have f3 := bmk.free 3
                    have lmb := bmk.lt
                    have lw4 : w4.heap.size ≤ wr.heap.size := k4.size
                    have BMK2 := Lib.hid bmk
                    have V2 := Lib.hid v2
                    have V3 := Lib.hid v3
                    have K4 := Lib.hid k4
                    clear bmk v2 v3 kx k4 c1m c0m
                    obtain ⟨i6, hi6, hy0, hy1, hy2⟩ := info_parts info103
                    go_upto_region 16 with fail
                    go_region_law (first | (refine step_append_lies _ (by rfl) _ _ _ (by rfl) w4.heap.size 103 i6 _ 6 56 Tryz.underlying71 hi6 hy0 hy1 hy2 rfl (by omega) a (d.L.take k).length (flatG (d.L.take k) vs) (by rfl) (O5.out.alloc _) ⟨w5.heap.size, 0, none⟩ 1 1 (cfgV x (.slice (some ⟨cg, 0, none⟩) 3 cc5)) (by rfl) (by rfl) (World.news_of_block (cs := #[.int .i64 x.n, .int .i64 x.alt, .slice (some ⟨cg, 0, none⟩) 3 cc5, .bool false, .bool false, .int .i64 (lhI x.n x.alt)]) (t := 103) (fr := (0, 0)) (heap_alloc_new w5 _)) (by simp [Value.oneCell', cfgV]) (by omega) (by simp [maxLen]; omega) (by omega) (by simp; omega) (w5.heap.size + 1) (by simp) ?_; intro gg cap1 w1 hown1 hgrow hat hlt; have ST := Lib.hid (CfgRow.step v1 V2.out V3.out K5.out (lw4 : w4.heap.size ≤ wr.drew.heap.size) HX.out _ gg cap1 hown1 hgrow); have B1 := BMK2.out.kept (ST.out.2.2 mb _ 73 BMK2.out (by decide)); have c21 := B1.cell 3; have f21 := B1.free 3; have l21 := B1.lt; have HB1 := Lib.hid B1; have HG : Hid (w5.heap.size ≤ w1.heap.size) := Lib.hid (Nat.le_trans (by simp) hgrow.size); clear hown1 hgrow hat hlt B1) | (go_simp; go_at_call 42; refine (zcfg_any _ _ _ _ _ _ _ _ _ (CFO.out.kept (Kp.drew wr))).mono ?_; rintro e w5 ⟨cv, rfl, hcx, kp5⟩; obtain ⟨cg, cc5, rfl, _⟩ := own_form hcx (by omega); have K5 : Hid (Kp (fun _ => True) wr w5) := Lib.hid ((Kp.drew wr).trans kp5); have B5 := BMK2.out.kept (K5.out.blk _ BMK2.out.lt trivial); have c35 : w5.cell? ⟨mb, 3, none⟩ = some a := B5.cell 3; have f35 := B5.free 3; have l5 : mb < w5.heap.size := B5.lt; have O5 : Hid (w5.ownsRow w4.heap.size 103 6 a (d.L.take k).length (flatG (d.L.take k) vs)) := Lib.hid (own_kept' V2.out (fun k hk => K5.out.blk k (own_blk V2.out hk).2.1 trivial)); have lw5 : wr.heap.size ≤ w5.heap.size := K5.out.size; have HX := Lib.hid hcx; clear hcx kp5 B5))
                    all_goals go_wp2_with fail
                    all_goals exact LpM3.step hx (Nat.le_refl _) K4.out ST.out HB1.out (fun u => by simp) (Nat.le_trans K5.out.size HG.out)
                  · have hkn' : ¬ (k : Int) < (d.L.length : Int) := by omega
                    have hke : k = d.L.length := by omega
                    subst hke
                    rw [List.take_of_length_le (Nat.le_refl _)] at row
                    have BMK2 := Lib.hid bmk
                    have ROW2 := Lib.hid row
                    have K4 := Lib.hid k4
                    have KX2 := Lib.hid kx
                    clear bmk row k4 kx c1m c0m
                    have RC : Hid (CfgRow w.heap.size wr c (ddC d.L)) := Lib.hid (ROW.out.at hSm K4.out BMK.out)
                    have RA : Hid (CfgRow w.heap.size wr a d.L) := Lib.hid (ROW2.out.kept (Nat.le_trans hSm (Nat.le_of_lt hmbl)) (fun _ _ _ _ _ _ => rfl))
                    obtain ⟨cg, cgc, hcg⟩ := RC.out.form hne2
                    obtain ⟨ag, agc, hag⟩ := RA.out.form hne1
                    subst hcg hag
                    have bc := BMK2.out.cell
                    have bl := BMK2.out.lt
                    obtain ⟨ps, p1, p2, p3⟩ := R2.out
                    have KWW : Hid (w.heap.size ≤ wr.heap.size) := Lib.hid (by omega)
                    have O1 : Hid (wr.ownsRow w.heap.size 73 4 u2 (g.asked.take j).length (flatM (g.asked.take j) ps)) := Lib.hid (own_kept' p2 (fun k hk => by
                      obtain ⟨l1, l2, _⟩ := own_blk p2 hk
                      exact (KX2.out.blk k (Nat.lt_of_lt_of_le l2 KH.out.size) trivial).trans (KH.out.blk k l2 l1)))
                    have hlj : (g.asked.take j).length = j := by simp; omega
                    have P2 := Lib.hid p2
                    have P3 := Lib.hid p3
                    clear p2 p3
                    obtain ⟨i7, hi7, hv0, hv1, hv2⟩ := info_parts info73
                    go_wp2_with (first | (at_builtin; refine wpList_append_lies _ rfl _ _ 64 rfl w.heap.size 73 i7 _ 4 64 Tryz.underlying64 hi7 hv0 hv1 hv2 rfl (by omega) u2 (g.asked.take j).length (flatM (g.asked.take j) ps) rfl (O1.out.alloc _) ⟨wr.heap.size, 0, none⟩ 1 1 (metV d (.slice (some ⟨cg, 0, none⟩) (ddC d.L).length cgc, .slice (some ⟨ag, 0, none⟩) d.L.length agc)) rfl rfl (World.news_of_block (cs := #[.int .i64 0, .int .i64 (dfaHashL (ddC d.L)), .slice (some ⟨cg, 0, none⟩) (ddC d.L).length cgc, .slice (some ⟨ag, 0, none⟩) d.L.length agc]) (t := 73) (fr := (0, 0)) (heap_alloc_new wr _)) (by simp [Value.oneCell', metV]) (by omega) (by simp [maxLen]; omega) (by omega) (by have := KWW.out; simp; omega) _ rfl ?_; intro gg cap1 w1 hown1 hgrow hat hlt; have ST := Lib.hid (MetRow.step p1 P2.out P3.out KH.out KX2.out RC.out RA.out _ hown1 hgrow); clear hown1 hgrow hat hlt))
                    have FIN : LpM2 B0 w N v f g (.slice (some ⟨dr, 0, none⟩) nd cap) nd bs (.slice (some ⟨gg, 0, none⟩) (j + 1) cap1) (.int .i64 ((j : Int) + 1)) w1 := ⟨j + 1, by simp, by omega, WH.out.off ((KX2.out.weak (fun _ _ => trivial)).trans ST.out.2), met_next HD.out ST.out.1⟩
                    exact ⟨⟨_, _, _, _, _, _, FIN, rfl, rfl, rfl, rfl, rfl, rfl⟩, by simp [intOf]; omega⟩
          · have hjn' : ¬ (j : Int) < (g.asked.length : Int) := by omega
            go_wp2_with fail
            exact ⟨⟨1, by simp, by omega, W2.out, .inr ⟨by omega, metRow_all (by omega) R2.out⟩⟩, by simp [intOf]; omega⟩
      · have c0 : wr.cell? ⟨bi, 0, none⟩ = some (.slice none 0 0) := oth i bi hbi (by omega)
        clear lx row oth kB
        go_wp2_with fail
        refine wp_loop_once ?_
        go_wp2_with fail
        exact ⟨⟨i + 1, by simp, by omega, W1.out, .inr ⟨by omega, R1.out.elim (fun h => absurd h.1 hi0) (fun h => h.2)⟩⟩, by simp [intOf]; omega⟩
    · have hin' : ¬ (i : Int) < (nd : Int) := by omega
      go_wp2_with fail
      go_ret
      rcases R1.out with ⟨h, _⟩ | ⟨_, h⟩
      · omega
      · exact ⟨_, rfl, h, W1.out.lx.2.2.2.2⟩
end Go.Proofs
end
