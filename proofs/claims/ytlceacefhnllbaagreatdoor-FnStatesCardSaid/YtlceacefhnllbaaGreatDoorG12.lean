/- A part of the proof of the statement on the law FnStates, which the last text proves: part G12. -/
import Derived.Test.YtlceacefhnllbaaGreatDoorG11
set_option linter.all false
section
namespace Go.Proofs
open Go.RowKit
open Pl
set_option maxRecDepth 100000 in
set_option maxHeartbeats 4000000 in
theorem ma_any {B0 : Nat} {w : World} {N : Bd} {v : AV} {f : Nat} {ab tt nr nd : Nat} (hat : AtnAt B0 w N v) (haf : AtF B0 w N v ab tt nr) (hdc : DcF B0 w N v ab nd) (hB : B0 ≤ w.heap.size) (nf : NetF N f) (s : ByteArray) (hs : s.size ≤ 60) :
    Calls Tryz.prog 27 #[.pointer (some ⟨ab, 0, none⟩), .string s, .int .i64 0, .agg #[.map none, .int .i64 0]] w fun e w' => MaOut B0 w N v f nd e w' := by
  have hmf : ∀ (fn : Fn) (first cap : Array Value) (w : World), (Instr.makeFunc fn first cap).run Tryz.prog w = .ok (.func fn first cap) w := fun _ _ _ _ => rfl
  obtain ⟨db, dc, hd1, hd2⟩ := hdc.row
  obtain ⟨hp1, hp2⟩ : 0 < nd ∧ nd ≤ 1000000 := ⟨hdc.pos, hdc.few⟩
  have hda := hd1.at
  have AT := Lib.hid hat
  have AF := Lib.hid haf
  have D1 := Lib.hid hd1
  have D2 := Lib.hid hd2
  have NF := Lib.hid nf
  clear hat haf hdc nf hd1 hd2
  go_enter_defers Tryz.func27, Tryz.ntmps27
  go_upto_region 3 with fail
  have kp : Kp (fun _ => True) w (((w.alloc (.cells #[.map none, .int .i64 0] 70)).alloc (.cells #[.int .i64 (-1)] 3)).alloc (.cells #[.map none, .int .i64 0, .slice none 0 0] 108)) := ((Kp.alloc _ _).trans (Kp.alloc _ _)).trans (Kp.alloc _ _)
  have bF : Blk (((w.alloc (.cells #[.map none, .int .i64 0] 70)).alloc (.cells #[.int .i64 (-1)] 3)).alloc (.cells #[.map none, .int .i64 0, .slice none 0 0] 108)) (w.heap.size + 1) 3 #[.int .i64 (-1)] := by
    have := (Blk.new (w.alloc (.cells #[.map none, .int .i64 0] 70)) 3 #[.int .i64 (-1)]).alloc (.cells #[.map none, .int .i64 0, .slice none 0 0] 108)
    simpa using this
  have bL : Blk (((w.alloc (.cells #[.map none, .int .i64 0] 70)).alloc (.cells #[.int .i64 (-1)] 3)).alloc (.cells #[.map none, .int .i64 0, .slice none 0 0] 108)) (w.heap.size + 1 + 1) 108 #[.map none, .int .i64 0, .slice none 0 0] := by
    have := Blk.new ((w.alloc (.cells #[.map none, .int .i64 0] 70)).alloc (.cells #[.int .i64 (-1)] 3)) 108 #[.map none, .int .i64 0, .slice none 0 0]
    simpa using this
  generalize ((w.alloc (.cells #[.map none, .int .i64 0] 70)).alloc (.cells #[.int .i64 (-1)] 3)).alloc (.cells #[.map none, .int .i64 0, .slice none 0 0] 108) = w3 at kp bF bL ⊢
  have hda3 := (D1.out.kept (kp.weak (fun _ _ => trivial))).at
  have KP := Lib.hid kp
  have BF := Lib.hid bF
  have BL := Lib.hid bL
  clear kp bF bL hda
  go_wp2_with fail
  go_loopw [10, 26] (fun t10 t26 wr => LpD w3.heap.size w3 nd t10 t26 wr) (fun _ t26 _ => nd - (intOf t26).toNat)
  case atStart => exact ⟨[], rfl, by simp, ⟨⟨rfl, .inl ⟨rfl, rfl⟩⟩, by simp, by simp, by exact ⟨⟨rfl, rfl⟩, Nat.le_refl _, fun _ _ _ => rfl⟩⟩⟩
  case round =>
    obtain ⟨bs, rfl, hle, D⟩ := hrel
    have DD := Lib.hid D
    have hsz : w3.heap.size ≤ wr.heap.size := D.kp.size
    clear D
    by_cases hk : bs.length < nd
    · obtain ⟨sn, hs1, hs2, hs3, hs4⟩ := D2.out bs.length hk
      have kr : Kp (fun k => k < B0) w wr := (KP.out.weak (fun _ _ => trivial)).trans (DD.out.kp.weak (fun k hk => by have := KP.out.size; omega))
      have c1 := (hs2.kept kr).at
      have c2 : kTy (N.kind sn) = 173 → wr.cell? ⟨v.st sn, 10, none⟩ = some (.bool false) := fun e => ((hs4 e).kept kr).at
      have hb1 : ((bs.length : Int) < (nd : Int)) := by omega
      have HS3 := Lib.hid hs3
      have hown := DD.out.own
      clear hs1 hs2 hs4 kr hs3
      obtain ⟨i0, hi0, hz0, hz1, hz2⟩ := info_parts info120
      go_wp2_with (first
        | (go_at_call 33; refine (ndfa_any _ HS3.out _ _ _ c2).mono ?_; rintro e w4 ⟨rfl, rfl⟩)
        | (at_builtin; refine wpList_append_lies _ rfl _ _ 85 rfl w3.heap.size 120 i0 _ 1 8 Tryz.underlying85 hi0 hz0 hz1 hz2 rfl (by omega) u10 bs.length (ptrs bs) rfl ((hown.alloc _).alloc _) ⟨wr.heap.size + 1, 0, none⟩ 1 1 [.pointer (some ⟨wr.heap.size, 0, none⟩)] rfl rfl (World.news_of_block (cs := #[.pointer (some ⟨wr.heap.size, 0, none⟩)]) (t := 120) (fr := (0, 0)) (heap_new2 _ _ _)) (by simp [Value.oneCell']) (by omega) (by simp [maxLen]; omega) (by omega) (by simp; omega) _ rfl ?_; intro gg cap w1 hown1 hgrow hat hlt))
      exact ⟨⟨bs ++ [wr.heap.size], by simp, by simp; omega, by have := DD.out.step hsz _ _ _ gg cap hown1 hgrow; simpa using this⟩, by simp [intOf]; omega⟩
    · have hb1 : ¬ ((bs.length : Int) < (nd : Int)) := by omega
      have hbl : bs.length = nd := by omega
      have hown := DD.out.own
      obtain ⟨gd, cd, hu, hgd⟩ := own_form hown (by omega)
      subst hu
      rw [hbl] at hown ⊢
      have HO := Lib.hid hown
      clear hown
      go_upto_region 9 with (first | (go_at_call 35; refine (npcc_any _).mono ?_; rintro e w5 ⟨b5, rfl, kp5⟩) | (go_at_call 34; refine (nsim_any _ _ _ _ _ _ _).mono ?_; rintro e w6 ⟨rfl, rfl⟩))
      have k6 : Kp (fun _ => True) wr ((w5.alloc (.cells (simK (simQ0 w5 ab b5 gd nd cd (.iface 105 (.pointer (some ⟨w.heap.size + 1 + 1, 0, none⟩))))) 192)).alloc (.cells #[.int .i64 (-1), .int .i64 0, .int .i64 (-1), .pointer none] 227)) := (kp5.trans (Kp.alloc _ _)).trans (Kp.alloc _ _)
      have s6 := (Blk.new w5 192 (simK (simQ0 w5 ab b5 gd nd cd (.iface 105 (.pointer (some ⟨w.heap.size + 1 + 1, 0, none⟩)))))).alloc (.cells #[.int .i64 (-1), .int .i64 0, .int .i64 (-1), .pointer none] 227)
      have p6 : Blk ((w5.alloc (.cells (simK (simQ0 w5 ab b5 gd nd cd (.iface 105 (.pointer (some ⟨w.heap.size + 1 + 1, 0, none⟩))))) 192)).alloc (.cells #[.int .i64 (-1), .int .i64 0, .int .i64 (-1), .pointer none] 227)) (w5.heap.size + 1) 227 #[.int .i64 (-1), .int .i64 0, .int .i64 (-1), .pointer none] := by
        have := Blk.new (w5.alloc (.cells (simK (simQ0 w5 ab b5 gd nd cd (.iface 105 (.pointer (some ⟨w.heap.size + 1 + 1, 0, none⟩))))) 192)) 227 #[.int .i64 (-1), .int .i64 0, .int .i64 (-1), .pointer none]
        simpa using this
      have z5 : wr.heap.size ≤ w5.heap.size := kp5.size
      obtain ⟨q, hq⟩ : ∃ q, q = simQ0 w5 ab b5 gd nd cd (.iface 105 (.pointer (some ⟨w.heap.size + 1 + 1, 0, none⟩))) := ⟨_, rfl⟩
      have q1 : q.sim = w5.heap.size := by rw [hq]; rfl
      have q2 : q.prev = w5.heap.size + 1 := by rw [hq]; rfl
      have q3 : q.ab = ab ∧ q.dr = gd ∧ q.nd = nd := by rw [hq]; exact ⟨rfl, rfl, rfl⟩
      rw [← hq] at k6 s6 p6 ⊢
      clear hq
      generalize (w5.alloc (.cells (simK q) 192)).alloc (.cells #[.int .i64 (-1), .int .i64 0, .int .i64 (-1), .pointer none] 227) = w6 at k6 s6 p6 ⊢
      have hr1 : (Conv.runesFrom s s.size 0 #[]).size ≤ 60 := by have := size_runesFrom s s.size 0 #[]; simp at this; omega
      have hr2 := runes_int s s.size 0 #[] (by simp)
      have hcv := run_runes_of_string (P := Tryz.prog) w6 9 101 21 s Tryz.underlying9 Tryz.underlying101 Tryz.underlying21 (by omega)
      generalize Conv.runesFrom s s.size 0 #[] = rs at hr1 hr2 hcv
      generalize grownCap w6 rs.size 0 21 = cc at hcv
      generalize hrow : rs ++ Array.replicate (cc - rs.size) (Value.int .i32 0) = row at hcv
      have hr3 : ∀ k, k < rs.size → ∃ r, row[k]? = some (.int .i32 r) := by
        intro k hk
        obtain ⟨r, hr⟩ := hr2 k hk
        exact ⟨r, by rw [← hrow, Array.getElem?_append_left hk]; exact hr⟩
      clear hrow hr2
      have K6 := Lib.hid k6
      have S6 := Lib.hid s6
      have P6 := Lib.hid p6
      clear k6 s6 p6
      go_wp2_with fail
      have k8 : Kp (fun _ => True) w6 (((w6.alloc (.cells row 21)).alloc (.cells #[.slice (some ⟨w6.heap.size, 0, none⟩) rs.size cc, .int .i64 0] 128)).drew) := ((Kp.alloc _ _).trans (Kp.alloc _ _)).trans (Kp.drew _)
      have r8 : Blk (((w6.alloc (.cells row 21)).alloc (.cells #[.slice (some ⟨w6.heap.size, 0, none⟩) rs.size cc, .int .i64 0] 128)).drew) w6.heap.size 21 row := by
        have := (Blk.new w6 21 row).alloc (.cells #[.slice (some ⟨w6.heap.size, 0, none⟩) rs.size cc, .int .i64 0] 128)
        exact this
      have i8 : Blk (((w6.alloc (.cells row 21)).alloc (.cells #[.slice (some ⟨w6.heap.size, 0, none⟩) rs.size cc, .int .i64 0] 128)).drew) (w6.heap.size + 1) 128 #[.slice (some ⟨w6.heap.size, 0, none⟩) rs.size cc, .int .i64 0] := by
        have := Blk.new (w6.alloc (.cells row 21)) 128 #[.slice (some ⟨w6.heap.size, 0, none⟩) rs.size cc, .int .i64 0]
        have e : (w6.alloc (.cells row 21)).heap.size = w6.heap.size + 1 := by simp
        rw [e] at this
        exact this
      generalize (((w6.alloc (.cells row 21)).alloc (.cells #[.slice (some ⟨w6.heap.size, 0, none⟩) rs.size cc, .int .i64 0] 128)).drew) = w8 at k8 r8 i8 ⊢
      obtain ⟨d0, hd0⟩ : ∃ d0, bs[0]? = some d0 := ⟨bs[0]'(by omega), by simp⟩
      obtain ⟨i, hi⟩ : ∃ i : InQ, i = ⟨w6.heap.size + 1, some w6.heap.size, rs.size, cc⟩ := ⟨_, rfl⟩
      have hib : w6.heap.size + 1 = i.ib := by rw [hi]
      have hin : i.n ≤ 60 := by rw [hi]; exact hr1
      have hIn : InAt w8 i 0 := by
        rw [hi]
        exact ⟨i8, fun k hk => by obtain ⟨r, hr⟩ := hr3 k hk; exact ⟨w6.heap.size, row, r, rfl, r8, hr⟩, Nat.zero_le _, by show rs.size ≤ 1000; omega⟩
      have kr8 : Kp (fun _ => True) wr w8 := K6.out.trans k8
      have k08 : Kp (fun _ => True) w w8 := kp_mid KP.out DD.out.kp kr8
      have s8 : Blk w8 q.sim 192 (simK q) := by rw [q1]; exact S6.out.kept (k8.blk _ S6.out.lt trivial)
      have p8 : Blk w8 q.prev 227 #[.int .i64 (-1), .int .i64 0, .int .i64 (-1), .pointer none] := by rw [q2]; exact P6.out.kept (k8.blk _ P6.out.lt trivial)
      have o8 : w8.ownsRow w3.heap.size 120 1 (.slice (some ⟨gd, 0, none⟩) nd cd) nd (ptrs bs) := own_kept' HO.out (fun k hk => kr8.blk k (own_blk HO.out hk).2.1 trivial)
      have hd8 : ∃ cs, Blk w8 q.dr 120 cs ∧ cs[0]? = some (.pointer (some ⟨d0, 0, none⟩)) := by
        obtain ⟨_, _, c, hc⟩ := own_blk o8 (k := gd) rfl
        refine ⟨c, by rw [q3.2.1]; exact hc, ?_⟩
        have h1 := own_cell o8 0 (.pointer (some ⟨d0, 0, none⟩)) (by simp [ptrs, hd0])
        have h2 : Blk w8 gd 120 c := hc
        exact (h2.cell 0).symm.trans h1
      have hm0 : d0 ∈ bs := List.mem_of_getElem? hd0
      obtain ⟨a1, ji, hd8'⟩ := (DD.out.ea d0 hm0).1
      have hd80 := hd8'.kept (kr8.blk _ hd8'.lt trivial)
      have zw3 : w.heap.size ≤ w3.heap.size := KP.out.size
      have z8 : B0 ≤ w8.heap.size := by have := k08.size; omega
      have hq1 : B0 ≤ q.sim := by rw [q1]; omega
      have hq2 : B0 ≤ q.prev := by rw [q2]; omega
      have z6 : w5.heap.size ≤ w6.heap.size := by have := S6.out.lt; omega
      have M8 : Hid (MRe B0 w8 N v f (gs0 q.sim q.prev i.ib d0 a1 ji) q i tt nr 0 (-1) 0 (-1) none) := Lib.hid (MRe.new (AT.out.kept (LC.of k08)) (by rw [q3.1]; exact AF.out.kept (LC.of k08)) s8 p8 hIn hd8 (by rw [q3.2.2]; exact ⟨hp1, hp2⟩) hd80 hq1 hq2 (by rw [← hib]; omega) (by have := (DD.out.ea d0 hm0).2; omega))
      have BF8 : Hid (Blk w8 (w.heap.size + 1) 3 #[.int .i64 (-1)]) := Lib.hid ((BF.out.kept (DD.out.kp.blk _ BF.out.lt BF.out.lt)).kept (kr8.blk _ (Nat.lt_of_lt_of_le BF.out.lt hsz) trivial))
      have BL8 : Hid (Blk w8 (w.heap.size + 1 + 1) 108 #[.map none, .int .i64 0, .slice none 0 0]) := Lib.hid ((BL.out.kept (DD.out.kp.blk _ BL.out.lt BL.out.lt)).kept (kr8.blk _ (Nat.lt_of_lt_of_le BL.out.lt hsz) trivial))
      have nz : ∀ b, b ∈ bs → b ≠ d0 → Hid (DfP w8 b) := fun b hb _ => Lib.hid ((DD.out.ea b hb).1.kept (kr8.blk _ (DD.out.ea b hb).1.lt trivial))
      have NM : Hid (∀ k, k < w3.heap.size ∨ k = gd ∨ (k ≠ d0 ∧ DfP w8 k) → ¬ (gs0 q.sim q.prev i.ib d0 a1 ji).M k) := by
        obtain ⟨_, _, c, hc⟩ := own_blk o8 (k := gd) rfl
        exact Lib.hid (gs0_no M8.out (by rw [q1]; omega) (by rw [q2]; omega) (by rw [← hib]; omega) (DD.out.ea d0 hm0).2 hc)
      have G0 : Hid ((gs0 q.sim q.prev i.ib d0 a1 ji).asked = [] ∧ (gs0 q.sim q.prev i.ib d0 a1 ji).s0 = none ∧ (gs0 q.sim q.prev i.ib d0 a1 ji).dfa = d0) := Lib.hid ⟨rfl, rfl, rfl⟩
      have ND := Lib.hid DD.out.nd
      have EA : Hid (∀ b ∈ bs, w3.heap.size ≤ b) := Lib.hid (fun b hb => (DD.out.ea b hb).2)
      have HD0 := Lib.hid hd0
      have O8 := Lib.hid o8
      have NZ : Hid (∀ b ∈ bs, b ≠ d0 → DfP w8 b) := Lib.hid (fun b hb e => (nz b hb e).out)
      have K08 := Lib.hid k08
      have zw : w.heap.size + 1 + 1 < w3.heap.size := BL.out.lt
      have z38 : w3.heap.size ≤ w8.heap.size := Nat.le_trans hsz kr8.size
      rw [hib, ← q1]
      clear k8 r8 hIn kr8 s8 p8 o8 hd8 hd8' hd80 hq1 hq2 z6 z5 q1 q2 q3 hi hib S6 P6 K6 hcv hr3 HO DD hda3 KP BF BL AT AF D1 D2 k08 z8 hb1 hsz i8
      generalize gs0 q.sim q.prev i.ib d0 a1 ji = g0 at M8 NM G0 ⊢
      go_loopw [8, 10] (fun t8 t10 wr => t10 = .slice (some ⟨gd, 0, none⟩) nd cd ∧ LpT B0 w8 N v f g0 q i tt nr t8 wr) (fun _ _ wr => i.n - posOf wr i.ib)
      case atStart => exact ⟨rfl, g0, q, 0, -1, 0, -1, none, 0, [], M8.out, rfl, Fy.refl _ _, by rw [G0.out.1]; simp, .inr G0.out.2.1, ⟨rfl, .inl ⟨rfl, rfl⟩⟩, fun b hb => by simp [Value.ownBlock] at hb, Nat.le_refl _⟩
      case round =>
        obtain ⟨rfl, g, q', pos, pi, pl, pc, pd, k, xs, mr, hq, fy, has, has1, htok, hnt, hkp⟩ := hrel
        have hpo := mr.posOf
        have hpn := mr.inp.le
        have hi1 : wr.cell? ⟨i.ib, 1, none⟩ = some (.int .i64 pos) := mr.inp.blk.cell 1
        have BLr : Blk wr (w.heap.size + 1 + 1) 108 #[.map none, .int .i64 0, .slice none 0 0] := BL8.out.kept (fy.blk _ BL8.out.lt (NM.out _ (.inl zw)))
        have fl2 := BLr.free 2
        have ltl := BLr.lt
        have cl2 : wr.cell? ⟨w.heap.size + 1 + 1, 2, none⟩ = some (.slice none 0 0) := BLr.cell 2
        have ql : wr.setCell ⟨w.heap.size + 1 + 1, 2, none⟩ (.slice none 0 0) = wr := setCell_self BLr rfl
        have MC := match_any mr NF.out (124 * pos + 124) (by omega) (by omega)
        rw [hq] at MC
        have HMC := Lib.hid MC
        have MR := Lib.hid mr
        have FY := Lib.hid fy
        have TK := Lib.hid htok
        have NT := Lib.hid hnt
        have BLR := Lib.hid BLr
        clear mr fy htok hnt MC BLr
        go_wp2_with (first | (go_at_call 37; refine (gIdx _ _ _ hi1).mono ?_; rintro e w' ⟨rfl, rfl⟩))
        refine HMC.out.mono ?_
        rintro e w9 ⟨g9, ha9, hb9, y9, (⟨kd, ln, cp, pos', pi', pl', pc', pd', rfl, m9⟩ | ⟨b9, x, ln, cp, pos', pi', pl', pc', pd', rfl, hp9, m9⟩)⟩
        · have hi9 : w9.cell? ⟨i.ib, 1, none⟩ = some (.int .i64 pos') := m9.inp.blk.cell 1
          have hs7 : w9.cell? ⟨q.sim, 7, none⟩ = some (.int .i64 ln) := by rw [← hq]; exact m9.env.sim.cell 7
          have hs8 : w9.cell? ⟨q.sim, 8, none⟩ = some (.int .i64 cp) := by rw [← hq]; exact m9.env.sim.cell 8
          have nL : ¬ g.M (w.heap.size + 1 + 1) := FY.out.sep _ BL8.out.lt (NM.out _ (.inl zw))
          have BL9 := BLR.out.kept (y9.blk _ BLR.out.lt nL)
          have cl9 : w9.cell? ⟨w.heap.size + 1 + 1, 2, none⟩ = some (.slice none 0 0) := BL9.cell 2
          have TK9 : w9.ownsRow w8.heap.size 136 6 u8 k xs := own_kept' TK.out (fun b hb => y9.blk b (own_blk TK.out hb).2.1 (NT.out b hb))
          have NT9 : Hid (∀ b, u8.ownBlock = some b → ¬ g9.M b) := Lib.hid (fun b hb => y9.sep b (own_blk TK.out hb).2.1 (NT.out b hb))
          have FY9 := Lib.hid (FY.out.trans y9)
          have M9 := Lib.hid m9
          have HB9 := Lib.hid hb9
          clear m9 y9 hb9 BL9
          go_upto_region 14 with fail
          obtain ⟨i6, hi6, hy0, hy1, hy2⟩ := info_parts info136
          have hi9d : w9.drew.cell? ⟨i.ib, 1, none⟩ = some (.int .i64 pos') := hi9
          have hs7d : w9.drew.cell? ⟨q.sim, 7, none⟩ = some (.int .i64 ln) := hs7
          have hs8d : w9.drew.cell? ⟨q.sim, 8, none⟩ = some (.int .i64 cp) := hs8
          have TK9d := TK9.drew
          have hneL : some (w.heap.size + 1 + 1) ≠ u8.ownBlock := fun e => by have := (own_blk TK9 e.symm).1; omega
          have zw89 : w8.heap.size ≤ w9.heap.size := FY9.out.size
          have hltL : w.heap.size + 1 + 1 < w9.heap.size := by omega
          go_cut [8] from 59 to 74 (fun s8 wx => ∃ gg cap, s8 = .slice (some ⟨gg, 0, none⟩) (k + 1) cap ∧ wx.ownsRow w8.heap.size 136 6 s8 (k + 1) (xs ++ [.int .i64 kd, .int .i64 pos, .int .i64 pos', .int .i64 ln, .int .i64 cp, .slice none 0 0]) ∧ (w9.drew.alloc (.cells #[.int .i64 kd, .int .i64 pos, .int .i64 pos', .int .i64 ln, .int .i64 cp, .slice none 0 0] 136)).grownBy wx u8.ownBlock ∧ (u8.ownBlock = some gg ∨ gg = w9.heap.size + 1))
          case first =>
            go_region_held3 (fun w' => w'.cell? ⟨w.heap.size + 1 + 1, 2, none⟩ = some (.slice none 0 0)) ((first | assumption | go_keep | (rw [hgrow.cell_far _ (by simp; omega) hneL]; first | assumption | go_keep)))
              (first | (go_at_call 37; refine (gIdx _ _ w9.drew hi9d).mono ?_; rintro e w' ⟨rfl, rfl⟩) | (go_at_call 39; refine (gln_any _ _ w9.drew hs7d).mono ?_; rintro e w' ⟨rfl, rfl⟩) | (go_at_call 40; refine (gcp_any _ _ w9.drew hs8d).mono ?_; rintro e w' ⟨rfl, rfl⟩) | (refine step_append_lies _ (by rfl) _ _ _ (by rfl) w8.heap.size 136 i6 _ 6 64 Tryz.underlying84 hi6 hy0 hy1 hy2 rfl (by omega) u8 k xs (by rfl) (TK9d.alloc _) ⟨w9.heap.size, 0, none⟩ 1 1 [.int .i64 kd, .int .i64 pos, .int .i64 pos', .int .i64 ln, .int .i64 cp, .slice none 0 0] (by rfl) (by rfl) (World.news_of_block (cs := #[.int .i64 kd, .int .i64 pos, .int .i64 pos', .int .i64 ln, .int .i64 cp, .slice none 0 0]) (t := 136) (fr := (0, 0)) (heap_alloc_new w9.drew _)) (by simp [Value.oneCell']) (by omega) (by simp [maxLen]; omega) (by omega) (by simp; omega) (w9.heap.size + 1) (by simp) ?_; intro gg cap w1 hown1 hgrow hat hlt))
            all_goals go_wp2_with fail
            all_goals go_meet
            all_goals exact ⟨gg, cap, rfl, hown1, hgrow, hat⟩
          case rest =>
            obtain ⟨gg, cap, rfl, hown1, hgrow, hat⟩ := hcut
            obtain ⟨m10, k10⟩ := MRe.app M9.out.rest (by omega : B0 ≤ w8.heap.size) TK9 NT9.out _ hgrow
            have fy10 := FY9.out.app k10
            have ng : ¬ g9.M gg := by
              rcases hat with h | h
              · exact NT9.out _ h
              · exact fun hm => by have := M9.out.lx.Mlt hm; omega
            have hi10 : wc.cell? ⟨i.ib, 1, none⟩ = some (.int .i64 pos') := m10.inp.blk.cell 1
            have hsp := M9.out.sp
            have BF10 : Blk wc (w.heap.size + 1) 3 #[.int .i64 (-1)] := BF8.out.kept (fy10.blk _ BF8.out.lt (NM.out _ (.inl (by omega))))
            have hf0 := BF10.free 0
            have hfl := BF10.lt
            have cf0 : wc.cell? ⟨w.heap.size + 1, 0, none⟩ = some (.int .i64 (-1)) := BF10.cell 0
            have M10 := Lib.hid m10
            have FY10 := Lib.hid fy10
            have OWN := Lib.hid hown1
            have BFX := Lib.hid BF10
            have NG := Lib.hid ng
            clear m10 fy10 hown1 hgrow hat k10 ng TK9 hi9 hs7 hs8 cl9 hi9d hs7d hs8d TK9d BF10
            have MO : Hid (MaOut B0 w N v f nd (.returned (.tuple #[.slice (some ⟨gg, 0, none⟩) (k + 1) cap, .int .i64 (-1), .slice (some ⟨gd, 0, none⟩) nd cd])) wc.drew) := Lib.hid (ma_out (M10.out.lx.all (Kp.drew _)) (HB9.out has1) (by omega) FY10.out (Kp.drew _) K08.out (by omega) (by omega : w.heap.size + 1 < w3.heap.size) z38 O8.out hbl HD0.out G0.out.2.2 ND.out NZ.out EA.out NM.out _ _)
            have cf0d : wc.drew.cell? ⟨w.heap.size + 1, 0, none⟩ = some (.int .i64 (-1)) := cf0
            have hf0d : wc.drew.frozen? ⟨w.heap.size + 1, 0, none⟩ = false := hf0
            have qf : wc.drew.setCell ⟨w.heap.size + 1, 0, none⟩ (.int .i64 (-1)) = wc.drew := setCell_self (show Blk wc.drew (w.heap.size + 1) 3 #[.int .i64 (-1)] from BFX.out) rfl
            by_cases hk1 : kd = -1
            · subst hk1
              go_wp2_with fail
              go_region
              all_goals go_wp2
              all_goals refine leaves_cons (f := 36) (args := #[.pointer (some ⟨w.heap.size + 1, 0, none⟩)]) (by simp) (by simp [go_sem]) ?_
              all_goals refine (catch_idle _ _).mono ?_
              all_goals rintro e u' w'' ⟨rfl, rfl, rfl⟩
              all_goals simp [Leaves, settle, results, Tryz.results27, go_sem, cf0d]
              all_goals exact MO.out
            · have hb1 : (kd == -1) = false := by simpa using hk1
              by_cases hp1 : pos' = pos
              · subst hp1
                go_wp2_with (first | (go_at_call 37; refine (gIdx _ _ _ hi10).mono ?_; rintro e w' ⟨rfl, rfl⟩))
                go_region
                all_goals go_wp2
                all_goals refine leaves_cons (f := 36) (args := #[.pointer (some ⟨w.heap.size + 1, 0, none⟩)]) (by simp) (by simp [go_sem]) ?_
                all_goals refine (catch_idle _ _).mono ?_
                all_goals rintro e u' w'' ⟨rfl, rfl, rfl⟩
                all_goals simp [Leaves, settle, results, Tryz.results27, go_sem, cf0d]
                all_goals exact MO.out
              · have hp2 : ((pos' : Int) == (pos : Int)) = false := by simp; omega
                have hp3 : (pos' == pos) = false := by simpa using hp1
                have hp10 := M10.out.posOf
                have hpn10 := M10.out.inp.le
                go_wp2_with (first | (go_at_call 37; refine (gIdx _ _ _ hi10).mono ?_; rintro e w' ⟨rfl, rfl⟩))
                exact ⟨⟨rfl, g9, _, pos', pi', pl', pc', pd', k + 1, _, M10.out, hq, FY10.out, by omega, .inl (HB9.out has1), OWN.out, fun b hb => by simp [Value.ownBlock] at hb; subst hb; exact NG.out, by omega⟩, by rw [hp10, hpo]; omega⟩
        · have fy9 := FY.out.trans y9
          have BF9 : Blk w9 (w.heap.size + 1) 3 #[.int .i64 (-1)] := BF8.out.kept (fy9.blk _ BF8.out.lt (NM.out _ (.inl (by omega))))
          have nF : ¬ g9.M (w.heap.size + 1) := fy9.sep _ BF8.out.lt (NM.out _ (.inl (by omega)))
          have kF : Kp (fun k => k ≠ w.heap.size + 1) w9 (w9.setCell ⟨w.heap.size + 1, 0, none⟩ (.int .i64 pos)) := Kp.setCell _ _ _ (by simp)
          have lF := m9.lx.off (w.heap.size + 1) ⟨nF, by omega, fun c T hT => by unfold Blk at BF9; rw [BF9] at hT; cases hT; simp⟩ kF
          have MO : Hid (MaOut B0 w N v f nd (.returned (.tuple #[u8, .int .i64 pos, .slice (some ⟨gd, 0, none⟩) nd cd])) (w9.setCell ⟨w.heap.size + 1, 0, none⟩ (.int .i64 pos))) := Lib.hid (ma_out lF (hb9 has1) (by omega) fy9 kF K08.out (by omega) (by omega : w.heap.size + 1 < w3.heap.size) z38 O8.out hbl HD0.out G0.out.2.2 ND.out NZ.out EA.out NM.out _ _)
          have hf0 := BF9.free 0
          have cf0 : w9.cell? ⟨w.heap.size + 1, 0, none⟩ = some (.int .i64 (-1)) := BF9.cell 0
          have cb0 : w9.cell? ⟨b9, 0, none⟩ = some (.int .i64 pos) := hp9.cell 0
          have cf1 : (w9.setCell ⟨w.heap.size + 1, 0, none⟩ (.int .i64 pos)).cell? ⟨w.heap.size + 1, 0, none⟩ = some (.int .i64 pos) := (BF9.set 0 (.int .i64 pos) #[.int .i64 pos] (by simp)).cell 0
          clear m9 y9 hb9 hp9 BF9 fy9 lF kF nF
          go_wp2
          refine leaves_cons (f := 36) (args := #[.pointer (some ⟨w.heap.size + 1, 0, none⟩)]) (by simp) (by simp [go_sem]) ?_
          refine (catch_panicking _ _ _ _ [] _ cf0 hf0 cb0).mono ?_
          rintro e u' w'' ⟨rfl, rfl, rfl⟩
          simp [Leaves, settle, results, Tryz.results27, go_sem, cf1]
          exact MO.out
end Go.Proofs
end
