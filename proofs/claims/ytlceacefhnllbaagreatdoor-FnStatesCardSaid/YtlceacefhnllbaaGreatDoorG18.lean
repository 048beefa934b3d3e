/- A part of the proof of the statement on the law FnStates, which the last text proves: part G18. -/
import Derived.Test.YtlceacefhnllbaaGreatDoorG17
set_option linter.all false
section
namespace Go.Proofs
open Go.RowKit
open Pl
set_option maxRecDepth 100000 in
set_option maxHeartbeats 4000000 in
theorem tinyPart_any {w : World} {op a b : Int} {subs : List Ex} {sl : Value} (hs : SlE w sl subs) :
    Calls Tryz.prog 21 #[exV op a b sl] w fun e w' => e = .returned (.bool (tpE (.mk op a b subs))) ∧ Kp (fun _ => True) w w' := by
  have HS := Lib.hid hs
  obtain ⟨sq, sc, rfl⟩ := hs.form
  clear hs
  unfold exV
  have km : Kp (fun _ => True) w (w.alloc (.cells #[.int .i64 op, .int .i64 a, .int .i64 b, .slice sq subs.length sc] 48)) := Kp.alloc _ _
  have bm := Blk.new w 48 #[.int .i64 op, .int .i64 a, .int .i64 b, .slice sq subs.length sc]
  have HA := Lib.hid (HS.out.up km)
  have KA := Lib.hid km
  clear km
  go_enter Tryz.func21, Tryz.ntmps21
  go_upto_region 1 with fail
  obtain ⟨eb, heb⟩ : ∃ eb, eb = w.heap.size := ⟨_, rfl⟩
  rw [← heb] at bm ⊢
  generalize w.alloc (.cells #[.int .i64 op, .int .i64 a, .int .i64 b, .slice sq subs.length sc] 48) = wA at bm HA KA ⊢
  have c0 : wA.cell? ⟨eb, 0, none⟩ = some (.int .i64 op) := bm.cell 0
  have c1 : wA.cell? ⟨eb, 1, none⟩ = some (.int .i64 a) := bm.cell 1
  have c2 : wA.cell? ⟨eb, 2, none⟩ = some (.int .i64 b) := bm.cell 2
  have c3 : wA.cell? ⟨eb, 3, none⟩ = some (.slice sq subs.length sc) := bm.cell 3
  have z0 : wA.frozen? ⟨eb, 0, none⟩ = false := bm.free 0
  have z1 : wA.frozen? ⟨eb, 1, none⟩ = false := bm.free 1
  have z2 : wA.frozen? ⟨eb, 2, none⟩ = false := bm.free 2
  have z3 : wA.frozen? ⟨eb, 3, none⟩ = false := bm.free 3
  have HEB := Lib.hid heb
  have BM := Lib.hid bm
  clear bm heb
  have key : tpC (.mk op a b subs) = (decide (op = 0) && decide (a = b) && (decide (a = 97) || decide (a = 98))) := rfl
  by_cases o3 : 3 ≤ op
  · by_cases h1 : subs.length = 1
    · obtain ⟨⟨op', a', b', s'⟩, hx⟩ : ∃ e, subs = [e] := by
        match subs, h1 with
        | [e], _ => exact ⟨e, rfl⟩
      subst hx
      rcases HA.out with ⟨q, c, h1', h2⟩ | ⟨g, o, c, h1', h2, h3⟩
      · simp at h2
      cases h1'
      obtain ⟨sl', E⟩ := h3.el (k := 0) rfl
      obtain ⟨sq', sc', rfl⟩ := E.sub.form
      have e0 := E.e0
      have e1 := E.e1
      have e2 := E.e2
      have e3 := E.e3
      simp only [Nat.zero_mul, Nat.add_zero] at e0 e1 e2 e3
      have hc1 : (0 : Int) ≤ sc := by simp at h2; omega
      have HT : Hid (tpE (.mk op a b [.mk op' a' b' s']) = (decide (op' = 0) && decide (a' = b') && (decide (a' = 97) || decide (a' = 98)))) := Lib.hid (by simp only [tpE]; rw [if_pos o3]; rfl)
      simp only [List.length_cons, List.length_nil] at c3 h2 ⊢
      clear E h3 key h1 HS HA
      go_upto_region 3 with fail
      have b4 : Blk ((((wA.setCell ⟨eb, 0, none⟩ (.int .i64 op')).setCell ⟨eb, 1, none⟩ (.int .i64 a')).setCell ⟨eb, 2, none⟩ (.int .i64 b')).setCell ⟨eb, 3, none⟩ (.slice sq' s'.length sc')) eb 48 #[.int .i64 op', .int .i64 a', .int .i64 b', .slice sq' s'.length sc'] :=
        (((BM.out.set 0 _ _ rfl).set 1 _ _ rfl).set 2 _ _ rfl).set 3 _ _ rfl
      have k4 : Kp (fun _ => True) w ((((wA.setCell ⟨eb, 0, none⟩ (.int .i64 op')).setCell ⟨eb, 1, none⟩ (.int .i64 a')).setCell ⟨eb, 2, none⟩ (.int .i64 b')).setCell ⟨eb, 3, none⟩ (.slice sq' s'.length sc')) := by
        have hne : ¬ eb < w.heap.size := by rw [HEB.out]; omega
        have k1 : Kp (fun k => k < w.heap.size) w ((((wA.setCell ⟨eb, 0, none⟩ (.int .i64 op')).setCell ⟨eb, 1, none⟩ (.int .i64 a')).setCell ⟨eb, 2, none⟩ (.int .i64 b')).setCell ⟨eb, 3, none⟩ (.slice sq' s'.length sc')) :=
          ((((KA.out.weak (fun _ _ => trivial)).trans (Kp.setCell _ _ _ hne)).trans (Kp.setCell _ _ _ hne)).trans (Kp.setCell _ _ _ hne)).trans (Kp.setCell _ _ _ hne)
        exact ⟨⟨k1.so.os, k1.so.out⟩, k1.size, fun j hj _ => k1.blk j hj hj⟩
      generalize (((wA.setCell ⟨eb, 0, none⟩ (.int .i64 op')).setCell ⟨eb, 1, none⟩ (.int .i64 a')).setCell ⟨eb, 2, none⟩ (.int .i64 b')).setCell ⟨eb, 3, none⟩ (.slice sq' s'.length sc') = wB at b4 k4 ⊢
      have d0 : wB.cell? ⟨eb, 0, none⟩ = some (.int .i64 op') := b4.cell 0
      have d1 : wB.cell? ⟨eb, 1, none⟩ = some (.int .i64 a') := b4.cell 1
      have d2 : wB.cell? ⟨eb, 2, none⟩ = some (.int .i64 b') := b4.cell 2
      have KB := Lib.hid k4
      clear b4 k4
      by_cases q0 : op' = 0
      · by_cases q1 : a' = b'
        · by_cases q2 : a' = 97
          · subst q0 q1 q2
            go_wp2_with fail
            go_ret
            exact ⟨by rw [HT.out]; simp, KB.out⟩
          · subst q0 q1
            go_wp2_with fail
            go_ret
            exact ⟨by rw [HT.out]; simp [q2]; rw [Bool.eq_iff_iff]; simp; omega, KB.out⟩
        · subst q0
          go_wp2_with fail
          go_ret
          exact ⟨by rw [HT.out]; simp [q1], KB.out⟩
      · go_wp2_with fail
        go_ret
        exact ⟨by rw [HT.out]; simp [q0], KB.out⟩
    · have h1' : ¬ (subs.length : Int) = 1 := by omega
      have HT : Hid (tpE (.mk op a b subs) = (decide (op = 0) && decide (a = b) && (decide (a = 97) || decide (a = 98)))) := Lib.hid (by
        simp only [tpE]; rw [if_pos o3]
        match subs, h1 with
        | [], _ => rfl
        | [e], h1 => exact absurd rfl h1
        | e :: f :: t, _ => rfl)
      have q0 : ¬ op = 0 := by omega
      go_wp2_with fail
      go_ret
      exact ⟨by rw [HT.out]; simp [q0], KA.out⟩
  · have HT : Hid (tpE (.mk op a b subs) = (decide (op = 0) && decide (a = b) && (decide (a = 97) || decide (a = 98)))) := Lib.hid (by
      simp only [tpE]; rw [if_neg o3]; rfl)
    by_cases q0 : op = 0
    · by_cases q1 : a = b
      · by_cases q2 : a = 97
        · subst q0 q1 q2
          go_wp2_with fail
          go_ret
          exact ⟨by rw [HT.out]; simp, KA.out⟩
        · subst q0 q1
          go_wp2_with fail
          go_ret
          exact ⟨by rw [HT.out]; simp [q2]; rw [Bool.eq_iff_iff]; simp; omega, KA.out⟩
      · subst q0
        go_wp2_with fail
        go_ret
        exact ⟨by rw [HT.out]; simp [q1], KA.out⟩
    · go_wp2_with fail
      go_ret
      exact ⟨by rw [HT.out]; simp [q0], KA.out⟩

set_option maxRecDepth 100000 in
set_option maxHeartbeats 4000000 in
theorem tiny_any {w : World} {es : List Ex} {sl : Value} (hs : SlE w sl es) (hl : es.length ≤ 4) (s : ByteArray) (hsz : s.size ≤ 2147483647) :
    Calls Tryz.prog 10 #[sl, .string s] w fun e w' => TB w (fun t => t = true → tinyL es = true) e w' := by
  have HA := Lib.hid hs
  obtain ⟨sq, sc, rfl⟩ := hs.form
  clear hs
  go_enter Tryz.func10, Tryz.ntmps10
  go_wp2_with fail
  go_loopw [12] (fun t12 wr => ∃ k : Nat, t12 = .int .i64 k ∧ k ≤ es.length ∧ (∀ e ∈ es.take k, tinyE e = true) ∧ Kp (fun _ => True) w wr) (fun t12 _ => es.length - (intOf t12).toNat)
  case atStart => exact ⟨0, rfl, Nat.zero_le _, by simp, Kp.rfl'⟩
  case round =>
    obtain ⟨k, rfl, hk, hgr, kx⟩ := hrel
    by_cases hkn : k < es.length
    · have hkn' : (k : Int) < (es.length : Int) := by omega
      obtain ⟨⟨op', a', b', s'⟩, hx⟩ : ∃ e, es[k]? = some e := ⟨es[k]'hkn, by simp⟩
      rcases HA.out.up kx with ⟨q, c, h1, h2⟩ | ⟨g, o, c, h1, h2, h3⟩
      · subst h2; simp at hkn
      cases h1
      obtain ⟨sl', E⟩ := h3.el hx
      obtain ⟨sq', sc', rfl⟩ := E.sub.form
      have e0 := E.e0
      have e1 := E.e1
      have e2 := E.e2
      have e3 := E.e3
      have SB := Lib.hid E.sub
      have HX := Lib.hid hx
      have HGR := Lib.hid hgr
      have KX := Lib.hid kx
      have hcc : (k : Int) ≤ (sc : Int) := by omega
      clear E h3 hx kx hgr
      go_upto_region 4 with fail
      have km : Kp (fun _ => True) wr (wr.alloc (.cells #[.int .i64 op', .int .i64 a', .int .i64 b', .slice sq' s'.length sc'] 48)) := Kp.alloc _ _
      have bn := Blk.new wr 48 #[.int .i64 op', .int .i64 a', .int .i64 b', .slice sq' s'.length sc']
      have SB2 := Lib.hid (SB.out.up km)
      obtain ⟨nb, hnb⟩ : ∃ nb, nb = wr.heap.size := ⟨_, rfl⟩
      rw [← hnb] at bn ⊢
      generalize wr.alloc (.cells #[.int .i64 op', .int .i64 a', .int .i64 b', .slice sq' s'.length sc'] 48) = wN at km bn SB2 ⊢
      have KN : Hid (Kp (fun _ => True) wr wN) := Lib.hid km
      have n0 : wN.cell? ⟨nb, 0, none⟩ = some (.int .i64 op') := bn.cell 0
      have n3 : wN.cell? ⟨nb, 3, none⟩ = some (.slice sq' s'.length sc') := bn.cell 3
      clear km bn hnb e0 e1 e2 e3
      obtain ⟨wC, rfl⟩ : ∃ wC, wC = wr := ⟨_, rfl⟩
      by_cases o1 : op' = 1
      · by_cases l1 : (s'.length : Int) < 1
        · go_wp2_with fail
          go_ret
          exact TB.of false rfl (KX.out.trans KN.out) (by simp)
        · by_cases l2 : (2 : Int) < (s'.length : Int)
          · go_wp2_with fail
            go_ret
            exact TB.of false rfl (KX.out.trans KN.out) (by simp)
          · subst o1
            go_wp2_with fail
            go_loopw [34] (fun t34 wr => ∃ j : Nat, t34 = .int .i64 j ∧ j ≤ s'.length ∧ (∀ e ∈ s'.take j, tpE e = true) ∧ Kp (fun _ => True) wN wr) (fun t34 _ => s'.length - (intOf t34).toNat)
            case atStart => exact ⟨0, rfl, Nat.zero_le _, by simp, Kp.rfl'⟩
            case round =>
              obtain ⟨j, rfl, hj, hgj, ky⟩ := hrel
              by_cases hjn : j < s'.length
              · have hjn' : (j : Int) < (s'.length : Int) := by omega
                obtain ⟨⟨op2, a2, b2, s2⟩, hx⟩ : ∃ e, s'[j]? = some e := ⟨s'[j]'hjn, by simp⟩
                rcases SB2.out.up ky with ⟨q, c, h1, h2⟩ | ⟨g, o, c, h1, h2, h3⟩
                · subst h2; simp at hjn
                cases h1
                obtain ⟨sl', E⟩ := h3.el hx
                obtain ⟨sq2, sc2, rfl⟩ := E.sub.form
                have e0 := E.e0
                have e1 := E.e1
                have e2 := E.e2
                have e3 := E.e3
                have SB3 := Lib.hid (E.sub.up (Kp.alloc wr (.cells #[.int .i64 op2, .int .i64 a2, .int .i64 b2, .slice sq2 s2.length sc2] 48)))
                have CT := Lib.hid (tinyPart_any (op := op2) (a := a2) (b := b2) SB3.out)
                unfold exV at CT
                have HX2 := Lib.hid hx
                have HGJ := Lib.hid hgj
                have KY := Lib.hid ky
                have hcc2 : (j : Int) ≤ (sc' : Int) := by omega
                clear E h3 hx ky hgj
                go_wp2_with (first | (go_at_call 21; refine CT.out.mono ?_; rintro e w5 ⟨rfl, k5⟩; have K5 : Hid (Kp (fun _ => True) wr w5) := Lib.hid ((Kp.alloc _ _).trans k5); clear k5; cases hg : tpE (Ex.mk op2 a2 b2 s2)))
                · go_ret
                  exact TB.of false rfl (((KX.out.trans KN.out).trans KY.out).trans K5.out) (by simp)
                · exact ⟨⟨j + 1, by simp, by omega, take_all _ _ _ HX2.out HGJ.out hg, KY.out.trans K5.out⟩, by simp [intOf]; omega⟩
              · have hjn' : ¬ (j : Int) < (s'.length : Int) := by omega
                have hje : j = s'.length := by omega
                subst hje
                rw [List.take_of_length_le (Nat.le_refl _)] at hgj
                have HGJ := Lib.hid hgj
                have KY := Lib.hid ky
                have HT : tinyE (Ex.mk 1 a' b' s') = true := by
                  simp only [tinyE, Bool.and_eq_true, decide_eq_true_eq, List.all_eq_true]
                  exact ⟨⟨⟨trivial, by omega⟩, by omega⟩, HGJ.out⟩
                have HTT := Lib.hid HT
                clear hgj ky HT
                go_wp2_with fail
                exact ⟨⟨k + 1, by simp, by omega, take_all _ _ _ HX.out HGR.out HTT.out, (KX.out.trans KN.out).trans KY.out⟩, by simp [intOf]; omega⟩
      · go_wp2_with fail
        go_ret
        exact TB.of false rfl (KX.out.trans KN.out) (by simp)
    · have hkn' : ¬ (k : Int) < (es.length : Int) := by omega
      have hke : k = es.length := by omega
      subst hke
      rw [List.take_of_length_le (Nat.le_refl _)] at hgr
      have HGR := Lib.hid hgr
      have KX := Lib.hid kx
      clear kx hgr
      obtain ⟨wC, rfl⟩ : ∃ wC, wC = wr := ⟨_, rfl⟩
      go_wp2_with fail
      go_loopw [45] (fun t45 wr => ∃ j : Nat, t45 = .int .i64 j ∧ j ≤ s.size ∧ wr = wC) (fun t45 _ => s.size - (intOf t45).toNat)
      case atStart => exact ⟨0, rfl, Nat.zero_le _, rfl⟩
      case round =>
        obtain ⟨j, rfl, hj, rfl⟩ := hrel
        by_cases hjn : j < s.size
        · have hjn' : (j : Int) < (s.size : Int) := by omega
          go_wp2_with fail
          · go_ret
            exact TB.of false rfl KX.out (by simp)
          · exact ⟨⟨j + 1, by simp, by omega, trivial⟩, by simp [intOf]; omega⟩
          · go_ret
            exact TB.of false rfl KX.out (by simp)
        · have hjn' : ¬ (j : Int) < (s.size : Int) := by omega
          by_cases l2 : (es.length : Int) ≤ 2
          · by_cases l3 : (s.size : Int) ≤ 3
            · go_wp2_with fail
              go_ret
              exact TB.of true rfl KX.out (fun _ => by
                simp only [tinyL, Bool.and_eq_true, decide_eq_true_eq, List.all_eq_true]
                exact ⟨HGR.out, by omega⟩)
            · go_wp2_with fail
              go_ret
              exact TB.of false rfl KX.out (by simp)
          · go_wp2_with fail
            go_ret
            exact TB.of false rfl KX.out (by simp)
end Go.Proofs
end
section
namespace Go.Proofs
open Go.RowKit
open Pl
/-! ## the copy of the rules -/
mutual
def ExQ (Q : Nat → Prop) (w : World) (g o : Nat) : Ex → Prop
  | .mk op a b subs => Q g ∧ w.cell? ⟨g, o, none⟩ = some (.int .i64 op) ∧ w.cell? ⟨g, o + 1, none⟩ = some (.int .i64 a) ∧ w.cell? ⟨g, o + 2, none⟩ = some (.int .i64 b) ∧
      ((∃ q c, w.cell? ⟨g, o + 3, none⟩ = some (.slice q 0 c) ∧ subs = []) ∨ ∃ g' o' c, w.cell? ⟨g, o + 3, none⟩ = some (.slice (some ⟨g', o', none⟩) subs.length c) ∧ subs.length ≤ c ∧ ExRQ Q w g' o' subs)
def ExRQ (Q : Nat → Prop) (w : World) (g o : Nat) : List Ex → Prop
  | [] => True
  | e :: es => ExQ Q w g o e ∧ ExRQ Q w g (o + 4) es
end
def SlQ (Q : Nat → Prop) (w : World) (sl : Value) (es : List Ex) : Prop := (∃ q c, sl = .slice q 0 c ∧ es = []) ∨ ∃ g o c, sl = .slice (some ⟨g, o, none⟩) es.length c ∧ es.length ≤ c ∧ ExRQ Q w g o es
theorem ExQ_iff (Q : Nat → Prop) (w : World) (g o : Nat) (op a b : Int) (subs : List Ex) : ExQ Q w g o (.mk op a b subs) ↔ Q g ∧ w.cell? ⟨g, o, none⟩ = some (.int .i64 op) ∧ w.cell? ⟨g, o + 1, none⟩ = some (.int .i64 a) ∧ w.cell? ⟨g, o + 2, none⟩ = some (.int .i64 b) ∧ ∃ sl, w.cell? ⟨g, o + 3, none⟩ = some sl ∧ SlQ Q w sl subs := by
  simp only [ExQ, SlQ]
  refine and_congr_right fun _ => and_congr_right fun _ => and_congr_right fun _ => and_congr_right fun _ => ⟨fun h => ?_, fun h => ?_⟩
  · rcases h with ⟨q, c, h1, h2⟩ | ⟨g', o', c, h1, h2⟩
    · exact ⟨_, h1, .inl ⟨q, c, rfl, h2⟩⟩
    · exact ⟨_, h1, .inr ⟨g', o', c, rfl, h2⟩⟩
  · obtain ⟨sl, h0, ⟨q, c, rfl, h2⟩ | ⟨g', o', c, rfl, h2⟩⟩ := h
    · exact .inl ⟨q, c, h0, h2⟩
    · exact .inr ⟨g', o', c, h0, h2⟩
mutual
theorem ExQ.kept {Q Q' : Nat → Prop} {w W : World} (k : Kp Q w W) (hq : ∀ j, j < w.heap.size → Q j → Q' j) : ∀ (e : Ex) (g o : Nat), ExQ Q w g o e → ExQ Q' W g o e
  | .mk op a b subs, g, o, h => by
    simp only [ExQ] at h ⊢
    obtain ⟨h0, h1, h2, h3, h4⟩ := h
    have up : ∀ {o : Nat} {v : Value}, w.cell? ⟨g, o, none⟩ = some v → W.cell? ⟨g, o, none⟩ = some v := fun h => (World.cell?_of_block (k.blk _ (cell_lt h) h0)).trans h
    refine ⟨hq _ (cell_lt h1) h0, up h1, up h2, up h3, ?_⟩
    rcases h4 with ⟨q, c, h5, h6⟩ | ⟨g', o', c, h5, h6, h7⟩
    · exact .inl ⟨q, c, up h5, h6⟩
    · exact .inr ⟨g', o', c, up h5, h6, ExRQ.kept k hq subs g' o' h7⟩
theorem ExRQ.kept {Q Q' : Nat → Prop} {w W : World} (k : Kp Q w W) (hq : ∀ j, j < w.heap.size → Q j → Q' j) : ∀ (es : List Ex) (g o : Nat), ExRQ Q w g o es → ExRQ Q' W g o es
  | [], _, _, _ => by simp [ExRQ]
  | e :: es, g, o, h => by
    simp only [ExRQ] at h ⊢
    exact ⟨ExQ.kept k hq e g o h.1, ExRQ.kept k hq es g (o + 4) h.2⟩
end
theorem SlQ.kept {Q Q' : Nat → Prop} {w W : World} {sl : Value} {es : List Ex} (h : SlQ Q w sl es) (k : Kp Q w W) (hq : ∀ j, j < w.heap.size → Q j → Q' j) : SlQ Q' W sl es := by
  rcases h with h | ⟨g, o, c, h1, h2, h3⟩
  · exact .inl h
  · exact .inr ⟨g, o, c, h1, h2, ExRQ.kept k hq es g o h3⟩
mutual
theorem ExQ.toE {Q : Nat → Prop} {w : World} : ∀ (e : Ex) (g o : Nat), ExQ Q w g o e → ExE w g o e
  | .mk op a b subs, g, o, h => by
    simp only [ExQ, ExE] at h ⊢
    obtain ⟨h0, h1, h2, h3, h4⟩ := h
    refine ⟨h1, h2, h3, ?_⟩
    rcases h4 with ⟨q, c, h5, h6⟩ | ⟨g', o', c, h5, h6, h7⟩
    · exact .inl ⟨q, c, h5, h6⟩
    · exact .inr ⟨g', o', c, h5, h6, ExRQ.toE subs g' o' h7⟩
theorem ExRQ.toE {Q : Nat → Prop} {w : World} : ∀ (es : List Ex) (g o : Nat), ExRQ Q w g o es → ExR w g o es
  | [], _, _, _ => by simp [ExR]
  | e :: es, g, o, h => by
    simp only [ExRQ, ExR] at h ⊢
    exact ⟨ExQ.toE e g o h.1, ExRQ.toE es g (o + 4) h.2⟩
end
theorem SlQ.toE {Q : Nat → Prop} {w : World} {sl : Value} {es : List Ex} (h : SlQ Q w sl es) : SlE w sl es := by
  rcases h with h | ⟨g, o, c, h1, h2, h3⟩
  · exact .inl h
  · exact .inr ⟨g, o, c, h1, h2, ExRQ.toE es g o h3⟩
theorem SlQ.form {Q : Nat → Prop} {w : World} {sl : Value} {es : List Ex} (h : SlQ Q w sl es) : ∃ q c, sl = .slice q es.length c := h.toE.form

def subsOf : Ex → List Ex | .mk _ _ _ subs => subs
def exC : Ex → Value → List Value | .mk op a b _, v => [.int .i64 op, .int .i64 a, .int .i64 b, v]
def flatX (es : List Ex) (vs : List Value) : List Value := (es.zip vs).flatMap fun p => exC p.1 p.2
theorem exC_len (e : Ex) (v : Value) : (exC e v).length = 4 := by cases e; rfl
theorem flatX_app (es : List Ex) (vs : List Value) (e : Ex) (v : Value) (h : vs.length = es.length) : flatX (es ++ [e]) (vs ++ [v]) = flatX es vs ++ exC e v := by
  unfold flatX
  rw [List.zip_append h.symm, List.flatMap_append]
  simp
theorem flatX_at : ∀ (es : List Ex) (vs : List Value) (k : Nat) (e : Ex) (v : Value), es[k]? = some e → vs[k]? = some v → ∀ i, i < 4 → (flatX es vs)[k * 4 + i]? = (exC e v)[i]?
  | [], _, _, _, _, h, _, _, _ => by simp at h
  | _ :: _, [], _, _, _, _, h, _, _ => by simp at h
  | x :: es, u :: vs, 0, e, v, h, h', i, hi => by
    simp at h h'; subst h h'
    unfold flatX
    rw [List.zip_cons_cons, List.flatMap_cons, List.getElem?_append_left (by simp only [exC_len]; omega)]
    simp
  | x :: es, u :: vs, k + 1, e, v, h, h', i, hi => by
    simp at h h'
    have := flatX_at es vs k e v h h' i hi
    unfold flatX at this ⊢
    rw [List.zip_cons_cons, List.flatMap_cons, List.getElem?_append_right (by simp only [exC_len]; omega)]
    simp only [exC_len]
    rw [← this]; congr 1; omega
/-- A row of expressions under construction. -/
def ExRow (B : Nat) (w : World) (sl : Value) (es : List Ex) : Prop := ∃ vs, vs.length = es.length ∧ w.ownsRow B 48 4 sl es.length (flatX es vs) ∧ ∀ p ∈ es.zip vs, SlQ (fun j => B ≤ j ∧ sl.ownBlock ≠ some j) w p.2 (subsOf p.1)
theorem ExRQ_of {Q : Nat → Prop} {w : World} {g : Nat} : ∀ (es : List Ex) (o : Nat), (∀ k e, es[k]? = some e → ExQ Q w g (o + k * 4) e) → ExRQ Q w g o es
  | [], _, _ => by simp [ExRQ]
  | e :: es, o, h => by
    simp only [ExRQ]
    refine ⟨by simpa using h 0 e rfl, ExRQ_of es (o + 4) fun k e' hk => ?_⟩
    have := h (k + 1) e' (by simpa using hk)
    rwa [show o + (k + 1) * 4 = o + 4 + k * 4 by omega] at this
theorem ExRow.toQ {B : Nat} {w : World} {sl : Value} {es : List Ex} (h : ExRow B w sl es) : SlQ (fun j => B ≤ j) w sl es := by
  obtain ⟨vs, v1, v2, v3⟩ := h
  by_cases h0 : es.length = 0
  · have he : es = [] := List.eq_nil_of_length_eq_zero h0
    subst he
    refine .inl ?_
    rcases v2.2 with ⟨e, _⟩ | ⟨g, cap, cur, e, _⟩
    · exact ⟨Option.none, 0, e, rfl⟩
    · exact ⟨_, cap, e, rfl⟩
  · obtain ⟨g, cap, rfl, hob⟩ := own_form v2 h0
    have hc : es.length ≤ cap := by
      rcases v2.2 with ⟨e, _⟩ | ⟨g', cap', cur, e, _, _, hc, _⟩
      · cases e
      · cases e; exact hc
    refine .inr ⟨g, 0, cap, rfl, hc, ExRQ_of es 0 fun k e hk => ?_⟩
    obtain ⟨hkl, _⟩ := List.getElem?_eq_some_iff.1 hk
    obtain ⟨v, hv⟩ : ∃ v, vs[k]? = some v := ⟨vs[k]'(by omega), by simp⟩
    obtain ⟨op, a, b, subs⟩ := e
    have cl : ∀ i y, i < 4 → (exC (.mk op a b subs) v)[i]? = some y → w.cell? ⟨g, 0 + k * 4 + i, none⟩ = some y := fun i y hi hy => by
      rw [Nat.zero_add]; exact own_at v2 _ _ (by rw [flatX_at _ _ _ _ _ hk hv i hi]; exact hy)
    have hm : (Ex.mk op a b subs, v) ∈ es.zip vs := List.mem_of_getElem? (i := k) ((List.getElem?_zip_eq_some (z := (_, v))).2 ⟨hk, hv⟩)
    rw [ExQ_iff]
    exact ⟨(own_blk v2 hob).1, cl 0 _ (by omega) rfl, cl 1 _ (by omega) rfl, cl 2 _ (by omega) rfl, v, cl 3 _ (by omega) rfl, (v3 _ hm).kept Kp.rfl' (fun _ _ h => h.1)⟩
theorem ExRow.step {B S5 : Nat} {wr w5 w1 : World} {c v : Value} {es : List Ex} {e : Ex} {vs : List Value} (h1 : vs.length = es.length) (h2 : wr.ownsRow B 48 4 c es.length (flatX es vs)) (h3 : ∀ p ∈ es.zip vs, SlQ (fun j => B ≤ j ∧ c.ownBlock ≠ some j) wr p.2 (subsOf p.1))
    (k5 : Kp (fun _ => True) wr w5) (hB : B ≤ S5) (hS : wr.heap.size ≤ S5) (ch : SlQ (fun j => S5 ≤ j) w5 v (subsOf e)) (o : Obj) (gg cap : Nat)
    (own1 : w1.ownsRow B 48 4 (.slice (some ⟨gg, 0, none⟩) (es.length + 1) cap) (es.length + 1) (flatX es vs ++ exC e v)) (hg : (w5.alloc o).grownBy w1 c.ownBlock) (hat : c.ownBlock = some gg ∨ gg = w5.heap.size + 1) :
    ExRow B w1 (.slice (some ⟨gg, 0, none⟩) (es.length + 1) cap) (es ++ [e]) ∧ Kp (fun k => k < B) wr w1 := by
  have k1 : Kp (fun k => some k ≠ c.ownBlock) w5 w1 := (Kp.alloc _ _).trans (Kp.grown hg (fun k hk => hk))
  have hob : (Value.slice (some ⟨gg, 0, none⟩) (es.length + 1) cap).ownBlock = some gg := rfl
  refine ⟨⟨vs ++ [v], by simp [h1], by rw [flatX_app _ _ _ _ h1]; simpa using own1, ?_⟩, ⟨SO.trans (k5.so) (k1.so), Nat.le_trans k5.size k1.size, fun k hk hb => ?_⟩⟩
  · intro p hp
    rw [List.zip_append h1.symm] at hp
    rcases List.mem_append.1 hp with hp | hp
    · have a := (h3 p hp).kept (Q' := fun j => B ≤ j ∧ c.ownBlock ≠ some j) (W := w5) ⟨⟨k5.so.os, k5.so.out⟩, k5.size, fun k hk _ => k5.blk k hk trivial⟩ (fun _ _ h => h)
      refine a.kept ⟨⟨k1.so.os, k1.so.out⟩, k1.size, fun k hk h => k1.blk k hk (fun e => h.2 e.symm)⟩ (fun j hj h => ⟨h.1, ?_⟩)
      rw [hob]
      intro e
      rcases hat with hat | hat
      · exact h.2 (hat.trans e)
      · cases e; omega
    · simp at hp; subst hp
      have hc : ∀ k, S5 ≤ k → some k ≠ c.ownBlock := fun k hk e => by have := (own_blk h2 e.symm).2.1; omega
      refine ch.kept ⟨⟨k1.so.os, k1.so.out⟩, k1.size, fun k hk h => k1.blk k hk (hc k h)⟩ (fun j hj h => ⟨Nat.le_trans hB h, ?_⟩)
      rw [hob]
      intro e
      rcases hat with hat | hat
      · exact hc j h (by rw [hat]; exact e.symm)
      · cases e; omega
  · have : some k ≠ c.ownBlock := fun e => by have := (own_blk h2 e.symm).1; omega
    exact (k1.blk k (Nat.lt_of_lt_of_le hk k5.size) this).trans (k5.blk k hk trivial)
theorem ExRow.nil (B : Nat) (w : World) : ExRow B w (.slice none 0 0) [] := ⟨[], rfl, ⟨rfl, .inl ⟨rfl, rfl⟩⟩, by simp⟩
theorem ExRow.kept {B : Nat} {w W : World} {sl : Value} {es : List Ex} (h : ExRow B w sl es) (k : Kp (fun _ => True) w W) : ExRow B W sl es := by
  obtain ⟨vs, v1, v2, v3⟩ := h
  exact ⟨vs, v1, own_kept' v2 (fun j hj => k.blk j (own_blk v2 hj).2.1 trivial), fun p hp => (v3 p hp).kept ⟨⟨k.so.os, k.so.out⟩, k.size, fun j hj _ => k.blk j hj trivial⟩ (fun _ _ h => h)⟩
theorem info48 : (Tryz.prog.info? 48).map (fun i => (i.zero, i.size, i.bytes)) = some (some (.agg #[.int .i64 0, .int .i64 0, .int .i64 0, .slice none 0 0]), 4, 48) := by kernel_rfl

mutual
/-- No slice is longer than a machine's memory. -/
def Sm : Ex → Prop | .mk _ _ _ subs => subs.length ≤ 2932031007402 ∧ SmL subs
def SmL : List Ex → Prop | [] => True | e :: es => Sm e ∧ SmL es
end
theorem SmL.get : ∀ (es : List Ex) (k : Nat) (e : Ex), SmL es → es[k]? = some e → Sm e
  | [], _, _, _, h => by simp at h
  | x :: es, 0, e, h, hk => by simp at hk; subst hk; simp only [SmL] at h; exact h.1
  | x :: es, k + 1, e, h, hk => by simp only [SmL] at h; exact SmL.get es k e h.2 (by simpa using hk)
end Go.Proofs
end
section
namespace Go.Proofs
open Go.RowKit
open Pl
def ConvRet (w : World) (op a b : Int) (subs : List Ex) (e : Ending) (w' : World) : Prop := ∃ q c, e = .returned (.agg #[.int .i64 op, .int .i64 a, .int .i64 b, .slice q subs.length c]) ∧ SlQ (fun j => w.heap.size ≤ j) w' (.slice q subs.length c) subs ∧ Kp (fun _ => True) w w'
def LpE (wA : World) (ob : Nat) (op a b : Int) (subs : List Ex) (t16 : Value) (wr : World) : Prop := ∃ (k : Nat) (c : Value), t16 = .int .i64 k ∧ k ≤ subs.length ∧ Blk wr ob 48 #[.int .i64 op, .int .i64 a, .int .i64 b, c] ∧ ExRow wA.heap.size wr c (subs.take k) ∧ Kp (fun j => j < wA.heap.size ∧ j ≠ ob) wA wr
theorem ExRow.keptB {B : Nat} {w W : World} {sl : Value} {es : List Ex} (h : ExRow B w sl es) (k : Kp (fun j => B ≤ j) w W) : ExRow B W sl es := by
  obtain ⟨vs, v1, v2, v3⟩ := h
  exact ⟨vs, v1, own_kept' v2 (fun j hj => k.blk j (own_blk v2 hj).2.1 (own_blk v2 hj).1), fun p hp => (v3 p hp).kept ⟨⟨k.so.os, k.so.out⟩, k.size, fun j hj h => k.blk j hj h.1⟩ (fun _ _ h => h)⟩
theorem LpE.step {wA wN w1 : World} {ob k gg cap m : Nat} {op a b : Int} {subs : List Ex} {x : Ex} {t : Value} (hx : subs[k]? = some x) (ht : t = .int .i64 ((k : Int) + 1)) (hob : ob < wA.heap.size)
    (st : ExRow wA.heap.size w1 (.slice (some ⟨gg, 0, none⟩) ((subs.take k).length + 1) cap) (subs.take k ++ [x]) ∧ Kp (fun j => j < wA.heap.size) wN w1) (hk : Kp (fun j => j < wA.heap.size ∧ j ≠ ob) wA wN) (hm : (subs.take k).length = m) {c : Value} (b1 : Blk w1 ob 48 #[.int .i64 op, .int .i64 a, .int .i64 b, c]) :
    LpE wA ob op a b subs t (w1.setCell ⟨ob, 3, none⟩ (.slice (some ⟨gg, 0, none⟩) (m + 1) cap)) := by
  subst hm
  obtain ⟨h1, _⟩ := List.getElem?_eq_some_iff.1 hx
  have et : subs.take (k + 1) = subs.take k ++ [x] := by rw [List.take_add_one, hx]; rfl
  refine ⟨k + 1, _, by rw [ht]; simp, by omega, b1.set 3 _ _ rfl, ?_, ?_⟩
  · rw [et]
    exact st.1.keptB (Kp.setCell _ _ _ (by simp; omega))
  · refine ⟨SO.trans (hk.so) (SO.trans (st.2.so) (⟨rfl, rfl⟩)), Nat.le_trans hk.size (Nat.le_trans st.2.size (by simp)), fun j hj hp => ?_⟩
    exact (heap_setCell_other w1 ⟨ob, 3, none⟩ j _ hp.2).trans ((st.2.blk j (Nat.lt_of_lt_of_le hj hk.size) hp.1).trans (hk.blk j hj hp))

set_option maxRecDepth 100000 in
set_option maxHeartbeats 4000000 in
theorem conv_any : ∀ n, ∀ (op a b : Int) (subs : List Ex), szE (.mk op a b subs) ≤ n → Sm (.mk op a b subs) → ∀ (w : World) (sl : Value), SlE w sl subs →
    Calls Tryz.prog 12 #[exV op a b sl] w fun e w' => ConvRet w op a b subs e w' := by
  intro n
  induction n with
  | zero => intro op a b subs h; exact absurd (szE_pos (.mk op a b subs)) (by omega)
  | succ n ih =>
    intro op a b subs hn hsm w sl hs
    have IH := Lib.hid ih
    clear ih
    have hsz : szL subs ≤ n := by simp only [szE] at hn; omega
    clear hn
    simp only [Sm] at hsm
    obtain ⟨hsl, hsm⟩ := hsm
    have HSM := Lib.hid hsm
    clear hsm
    have HS : Hid (SlE w sl subs) := Lib.hid hs
    obtain ⟨sq, sc, rfl⟩ := hs.form
    clear hs
    unfold exV
    have kA : Kp (fun _ => True) w (((w.alloc (.cells #[.int .i64 op, .int .i64 a, .int .i64 b, .slice sq subs.length sc] 46)).alloc (.cells #[.int .i64 0, .int .i64 0, .int .i64 0, .slice none 0 0] 48)).alloc (.cells #[.int .i64 op, .int .i64 a, .int .i64 b, .slice none 0 0] 48)) :=
      ((Kp.alloc _ _).trans (Kp.alloc _ _)).trans (Kp.alloc _ _)
    have b1 : Blk (((w.alloc (.cells #[.int .i64 op, .int .i64 a, .int .i64 b, .slice sq subs.length sc] 46)).alloc (.cells #[.int .i64 0, .int .i64 0, .int .i64 0, .slice none 0 0] 48)).alloc (.cells #[.int .i64 op, .int .i64 a, .int .i64 b, .slice none 0 0] 48)) (w.heap.size + 1) 48 #[.int .i64 0, .int .i64 0, .int .i64 0, .slice none 0 0] :=
      Blk.kept (heap_new2 w _ _) (Below.heap_alloc _ _ _ (by simp))
    have b2 : Blk (((w.alloc (.cells #[.int .i64 op, .int .i64 a, .int .i64 b, .slice sq subs.length sc] 46)).alloc (.cells #[.int .i64 0, .int .i64 0, .int .i64 0, .slice none 0 0] 48)).alloc (.cells #[.int .i64 op, .int .i64 a, .int .i64 b, .slice none 0 0] 48)) (w.heap.size + 1 + 1) 48 #[.int .i64 op, .int .i64 a, .int .i64 b, .slice none 0 0] := by
      have := Blk.new ((w.alloc (.cells #[.int .i64 op, .int .i64 a, .int .i64 b, .slice sq subs.length sc] 46)).alloc (.cells #[.int .i64 0, .int .i64 0, .int .i64 0, .slice none 0 0] 48)) 48 #[.int .i64 op, .int .i64 a, .int .i64 b, .slice none 0 0]
      simpa using this
    go_enter Tryz.func12, Tryz.ntmps12
    go_wp2_with fail
    obtain ⟨rb, hrb⟩ : ∃ rb, rb = w.heap.size + 1 := ⟨_, rfl⟩
    obtain ⟨ob, hob⟩ : ∃ ob, ob = w.heap.size + 1 + 1 := ⟨_, rfl⟩
    rw [← hob] at b2 ⊢
    rw [← hrb] at b1 ⊢
    generalize ((w.alloc (.cells #[.int .i64 op, .int .i64 a, .int .i64 b, .slice sq subs.length sc] 46)).alloc (.cells #[.int .i64 0, .int .i64 0, .int .i64 0, .slice none 0 0] 48)).alloc (.cells #[.int .i64 op, .int .i64 a, .int .i64 b, .slice none 0 0] 48) = wA at kA b1 b2 ⊢
    have KA := Lib.hid kA
    have RB := Lib.hid b1
    have OB := Lib.hid b2
    have HRB := Lib.hid hrb
    have HOB := Lib.hid hob
    have lob : ob < wA.heap.size := b2.lt
    clear kA b1 b2 hrb hob
    go_loopw [16] (fun t16 wr => LpE wA ob op a b subs t16 wr) (fun t16 _ => subs.length - (intOf t16).toNat)
    case atStart => exact ⟨0, .slice none 0 0, rfl, Nat.zero_le _, OB.out, ExRow.nil _ _, Kp.rfl'⟩
    case round =>
      obtain ⟨k, c, rfl, hk, bo, row, kx⟩ := hrel
      have kw : Kp (fun _ => True) w wr := ⟨SO.trans (KA.out.so) (kx.so), Nat.le_trans KA.out.size kx.size, fun j hj _ => (kx.blk j (Nat.lt_of_lt_of_le hj KA.out.size) ⟨Nat.lt_of_lt_of_le hj KA.out.size, by rw [HOB.out]; omega⟩).trans (KA.out.blk j hj trivial)⟩
      by_cases hkn : k < subs.length
      · have hkn' : (k : Int) < (subs.length : Int) := by omega
        obtain ⟨⟨op', a', b', s'⟩, hx⟩ : ∃ e, subs[k]? = some e := ⟨subs[k]'hkn, by simp⟩
        rcases HS.out.up kw with ⟨q, c', h1, h2⟩ | ⟨g, o, c', h1, h2, h3⟩
        · subst h2; simp at hkn
        cases h1
        obtain ⟨sl', E⟩ := h3.el hx
        obtain ⟨sq', sc', rfl⟩ := E.sub.form
        have e0 := E.e0
        have e1 := E.e1
        have e2 := E.e2
        have e3 := E.e3
        have SB := Lib.hid E.sub
        have HZ := Lib.hid (Nat.le_trans (szL_get _ _ _ hx) hsz)
        have HM := Lib.hid (SmL.get _ _ _ HSM.out hx)
        have HX := Lib.hid hx
        have BO := Lib.hid bo
        have ROW := Lib.hid row
        have KX := Lib.hid kx
        have hcc : (k : Int) ≤ (sc : Int) := by omega
        clear E h3 hx kx kw bo row
        go_upto_region 5 with fail
        have km : Kp (fun _ => True) wr (wr.alloc (.cells #[.int .i64 op', .int .i64 a', .int .i64 b', .slice sq' s'.length sc'] 46)) := Kp.alloc _ _
        have bn := Blk.new wr 46 #[.int .i64 op', .int .i64 a', .int .i64 b', .slice sq' s'.length sc']
        have SB2 := Lib.hid (SB.out.up km)
        have BO2 := Lib.hid (BO.out.kept (km.blk _ BO.out.lt trivial))
        have ROW2 := Lib.hid (ROW.out.kept km)
        obtain ⟨nb, hnb⟩ : ∃ nb, nb = wr.heap.size := ⟨_, rfl⟩
        rw [← hnb] at bn ⊢
        generalize wr.alloc (.cells #[.int .i64 op', .int .i64 a', .int .i64 b', .slice sq' s'.length sc'] 46) = wN at km bn SB2 BO2 ROW2 ⊢
        have n0 : wN.cell? ⟨nb, 0, none⟩ = some (.int .i64 op') := bn.cell 0
        have n1 : wN.cell? ⟨nb, 1, none⟩ = some (.int .i64 a') := bn.cell 1
        have n2 : wN.cell? ⟨nb, 2, none⟩ = some (.int .i64 b') := bn.cell 2
        have n3 : wN.cell? ⟨nb, 3, none⟩ = some (.slice sq' s'.length sc') := bn.cell 3
        have c3 : wN.cell? ⟨ob, 3, none⟩ = some c := BO2.out.cell 3
        have f3 : wN.frozen? ⟨ob, 3, none⟩ = false := BO2.out.free 3
        have KN : Hid (Kp (fun j => j < wA.heap.size ∧ j ≠ ob) wA wN) := Lib.hid (KX.out.trans (km.weak (fun _ _ => trivial)))
        have lAN : wA.heap.size ≤ wN.heap.size := KN.out.size
        have BN := Lib.hid bn
        obtain ⟨vs, v1, v2, v3⟩ := ROW2.out
        have hlen : (subs.take k).length = k := by simp; omega
        have V2 := Lib.hid v2
        have V3 := Lib.hid v3
        clear km bn hnb e0 e1 e2 e3 v2 v3
        obtain ⟨i4, hi4, hy0, hy1, hy2⟩ := info_parts info48
        go_region_law (first | (refine step_append_lies _ (by rfl) _ _ _ (by rfl) wA.heap.size 48 i4 _ 4 48 Tryz.underlying24 hi4 hy0 hy1 hy2 rfl (by omega) c (subs.take k).length (flatX (subs.take k) vs) (by rfl) (O5.out.alloc _) ⟨w5.heap.size, 0, none⟩ 1 1 (exC (.mk op' a' b' s') (.slice cq s'.length cc)) (by rfl) (by rfl) (World.news_of_block (cs := #[.int .i64 op', .int .i64 a', .int .i64 b', .slice cq s'.length cc]) (t := 48) (fr := (0, 0)) (heap_alloc_new w5 _)) (by simp [Value.oneCell', exC]) (by omega) (by simp [maxLen]; omega) (by omega) (by simp; omega) (w5.heap.size + 1) (by simp) ?_; intro gg cap1 w1 hown1 hgrow hat hlt; have ST := Lib.hid (ExRow.step (e := .mk op' a' b' s') v1 V2.out V3.out K5.out lAN (Nat.le_refl _) HC.out _ gg cap1 hown1 hgrow hat); have B1 := BO2.out.kept (ST.out.2.blk ob BO2.out.lt lob); have c31 := B1.cell 3; have f31 := B1.free 3; have HB1 := Lib.hid B1; clear hown1 hgrow hat hlt B1) | (go_simp; go_at_call 12; refine (IH.out op' a' b' s' HZ.out HM.out _ _ (SB2.out.up (Kp.drew wN))).mono ?_; rintro e w5 ⟨cq, cc, rfl, hcq, kp5⟩; have K5 : Hid (Kp (fun _ => True) wN w5) := Lib.hid ((Kp.drew wN).trans kp5); have B5 := BO2.out.kept (K5.out.blk _ BO2.out.lt trivial); have c35 : w5.cell? ⟨ob, 3, none⟩ = some c := B5.cell 3; have f35 := B5.free 3; have l5 : ob < w5.heap.size := B5.lt; have lN5 : wN.heap.size ≤ w5.heap.size := K5.out.size; have O5 : Hid (w5.ownsRow wA.heap.size 48 4 c (subs.take k).length (flatX (subs.take k) vs)) := Lib.hid (own_kept' V2.out (fun k hk => K5.out.blk k (own_blk V2.out hk).2.1 trivial)); have HC : Hid (SlQ (fun j => wN.heap.size ≤ j) w5 (.slice cq s'.length cc) s') := Lib.hid hcq; clear hcq kp5 B5))
        all_goals go_wp2_with fail
        all_goals exact ⟨LpE.step HX.out rfl lob ST.out KN.out hlen HB1.out, by simp [intOf]; omega⟩
      · have hkn' : ¬ (k : Int) < (subs.length : Int) := by omega
        have hke : k = subs.length := by omega
        subst hke
        rw [List.take_of_length_le (Nat.le_refl _)] at row
        have hq := row.toQ
        obtain ⟨cq, cc, rfl⟩ := hq.form
        have rbne : ¬ rb = ob := by rw [HRB.out, HOB.out]; omega
        have lrb : rb < wA.heap.size := RB.out.lt
        have br := RB.out.kept (kx.blk rb RB.out.lt ⟨lrb, rbne⟩)
        have r0 : wr.frozen? ⟨rb, 0, none⟩ = false := br.free 0
        have r1 : wr.frozen? ⟨rb, 1, none⟩ = false := br.free 1
        have r2 : wr.frozen? ⟨rb, 2, none⟩ = false := br.free 2
        have r3 : wr.frozen? ⟨rb, 3, none⟩ = false := br.free 3
        have q0 : (wr.cell? ⟨rb, 0, none⟩) = some (.int .i64 0) := br.cell 0
        have q1 : (wr.cell? ⟨rb, 1, none⟩) = some (.int .i64 0) := br.cell 1
        have q2 : (wr.cell? ⟨rb, 2, none⟩) = some (.int .i64 0) := br.cell 2
        have q3 : (wr.cell? ⟨rb, 3, none⟩) = some (.slice Option.none 0 0) := br.cell 3
        have d0 : (wr.cell? ⟨ob, 0, none⟩) = some (.int .i64 op) := bo.cell 0
        have d1 : (wr.cell? ⟨ob, 1, none⟩) = some (.int .i64 a) := bo.cell 1
        have d2 : (wr.cell? ⟨ob, 2, none⟩) = some (.int .i64 b) := bo.cell 2
        have d3 : (wr.cell? ⟨ob, 3, none⟩) = some (.slice cq subs.length cc) := bo.cell 3
        have HQ := Lib.hid hq
        have KW := Lib.hid kw
        have BR := Lib.hid br
        clear hq kw br row kx bo
        go_wp2_with fail
        have b6 := (((BR.out.set 0 (.int .i64 op) _ rfl).set 1 (.int .i64 a) _ rfl).set 2 (.int .i64 b) _ rfl).set 3 (.slice cq subs.length cc) #[.int .i64 op, .int .i64 a, .int .i64 b, .slice cq subs.length cc] rfl
        have hne : ¬ rb < w.heap.size := by rw [HRB.out]; omega
        have hnB : ¬ wA.heap.size ≤ rb := by omega
        have kz : Kp (fun j => j < w.heap.size) wr ((((wr.setCell ⟨rb, 0, none⟩ (.int .i64 op)).setCell ⟨rb, 1, none⟩ (.int .i64 a)).setCell ⟨rb, 2, none⟩ (.int .i64 b)).setCell ⟨rb, 3, none⟩ (.slice cq subs.length cc)) :=
          (((Kp.setCell _ _ _ hne).trans (Kp.setCell _ _ _ hne)).trans (Kp.setCell _ _ _ hne)).trans (Kp.setCell _ _ _ hne)
        have kB : Kp (fun j => wA.heap.size ≤ j) wr ((((wr.setCell ⟨rb, 0, none⟩ (.int .i64 op)).setCell ⟨rb, 1, none⟩ (.int .i64 a)).setCell ⟨rb, 2, none⟩ (.int .i64 b)).setCell ⟨rb, 3, none⟩ (.slice cq subs.length cc)) :=
          (((Kp.setCell _ _ _ hnB).trans (Kp.setCell _ _ _ hnB)).trans (Kp.setCell _ _ _ hnB)).trans (Kp.setCell _ _ _ hnB)
        have HQ2 := Lib.hid (HQ.out.kept kB (Q' := fun j => w.heap.size ≤ j) (fun j _ h => Nat.le_trans KA.out.size h))
        have KF : Hid (Kp (fun _ => True) w ((((wr.setCell ⟨rb, 0, none⟩ (.int .i64 op)).setCell ⟨rb, 1, none⟩ (.int .i64 a)).setCell ⟨rb, 2, none⟩ (.int .i64 b)).setCell ⟨rb, 3, none⟩ (.slice cq subs.length cc))) :=
          Lib.hid ⟨SO.trans (KW.out.so) (kz.so), Nat.le_trans KW.out.size kz.size, fun j hj _ => (kz.blk j (Nat.lt_of_lt_of_le hj KW.out.size) hj).trans (KW.out.blk j hj trivial)⟩
        generalize (((wr.setCell ⟨rb, 0, none⟩ (.int .i64 op)).setCell ⟨rb, 1, none⟩ (.int .i64 a)).setCell ⟨rb, 2, none⟩ (.int .i64 b)).setCell ⟨rb, 3, none⟩ (.slice cq subs.length cc) = wZ at b6 HQ2 KF ⊢
        have b6c := b6.cell
        refine bodyPost_ret (v := .agg #[.int .i64 op, .int .i64 a, .int .i64 b, .slice cq subs.length cc]) ?_ rfl ⟨cq, cc, rfl, HQ2.out, KF.out⟩
        simp [results, Tryz.results12, go_sem, b6c]
end Go.Proofs
end
section
namespace Go.Proofs
open Go.RowKit
open Pl
def RulRet (w : World) (es : List Ex) (e : Ending) (w' : World) : Prop := ∃ rb rc, e = .returned (.slice (some ⟨rb, 0, none⟩) es.length rc) ∧ SlE w' (.slice (some ⟨rb, 0, none⟩) es.length rc) es ∧ Kp (fun _ => True) w w'
def LpRu (w : World) (es : List Ex) (t3 t9 : Value) (wr : World) : Prop := ∃ k g c : Nat, t9 = .int .i64 k ∧ t3 = .slice (some ⟨g, 0, none⟩) k c ∧ k ≤ es.length ∧ ExRow w.heap.size wr (.slice (some ⟨g, 0, none⟩) k c) (es.take k) ∧ Kp (fun _ => True) w wr
theorem ExRow.nil0 (w : World) : ExRow w.heap.size (w.alloc (.cells #[] 48)) (.slice (some ⟨w.heap.size, 0, none⟩) 0 0) [] :=
  ⟨[], rfl, ⟨rfl, .inr ⟨w.heap.size, 0, #[], rfl, Nat.le_refl _, heap_alloc_new w _, Nat.le_refl _, by simp [maxLen], rfl, rfl⟩⟩, by simp⟩
theorem LpRu.step {w wN w1 : World} {es : List Ex} {k gg cap m : Nat} {x : Ex} {t : Value} (hx : es[k]? = some x) (ht : t = .int .i64 ((k : Int) + 1)) (hm : (es.take k).length = m)
    (st : ExRow w.heap.size w1 (.slice (some ⟨gg, 0, none⟩) ((es.take k).length + 1) cap) (es.take k ++ [x]) ∧ Kp (fun j => j < w.heap.size) wN w1) (hk : Kp (fun _ => True) w wN) :
    LpRu w es (.slice (some ⟨gg, 0, none⟩) (m + 1) cap) t w1 := by
  subst hm
  obtain ⟨h1, _⟩ := List.getElem?_eq_some_iff.1 hx
  have et : es.take (k + 1) = es.take k ++ [x] := by rw [List.take_add_one, hx]; rfl
  have hl : (es.take k).length = k := by simp; omega
  refine ⟨k + 1, gg, cap, by rw [ht]; simp, by rw [hl], by omega, by rw [et, ← hl]; simpa [hl] using st.1, ⟨SO.trans (hk.so) (st.2.so), Nat.le_trans hk.size st.2.size, fun j hj _ => (st.2.blk j (Nat.lt_of_lt_of_le hj hk.size) hj).trans (hk.blk j hj trivial)⟩⟩

set_option maxRecDepth 100000 in
set_option maxHeartbeats 4000000 in
theorem rules_any {w : World} {la : Option Addr} {ln lc : Nat} {es : List Ex} (hs : SlE w (.slice la ln lc) es) (hl : es.length ≤ 4) (hsm : SmL es) :
    Calls Tryz.prog 5 #[.slice la ln lc] w fun e w' => RulRet w es e w' := by
  obtain ⟨sq, sc, he⟩ := hs.form
  cases he
  have HS := Lib.hid hs
  have HSM := Lib.hid hsm
  clear hs hsm
  go_enter Tryz.func5, Tryz.ntmps5
  go_wp2_with fail
  go_loopw [3, 9] (fun t3 t9 wr => LpRu w es t3 t9 wr) (fun _ t9 _ => es.length - (intOf t9).toNat)
  case atStart => exact ⟨0, w.heap.size, 0, rfl, rfl, Nat.zero_le _, ExRow.nil0 w, Kp.alloc _ _⟩
  case round =>
    obtain ⟨k, g, c, rfl, rfl, hk, row, kx⟩ := hrel
    by_cases hkn : k < es.length
    · have hkn' : (k : Int) < (es.length : Int) := by omega
      obtain ⟨⟨op', a', b', s'⟩, hx⟩ : ∃ e, es[k]? = some e := ⟨es[k]'hkn, by simp⟩
      rcases HS.out.up kx with ⟨q, c', h1, h2⟩ | ⟨g1, o, c', h1, h2, h3⟩
      · subst h2; simp at hkn
      cases h1
      obtain ⟨sl', E⟩ := h3.el hx
      obtain ⟨sq', sc', rfl⟩ := E.sub.form
      have e0 := E.e0
      have e1 := E.e1
      have e2 := E.e2
      have e3 := E.e3
      have SB := Lib.hid E.sub
      have HM := Lib.hid (SmL.get _ _ _ HSM.out hx)
      have HX := Lib.hid hx
      have KX := Lib.hid kx
      have hcc : (k : Int) ≤ (lc : Int) := by omega
      obtain ⟨vs, v1, v2, v3⟩ := row
      have hlen : (es.take k).length = k := by simp; omega
      have V2 := Lib.hid v2
      have V3 := Lib.hid v3
      have lw : w.heap.size ≤ wr.heap.size := kx.size
      obtain ⟨i4, hi4, hy0, hy1, hy2⟩ := info_parts info48
      clear E h3 hx kx v2 v3
      go_wp2_with (first | (go_at_call 12; refine (conv_any _ op' a' b' s' (Nat.le_refl _) HM.out _ _ (SB.out.up (Kp.alloc _ _))).mono ?_; rintro e w5 ⟨cq, cc, rfl, hcq, kp5⟩; have K5 : Hid (Kp (fun _ => True) wr w5) := Lib.hid ((Kp.alloc _ _).trans kp5); have O5 : Hid (w5.ownsRow w.heap.size 48 4 (.slice (some ⟨g, 0, none⟩) k c) (es.take k).length (flatX (es.take k) vs)) := Lib.hid (own_kept' V2.out (fun k hk => K5.out.blk k (own_blk V2.out hk).2.1 trivial)); have HC : Hid (SlQ (fun j => wr.heap.size ≤ j) w5 (.slice cq s'.length cc) s') := Lib.hid (hcq.kept Kp.rfl' (fun _ _ h => Nat.le_trans (by simp) h)); have l5 : wr.heap.size ≤ w5.heap.size := K5.out.size; clear hcq kp5) | (at_builtin; refine wpList_append_lies _ rfl _ _ 24 rfl w.heap.size 48 i4 _ 4 48 Tryz.underlying24 hi4 hy0 hy1 hy2 rfl (by omega) (.slice (some ⟨g, 0, none⟩) k c) (es.take k).length (flatX (es.take k) vs) rfl (O5.out.alloc _) ⟨w5.heap.size, 0, none⟩ 1 1 (exC (.mk op' a' b' s') (.slice cq s'.length cc)) rfl rfl (World.news_of_block (cs := #[.int .i64 op', .int .i64 a', .int .i64 b', .slice cq s'.length cc]) (t := 48) (fr := (0, 0)) (heap_alloc_new w5 _)) (by simp [Value.oneCell', exC]) (by omega) (by simp [maxLen]; omega) (by omega) (by simp; omega) (w5.heap.size + 1) (by simp) ?_; intro gg cap1 w1 hown1 hgrow hat hlt; have ST := Lib.hid (ExRow.step (e := .mk op' a' b' s') v1 V2.out V3.out K5.out lw (Nat.le_refl _) HC.out _ gg cap1 hown1 hgrow hat); clear hown1 hgrow hat hlt))
      all_goals exact ⟨LpRu.step HX.out rfl hlen ST.out KX.out, by simp [intOf]; omega⟩
    · have hkn' : ¬ (k : Int) < (es.length : Int) := by omega
      have hke : k = es.length := by omega
      subst hke
      rw [List.take_of_length_le (Nat.le_refl _)] at row
      have HQ := Lib.hid row.toQ
      have KX := Lib.hid kx
      clear row kx
      go_wp2_with fail
      go_ret
      exact ⟨_, _, rfl, HQ.out.toE, KX.out⟩
end Go.Proofs
end
