/- A part of the proof of the statement on the law FnStates, which the last text proves: part G17. -/
import Derived.Test.YtlceacefhnllbaaGreatDoorP8
import Derived.Test.YtlceacefhnllbaaGreatDoorG16
set_option linter.all false
section
namespace Go.Proofs
open Go.RowKit
open Pl
/-! ## expressions in memory -/
mutual
def ExE (w : World) (g o : Nat) : Ex → Prop
  | .mk op a b subs => w.cell? ⟨g, o, none⟩ = some (.int .i64 op) ∧ w.cell? ⟨g, o + 1, none⟩ = some (.int .i64 a) ∧ w.cell? ⟨g, o + 2, none⟩ = some (.int .i64 b) ∧
      ((∃ q c, w.cell? ⟨g, o + 3, none⟩ = some (.slice q 0 c) ∧ subs = []) ∨ ∃ g' o' c, w.cell? ⟨g, o + 3, none⟩ = some (.slice (some ⟨g', o', none⟩) subs.length c) ∧ subs.length ≤ c ∧ ExR w g' o' subs)
def ExR (w : World) (g o : Nat) : List Ex → Prop
  | [] => True
  | e :: es => ExE w g o e ∧ ExR w g (o + 4) es
end
/-- A slice of expressions. -/
def SlE (w : World) (sl : Value) (es : List Ex) : Prop := (∃ q c, sl = .slice q 0 c ∧ es = []) ∨ ∃ g o c, sl = .slice (some ⟨g, o, none⟩) es.length c ∧ es.length ≤ c ∧ ExR w g o es
def exV (op a b : Int) (sl : Value) : Value := .agg #[.int .i64 op, .int .i64 a, .int .i64 b, sl]
theorem ExE_iff (w : World) (g o : Nat) (op a b : Int) (subs : List Ex) : ExE w g o (.mk op a b subs) ↔ w.cell? ⟨g, o, none⟩ = some (.int .i64 op) ∧ w.cell? ⟨g, o + 1, none⟩ = some (.int .i64 a) ∧ w.cell? ⟨g, o + 2, none⟩ = some (.int .i64 b) ∧ ∃ sl, w.cell? ⟨g, o + 3, none⟩ = some sl ∧ SlE w sl subs := by
  simp only [ExE, SlE]
  refine and_congr_right fun _ => and_congr_right fun _ => and_congr_right fun _ => ⟨fun h => ?_, fun h => ?_⟩
  · rcases h with ⟨q, c, h1, h2⟩ | ⟨g', o', c, h1, h2⟩
    · exact ⟨_, h1, .inl ⟨q, c, rfl, h2⟩⟩
    · exact ⟨_, h1, .inr ⟨g', o', c, rfl, h2⟩⟩
  · obtain ⟨sl, h0, ⟨q, c, rfl, h2⟩ | ⟨g', o', c, rfl, h2⟩⟩ := h
    · exact .inl ⟨q, c, h0, h2⟩
    · exact .inr ⟨g', o', c, h0, h2⟩
mutual
theorem ExE.up {w W : World} (k : Kp (fun _ => True) w W) : ∀ (e : Ex) (g o : Nat), ExE w g o e → ExE W g o e
  | .mk op a b subs, g, o, h => by
    simp only [ExE] at h ⊢
    have up : ∀ {b o : Nat} {v : Value}, w.cell? ⟨b, o, none⟩ = some v → W.cell? ⟨b, o, none⟩ = some v := fun h => (World.cell?_of_block (k.blk _ (cell_lt h) trivial)).trans h
    obtain ⟨h1, h2, h3, h4⟩ := h
    refine ⟨up h1, up h2, up h3, ?_⟩
    rcases h4 with ⟨q, c, h5, h6⟩ | ⟨g', o', c, h5, h6, h7⟩
    · exact .inl ⟨q, c, up h5, h6⟩
    · exact .inr ⟨g', o', c, up h5, h6, ExR.up k subs g' o' h7⟩
theorem ExR.up {w W : World} (k : Kp (fun _ => True) w W) : ∀ (es : List Ex) (g o : Nat), ExR w g o es → ExR W g o es
  | [], _, _, _ => by simp [ExR]
  | e :: es, g, o, h => by
    simp only [ExR] at h ⊢
    exact ⟨ExE.up k e g o h.1, ExR.up k es g (o + 4) h.2⟩
end
theorem SlE.up {w W : World} {sl : Value} {es : List Ex} (h : SlE w sl es) (k : Kp (fun _ => True) w W) : SlE W sl es := by
  rcases h with h | ⟨g, o, c, h1, h2, h3⟩
  · exact .inl h
  · exact .inr ⟨g, o, c, h1, h2, ExR.up k es g o h3⟩
theorem ExR.get {w : World} : ∀ (es : List Ex) (g o k : Nat) (e : Ex), ExR w g o es → es[k]? = some e → ExE w g (o + k * 4) e
  | [], _, _, _, _, _, h => by simp at h
  | x :: es, g, o, 0, e, h, hk => by
    simp only [ExR] at h
    simp at hk; subst hk
    simpa using h.1
  | x :: es, g, o, k + 1, e, h, hk => by
    simp only [ExR] at h
    have := ExR.get es g (o + 4) k e h.2 (by simpa using hk)
    rw [show o + (k + 1) * 4 = o + 4 + k * 4 by omega]
    exact this
/-- An element of a slice. -/
structure ElE (w : World) (g o k : Nat) (op a b : Int) (sl : Value) (subs : List Ex) : Prop where
  e0 : w.cell? ⟨g, o + k * 4, none⟩ = some (.int .i64 op)
  e1 : w.cell? ⟨g, o + k * 4 + 1, none⟩ = some (.int .i64 a)
  e2 : w.cell? ⟨g, o + k * 4 + 2, none⟩ = some (.int .i64 b)
  e3 : w.cell? ⟨g, o + k * 4 + 3, none⟩ = some sl
  sub : SlE w sl subs
theorem ExR.el {w : World} {es : List Ex} {g o k : Nat} {op a b : Int} {subs : List Ex} (h : ExR w g o es) (hk : es[k]? = some (.mk op a b subs)) : ∃ sl, ElE w g o k op a b sl subs := by
  obtain ⟨h0, h1, h2, sl, h3, h4⟩ := (ExE_iff _ _ _ _ _ _ _).1 (ExR.get es g o k _ h hk)
  exact ⟨sl, h0, h1, h2, h3, h4⟩
theorem SlE.form {w : World} {sl : Value} {es : List Ex} (h : SlE w sl es) : ∃ q c, sl = .slice q es.length c := by
  rcases h with ⟨q, c, h1, h2⟩ | ⟨g, o, c, h1, h2, h3⟩
  · subst h2; exact ⟨q, c, h1⟩
  · exact ⟨_, c, h1⟩
theorem szE_pos (e : Ex) : 1 ≤ szE e := by cases e; simp [szE]
theorem szL_get : ∀ (es : List Ex) (k : Nat) (e : Ex), es[k]? = some e → szE e ≤ szL es
  | [], _, _, h => by simp at h
  | x :: es, 0, e, h => by simp at h; subst h; simp [szL]
  | x :: es, k + 1, e, h => by have := szL_get es k e (by simpa using h); simp only [szL]; omega
theorem lgL_take : ∀ (es : List Ex) (k : Nat) (e : Ex) (d : Nat), es[k]? = some e → lgL (es.take k) d = true → lgE e d = true → lgL (es.take (k + 1)) d = true
  | [], _, _, _, h, _, _ => by simp at h
  | x :: es, 0, e, d, h, _, h2 => by simp at h; subst h; simp [lgL, h2]
  | x :: es, k + 1, e, d, h, h1, h2 => by
    simp only [List.take_succ_cons, lgL, Bool.and_eq_true] at h1 ⊢
    exact ⟨h1.1, lgL_take es k e d (by simpa using h) h1.2 h2⟩
theorem lgL_no : ∀ (es : List Ex) (k : Nat) (e : Ex) (d : Nat), es[k]? = some e → lgE e d = false → lgL es d = false
  | [], _, _, _, h, _ => by simp at h
  | x :: es, 0, e, d, h, h2 => by simp at h; subst h; simp [lgL, h2]
  | x :: es, k + 1, e, d, h, h2 => by simp [lgL, lgL_no es k e d (by simpa using h) h2]

set_option maxRecDepth 100000 in
set_option maxHeartbeats 4000000 in
theorem lexGood_any : ∀ n, ∀ (op a b : Int) (subs : List Ex), szE (.mk op a b subs) ≤ n → ∀ (w : World) (sl : Value) (d : Nat) (D : Int), D = (d : Int) → d ≤ 5 → SlE w sl subs →
    Calls Tryz.prog 13 #[exV op a b sl, .int .i64 D] w fun e w' => e = .returned (.bool (lgE (.mk op a b subs) d)) ∧ Kp (fun _ => True) w w' := by
  intro n
  induction n with
  | zero => intro op a b subs h; exact absurd (szE_pos (.mk op a b subs)) (by omega)
  | succ n ih =>
    intro op a b subs hn w sl d D hD hd5 hs
    have IH := Lib.hid ih
    clear ih
    have hsz : szL subs ≤ n := by simp only [szE] at hn; omega
    clear hn
    unfold exV
    have HS : Hid (SlE w sl subs) := Lib.hid hs
    obtain ⟨sq, sc, rfl⟩ := hs.form
    clear hs
    by_cases h0 : d = 0
    · subst h0
      have hD0 : D = 0 := by omega
      subst hD0
      clear hD
      go_enter Tryz.func13, Tryz.ntmps13
      go_wp2
      go_ret
      exact ⟨by simp [lgE], Kp.alloc _ _⟩
    · have hD0 : ¬ D = 0 := by omega
      by_cases h4 : 4 < subs.length
      · have h4' : (4 : Int) < (subs.length : Int) := by omega
        go_enter Tryz.func13, Tryz.ntmps13
        go_wp2
        go_ret
        exact ⟨by simp [lgE, h4], Kp.alloc _ _⟩
      · have h4' : ¬ (4 : Int) < (subs.length : Int) := by omega
        go_enter Tryz.func13, Tryz.ntmps13
        go_wp2
        have km : Kp (fun _ => True) w (w.alloc (.cells #[.int .i64 op, .int .i64 a, .int .i64 b, .slice sq subs.length sc] 48)) := Kp.alloc _ _
        have bm := Blk.new w 48 #[.int .i64 op, .int .i64 a, .int .i64 b, .slice sq subs.length sc]
        obtain ⟨eb, heb⟩ : ∃ eb, eb = w.heap.size := ⟨_, rfl⟩
        rw [← heb] at bm ⊢
        generalize w.alloc (.cells #[.int .i64 op, .int .i64 a, .int .i64 b, .slice sq subs.length sc] 48) = wA at km bm ⊢
        have KA := Lib.hid km
        have BM := Lib.hid bm
        have HA := Lib.hid (HS.out.up km)
        clear km bm heb
        go_loopw [18] (fun t18 wr => ∃ k : Nat, t18 = .int .i64 k ∧ k ≤ subs.length ∧ lgL (subs.take k) (d - 1) = true ∧ Kp (fun _ => True) wA wr) (fun t18 _ => subs.length - (intOf t18).toNat)
        case atStart => exact ⟨0, rfl, Nat.zero_le _, by simp [lgL], Kp.rfl'⟩
        case round =>
          obtain ⟨k, rfl, hk, hl, kx⟩ := hrel
          by_cases hkn : k < subs.length
          · have hkn' : (k : Int) < (subs.length : Int) := by omega
            obtain ⟨⟨op', a', b', s'⟩, hx⟩ : ∃ e, subs[k]? = some e := ⟨subs[k]'hkn, by simp⟩
            have hs := HA.out.up kx
            rcases hs with ⟨q, c, h1, h2⟩ | ⟨g, o, c, h1, h2, h3⟩
            · subst h2; simp at hkn
            cases h1
            obtain ⟨sl', E⟩ := h3.el hx
            obtain ⟨sq', sc', rfl⟩ := E.sub.form
            have e0 := E.e0
            have e1 := E.e1
            have e2 := E.e2
            have e3 := E.e3
            have SB := Lib.hid E.sub
            have hz : szE (.mk op' a' b' s') ≤ n := Nat.le_trans (szL_get _ _ _ hx) hsz
            have HZ := Lib.hid hz
            have HX := Lib.hid hx
            have HL := Lib.hid hl
            have KX := Lib.hid kx
            have hcc : (k : Int) ≤ (sc : Int) := by omega
            have hd1 : (1 : Int) ≤ (d : Int) := by omega
            clear E h3 hz hx hl kx
            go_wp2_with (first | (go_at_call 13; refine (IH.out op' a' b' s' HZ.out _ _ (d - 1) _ (by omega) (by omega) (SB.out.up (Kp.alloc _ _))).mono ?_; rintro e w5 ⟨rfl, k5⟩; have K5 : Hid (Kp (fun _ => True) wr w5) := Lib.hid ((Kp.alloc _ _).trans k5); clear k5; cases hg : lgE (Ex.mk op' a' b' s') (d - 1)))
            · go_ret
              refine ⟨?_, (KA.out.trans KX.out).trans K5.out⟩
              simp [lgE, lgL_no _ _ _ _ HX.out hg]
            · exact ⟨⟨k + 1, by simp, by omega, lgL_take _ _ _ _ HX.out HL.out hg, KX.out.trans K5.out⟩, by simp [intOf]; omega⟩
          · have hkn' : ¬ (k : Int) < (subs.length : Int) := by omega
            have hke : k = subs.length := by omega
            subst hke
            rw [List.take_of_length_le (Nat.le_refl _)] at hl
            have b0 := (BM.out.kept (kx.blk _ BM.out.lt trivial)).cell
            have c0 : wr.cell? ⟨eb, 0, none⟩ = some (.int .i64 op) := b0 0
            have c1 : wr.cell? ⟨eb, 1, none⟩ = some (.int .i64 a) := b0 1
            have c2 : wr.cell? ⟨eb, 2, none⟩ = some (.int .i64 b) := b0 2
            have c3 : wr.cell? ⟨eb, 3, none⟩ = some (.slice sq subs.length sc) := b0 3
            have KX := Lib.hid (KA.out.trans kx)
            have LG : lgE (.mk op a b subs) d = (if op = 0 then decide (0 ≤ a) && decide (a ≤ b) && decide (b ≤ 127) && decide (subs.length = 0) else if op = 1 then true else if op = 2 then decide (0 < subs.length) else decide (3 ≤ op) && decide (op ≤ 5) && decide (subs.length = 1)) := by
              simp only [lgE]; rw [if_neg (by omega), hl, Bool.true_and]
            have HLG := Lib.hid LG
            clear LG kx b0
            by_cases o0 : op = 0
            · subst o0
              rw [if_pos rfl] at HLG
              by_cases q1 : 0 ≤ a
              · by_cases q2 : a ≤ b
                · by_cases q3 : b ≤ 127
                  · go_wp2_with fail
                    go_ret
                    exact ⟨by rw [HLG.out]; cases subs <;> simp [q1, q2, q3] <;> omega, KX.out⟩
                  · go_wp2_with fail
                    go_ret
                    exact ⟨by rw [HLG.out]; simp; intros; omega, KX.out⟩
                · go_wp2_with fail
                  go_ret
                  exact ⟨by rw [HLG.out]; simp; intros; omega, KX.out⟩
              · go_wp2_with fail
                go_ret
                exact ⟨by rw [HLG.out]; simp; intros; omega, KX.out⟩
            · rw [if_neg o0] at HLG
              by_cases o1 : op = 1
              · subst o1
                rw [if_pos rfl] at HLG
                go_wp2_with fail
                go_ret
                exact ⟨by rw [HLG.out]; rfl, KX.out⟩
              · rw [if_neg o1] at HLG
                by_cases o2 : op = 2
                · subst o2
                  rw [if_pos rfl] at HLG
                  go_wp2_with fail
                  go_ret
                  exact ⟨by rw [HLG.out]; simp, KX.out⟩
                · rw [if_neg o2] at HLG
                  by_cases q1 : 3 ≤ op
                  · by_cases q2 : op ≤ 5
                    · go_wp2_with fail
                      go_ret
                      exact ⟨by rw [HLG.out]; simp [q1, q2]; rw [Bool.eq_iff_iff]; simp; omega, KX.out⟩
                    · go_wp2_with fail
                      go_ret
                      exact ⟨by rw [HLG.out]; simp; intros; omega, KX.out⟩
                  · go_wp2_with fail
                    go_ret
                    exact ⟨by rw [HLG.out]; simp; intros; omega, KX.out⟩
end Go.Proofs
end
section
namespace Go.Proofs
open Go.RowKit
open Pl
theorem lgE_parts {op a b : Int} {subs : List Ex} {d : Nat} (h : lgE (.mk op a b subs) d = true) : 1 ≤ d ∧ subs.length ≤ 4 ∧ lgL subs (d - 1) = true ∧ (op = 4 → subs.length = 1) := by
  simp only [lgE] at h
  split at h
  · cases h
  rename_i hd
  simp only [Bool.and_eq_true] at h
  refine ⟨by omega, by omega, h.1, fun e => ?_⟩
  have h2 := h.2
  rw [if_neg (by omega), if_neg (by omega), if_neg (by omega)] at h2
  simp at h2
  exact h2.2
theorem lgL_get : ∀ (es : List Ex) (k : Nat) (e : Ex) (d : Nat), lgL es d = true → es[k]? = some e → lgE e d = true
  | [], _, _, _, _, h => by simp at h
  | x :: es, 0, e, d, h, hk => by simp at hk; subst hk; simp only [lgL, Bool.and_eq_true] at h; exact h.1
  | x :: es, k + 1, e, d, h, hk => by simp only [lgL, Bool.and_eq_true] at h; exact lgL_get es k e d h.2 (by simpa using hk)
theorem leAll_take : ∀ (es : List Ex) (k : Nat) (e : Ex), es[k]? = some e → leAll (es.take k) = true → leE e = true → leAll (es.take (k + 1)) = true
  | [], _, _, h, _, _ => by simp at h
  | x :: es, 0, e, h, _, h2 => by simp at h; subst h; simp [leAll, h2]
  | x :: es, k + 1, e, h, h1, h2 => by
    simp only [List.take_succ_cons, leAll, Bool.and_eq_true] at h1 ⊢
    exact ⟨h1.1, leAll_take es k e (by simpa using h) h1.2 h2⟩
theorem leAll_no : ∀ (es : List Ex) (k : Nat) (e : Ex), es[k]? = some e → leE e = false → leAll es = false
  | [], _, _, h, _ => by simp at h
  | x :: es, 0, e, h, h2 => by simp at h; subst h; simp [leAll, h2]
  | x :: es, k + 1, e, h, h2 => by simp [leAll, leAll_no es k e (by simpa using h) h2]
theorem leAny_take : ∀ (es : List Ex) (k : Nat) (e : Ex), es[k]? = some e → leAny (es.take k) = false → leE e = false → leAny (es.take (k + 1)) = false
  | [], _, _, h, _, _ => by simp at h
  | x :: es, 0, e, h, _, h2 => by simp at h; subst h; simp [leAny, h2]
  | x :: es, k + 1, e, h, h1, h2 => by
    simp only [List.take_succ_cons, leAny, Bool.or_eq_false_iff] at h1 ⊢
    exact ⟨h1.1, leAny_take es k e (by simpa using h) h1.2 h2⟩
theorem leAny_yes : ∀ (es : List Ex) (k : Nat) (e : Ex), es[k]? = some e → leE e = true → leAny es = true
  | [], _, _, h, _ => by simp at h
  | x :: es, 0, e, h, h2 => by simp at h; subst h; simp [leAny, h2]
  | x :: es, k + 1, e, h, h2 => by simp [leAny, leAny_yes es k e (by simpa using h) h2]
theorem lpL_take (q : Bool) : ∀ (es : List Ex) (k : Nat) (e : Ex), es[k]? = some e → lpL q (es.take k) = false → (lpE e || (q && leE e)) = false → lpL q (es.take (k + 1)) = false
  | [], _, _, h, _, _ => by simp at h
  | x :: es, 0, e, h, _, h2 => by simp at h; subst h; simp only [List.take_succ_cons, List.take_zero, lpL, h2]; rfl
  | x :: es, k + 1, e, h, h1, h2 => by
    simp only [List.take_succ_cons, lpL] at h1 ⊢
    rw [Bool.or_eq_false_iff] at h1 ⊢
    exact ⟨h1.1, lpL_take q es k e (by simpa using h) h1.2 h2⟩
theorem lpL_yes (q : Bool) : ∀ (es : List Ex) (k : Nat) (e : Ex), es[k]? = some e → (lpE e || (q && leE e)) = true → lpL q es = true
  | [], _, _, h, _ => by simp at h
  | x :: es, 0, e, h, h2 => by simp at h; subst h; simp only [lpL, h2]; rfl
  | x :: es, k + 1, e, h, h2 => by simp only [lpL, lpL_yes q es k e (by simpa using h) h2, Bool.or_true]
theorem szL_take : ∀ (es : List Ex) (k : Nat) (e : Ex), es[k]? = some e → szL (es.take (k + 1)) = szL (es.take k) + szE e
  | [], _, _, h => by simp at h
  | x :: es, 0, e, h => by simp at h; subst h; simp [szL]
  | x :: es, k + 1, e, h => by simp only [List.take_succ_cons, szL]; rw [szL_take es k e (by simpa using h)]; omega
theorem szL_take_le : ∀ (es : List Ex) (k : Nat), szL (es.take k) ≤ szL es
  | [], k => by simp
  | x :: es, 0 => by simp [szL]
  | x :: es, k + 1 => by simp only [List.take_succ_cons, szL]; have := szL_take_le es k; omega
mutual
theorem szE_le : ∀ (e : Ex) (d : Nat), lgE e d = true → szE e ≤ 5 ^ d
  | .mk op a b subs, d, h => by
    obtain ⟨h1, h2, h3, _⟩ := lgE_parts h
    obtain ⟨d', rfl⟩ : ∃ d', d = d' + 1 := ⟨d - 1, by omega⟩
    have := szL_le subs d' h3
    have h4 := Nat.mul_le_mul h2 (Nat.le_refl (5 ^ d'))
    have h5 : 1 ≤ 5 ^ d' := Nat.one_le_pow _ _ (by omega)
    simp only [szE, Nat.pow_succ]
    omega
theorem szL_le : ∀ (es : List Ex) (d : Nat), lgL es d = true → szL es ≤ es.length * 5 ^ d
  | [], d, _ => by simp [szL]
  | e :: es, d, h => by
    simp only [lgL, Bool.and_eq_true] at h
    have a := szE_le e d h.1
    have b := szL_le es d h.2
    simp only [szL, List.length_cons, Nat.add_mul]
    omega
end

set_option maxRecDepth 100000 in
set_option maxHeartbeats 4000000 in
theorem lexEmpty_any : ∀ n, ∀ (op a b : Int) (subs : List Ex), szE (.mk op a b subs) ≤ n → ∀ (w : World) (sl : Value) (d : Nat), lgE (.mk op a b subs) d = true → SlE w sl subs →
    Calls Tryz.prog 14 #[exV op a b sl] w fun e w' => e = .returned (.bool (leE (.mk op a b subs))) ∧ Kp (fun _ => True) w w' := by
  intro n
  induction n with
  | zero => intro op a b subs h; exact absurd (szE_pos (.mk op a b subs)) (by omega)
  | succ n ih =>
    intro op a b subs hn w sl d hg hs
    have IH := Lib.hid ih
    clear ih
    have hsz : szL subs ≤ n := by simp only [szE] at hn; omega
    clear hn
    obtain ⟨hd1, hl4, hgl, hop4⟩ := lgE_parts hg
    have HGL := Lib.hid hgl
    have HO4 := Lib.hid hop4
    unfold exV
    have HS : Hid (SlE w sl subs) := Lib.hid hs
    obtain ⟨sq, sc, rfl⟩ := hs.form
    clear hs hg hgl hop4
    have km : Kp (fun _ => True) w (w.alloc (.cells #[.int .i64 op, .int .i64 a, .int .i64 b, .slice sq subs.length sc] 48)) := Kp.alloc _ _
    have KA := Lib.hid km
    have HA := Lib.hid (HS.out.up km)
    clear km
    by_cases o0 : op = 0
    · subst o0
      go_enter Tryz.func14, Tryz.ntmps14
      go_wp2_with fail
      go_ret
      exact ⟨by simp [leE], KA.out⟩
    by_cases o3 : op = 3
    · subst o3
      go_enter Tryz.func14, Tryz.ntmps14
      go_wp2_with fail
      go_ret
      exact ⟨by simp [leE], KA.out⟩
    by_cases o5 : op = 5
    · subst o5
      go_enter Tryz.func14, Tryz.ntmps14
      go_wp2_with fail
      go_ret
      exact ⟨by simp [leE], KA.out⟩
    by_cases o4 : op = 4
    · subst o4
      have h1 := HO4.out rfl
      obtain ⟨⟨op', a', b', s'⟩, hx⟩ : ∃ e, subs[0]? = some e := ⟨subs[0]'(by omega), by simp⟩
      have hLE : leE (.mk 4 a b subs) = leE (.mk op' a' b' s') := by
        have : subs = [.mk op' a' b' s'] := by
          match subs, h1, hx with
          | [e], _, hx => simp at hx; rw [hx]
        rw [this]
        simp only [leE, leAny]; simp
      have HLE := Lib.hid hLE
      have H1 := Lib.hid h1
      clear hLE h1
      go_enter Tryz.func14, Tryz.ntmps14
      go_upto_region 8 with fail
      have bm := Blk.new w 48 #[.int .i64 4, .int .i64 a, .int .i64 b, .slice sq subs.length sc]
      obtain ⟨eb, heb⟩ : ∃ eb, eb = w.heap.size := ⟨_, rfl⟩
      rw [← heb] at bm ⊢
      generalize w.alloc (.cells #[.int .i64 4, .int .i64 a, .int .i64 b, .slice sq subs.length sc] 48) = wA at KA HA bm ⊢
      have h1 := H1.out
      rcases HA.out with ⟨q, c, h1', h2⟩ | ⟨g, o, c, h1', h2, h3⟩
      · subst h2; simp at h1
      cases h1'
      obtain ⟨sl', E⟩ := h3.el hx
      obtain ⟨sq', sc', rfl⟩ := E.sub.form
      have e0 := E.e0
      have e1 := E.e1
      have e2 := E.e2
      have e3 := E.e3
      have SB := Lib.hid E.sub
      have HZ := Lib.hid (Nat.le_trans (szL_get _ _ _ hx) hsz)
      have HG := Lib.hid (lgL_get _ _ _ _ HGL.out hx)
      simp only [Nat.zero_mul, Nat.add_zero] at e0 e1 e2 e3
      have c3 : wA.cell? ⟨eb, 3, none⟩ = some (.slice (some ⟨g, o, none⟩) subs.length sc) := bm.cell 3
      have hl1 : (0 : Int) < (subs.length : Int) := by omega
      have hc1 : (0 : Int) ≤ sc := by omega
      clear E h3 hx bm heb h1 HA
      go_wp2_with (first | (go_at_call 14; refine (IH.out op' a' b' s' HZ.out _ _ (d - 1) HG.out SB.out).mono ?_; rintro e w5 ⟨rfl, k5⟩; have K5 := Lib.hid (KA.out.trans k5); clear k5))
      go_ret
      exact ⟨by rw [HLE.out]; rfl, K5.out⟩
    by_cases o1 : op = 1
    · subst o1
      go_enter Tryz.func14, Tryz.ntmps14
      go_wp2_with fail
      generalize w.alloc (.cells #[.int .i64 1, .int .i64 a, .int .i64 b, .slice sq subs.length sc] 48) = wA at KA HA ⊢
      go_loopw [26] (fun t26 wr => ∃ k : Nat, t26 = .int .i64 k ∧ k ≤ subs.length ∧ leAll (subs.take k) = true ∧ Kp (fun _ => True) wA wr) (fun t26 _ => subs.length - (intOf t26).toNat)
      case atStart => exact ⟨0, rfl, Nat.zero_le _, by simp [leAll], Kp.rfl'⟩
      case round =>
        obtain ⟨k, rfl, hk, hl, kx⟩ := hrel
        by_cases hkn : k < subs.length
        · have hkn' : (k : Int) < (subs.length : Int) := by omega
          obtain ⟨⟨op', a', b', s'⟩, hx⟩ : ∃ e, subs[k]? = some e := ⟨subs[k]'hkn, by simp⟩
          rcases HA.out.up kx with ⟨q, c, h1, h2⟩ | ⟨g, o, c, h1, h2, h3⟩
          · subst h2; simp at hkn
          cases h1
          obtain ⟨sl', E⟩ := h3.el hx
          obtain ⟨sq', sc', rfl⟩ := E.sub.form
          have e0 := E.e0
          have e1 := E.e1
          have e2 := E.e2
          have e3 := E.e3
          have SB := Lib.hid E.sub
          have HZ := Lib.hid (Nat.le_trans (szL_get _ _ _ hx) hsz)
          have HG := Lib.hid (lgL_get _ _ _ _ HGL.out hx)
          have HX := Lib.hid hx
          have HL := Lib.hid hl
          have KX := Lib.hid kx
          have hcc : (k : Int) ≤ (sc : Int) := by omega
          clear E h3 hx hl kx
          go_wp2_with (first | (go_at_call 14; refine (IH.out op' a' b' s' HZ.out _ _ (d - 1) HG.out (SB.out.up (Kp.alloc _ _))).mono ?_; rintro e w5 ⟨rfl, k5⟩; have K5 : Hid (Kp (fun _ => True) wr w5) := Lib.hid ((Kp.alloc _ _).trans k5); clear k5; cases hg : leE (Ex.mk op' a' b' s')))
          · go_ret
            refine ⟨?_, (KA.out.trans KX.out).trans K5.out⟩
            simp [leE, leAll_no _ _ _ HX.out hg]
          · exact ⟨⟨k + 1, by simp, by omega, leAll_take _ _ _ HX.out HL.out hg, KX.out.trans K5.out⟩, by simp [intOf]; omega⟩
        · have hkn' : ¬ (k : Int) < (subs.length : Int) := by omega
          have hke : k = subs.length := by omega
          subst hke
          rw [List.take_of_length_le (Nat.le_refl _)] at hl
          have HL := Lib.hid hl
          have KX := Lib.hid kx
          clear hl kx
          go_wp2_with fail
          go_ret
          exact ⟨by simp [leE, HL.out], KA.out.trans KX.out⟩
    · have hLE : leE (.mk op a b subs) = leAny subs := by simp only [leE]; rw [if_neg o0, if_neg (by omega), if_neg o1]
      have HLE := Lib.hid hLE
      clear hLE
      go_enter Tryz.func14, Tryz.ntmps14
      go_wp2_with fail
      have z0 : (op == 0) = false := by simpa using o0
      have z3 : (op == 3) = false := by simpa using o3
      have z5 : (op == 5) = false := by simpa using o5
      have z4 : (op == 4) = false := by simpa using o4
      have z1 : (op == 1) = false := by simpa using o1
      simp only [z0, z3, z5, z4, z1]
      generalize w.alloc (.cells #[.int .i64 op, .int .i64 a, .int .i64 b, .slice sq subs.length sc] 48) = wA at KA HA ⊢
      go_loopw [37] (fun t37 wr => ∃ k : Nat, t37 = .int .i64 k ∧ k ≤ subs.length ∧ leAny (subs.take k) = false ∧ Kp (fun _ => True) wA wr) (fun t37 _ => subs.length - (intOf t37).toNat)
      case atStart => exact ⟨0, rfl, Nat.zero_le _, by simp [leAny], Kp.rfl'⟩
      case round =>
        obtain ⟨k, rfl, hk, hl, kx⟩ := hrel
        by_cases hkn : k < subs.length
        · have hkn' : (k : Int) < (subs.length : Int) := by omega
          obtain ⟨⟨op', a', b', s'⟩, hx⟩ : ∃ e, subs[k]? = some e := ⟨subs[k]'hkn, by simp⟩
          rcases HA.out.up kx with ⟨q, c, h1, h2⟩ | ⟨g, o, c, h1, h2, h3⟩
          · subst h2; simp at hkn
          cases h1
          obtain ⟨sl', E⟩ := h3.el hx
          obtain ⟨sq', sc', rfl⟩ := E.sub.form
          have e0 := E.e0
          have e1 := E.e1
          have e2 := E.e2
          have e3 := E.e3
          have SB := Lib.hid E.sub
          have HZ := Lib.hid (Nat.le_trans (szL_get _ _ _ hx) hsz)
          have HG := Lib.hid (lgL_get _ _ _ _ HGL.out hx)
          have HX := Lib.hid hx
          have HL := Lib.hid hl
          have KX := Lib.hid kx
          have hcc : (k : Int) ≤ (sc : Int) := by omega
          clear E h3 hx hl kx
          go_wp2_with (first | (go_at_call 14; refine (IH.out op' a' b' s' HZ.out _ _ (d - 1) HG.out (SB.out.up (Kp.alloc _ _))).mono ?_; rintro e w5 ⟨rfl, k5⟩; have K5 : Hid (Kp (fun _ => True) wr w5) := Lib.hid ((Kp.alloc _ _).trans k5); clear k5; cases hg : leE (Ex.mk op' a' b' s')))
          · exact ⟨⟨k + 1, by simp, by omega, leAny_take _ _ _ HX.out HL.out hg, KX.out.trans K5.out⟩, by simp [intOf]; omega⟩
          · go_ret
            refine ⟨?_, (KA.out.trans KX.out).trans K5.out⟩
            rw [HLE.out, leAny_yes _ _ _ HX.out hg]; rfl
        · have hkn' : ¬ (k : Int) < (subs.length : Int) := by omega
          have hke : k = subs.length := by omega
          subst hke
          rw [List.take_of_length_le (Nat.le_refl _)] at hl
          have HL := Lib.hid hl
          have KX := Lib.hid kx
          clear hl kx
          go_wp2_with fail
          go_ret
          exact ⟨by rw [HLE.out, HL.out]; rfl, KA.out.trans KX.out⟩
end Go.Proofs
end
section
namespace Go.Proofs
open Go.RowKit
open Pl
set_option maxRecDepth 100000 in
set_option maxHeartbeats 4000000 in
theorem loops_any : ∀ n, ∀ (op a b : Int) (subs : List Ex), szE (.mk op a b subs) ≤ n → ∀ (w : World) (sl : Value) (d : Nat), lgE (.mk op a b subs) d = true → SlE w sl subs →
    Calls Tryz.prog 15 #[exV op a b sl] w fun e w' => e = .returned (.bool (lpE (.mk op a b subs))) ∧ Kp (fun _ => True) w w' := by
  intro n
  induction n with
  | zero => intro op a b subs h; exact absurd (szE_pos (.mk op a b subs)) (by omega)
  | succ n ih =>
    intro op a b subs hn w sl d hg hs
    have IH := Lib.hid ih
    clear ih
    have hsz : szL subs ≤ n := by simp only [szE] at hn; omega
    clear hn
    obtain ⟨hd1, hl4, hgl, hop4⟩ := lgE_parts hg
    have HGL := Lib.hid hgl
    unfold exV
    have HS : Hid (SlE w sl subs) := Lib.hid hs
    obtain ⟨sq, sc, rfl⟩ := hs.form
    clear hs hg hgl hop4
    have km : Kp (fun _ => True) w (w.alloc (.cells #[.int .i64 op, .int .i64 a, .int .i64 b, .slice sq subs.length sc] 48)) := Kp.alloc _ _
    have KA := Lib.hid km
    have HA := Lib.hid (HS.out.up km)
    have bm := Blk.new w 48 #[.int .i64 op, .int .i64 a, .int .i64 b, .slice sq subs.length sc]
    clear km
    obtain ⟨q, hq⟩ : ∃ q : Bool, q = decide (op = 3 ∨ op = 4) := ⟨_, rfl⟩
    have hLP : lpE (.mk op a b subs) = lpL q subs := by rw [hq]; simp only [lpE]
    have HLP := Lib.hid hLP
    clear hLP
    go_enter Tryz.func15, Tryz.ntmps15
    go_wp2_with fail
    obtain ⟨eb, heb⟩ : ∃ eb, eb = w.heap.size := ⟨_, rfl⟩
    rw [← heb] at bm ⊢
    generalize w.alloc (.cells #[.int .i64 op, .int .i64 a, .int .i64 b, .slice sq subs.length sc] 48) = wA at KA HA bm ⊢
    have BM := Lib.hid bm
    clear bm heb
    go_loopw [8] (fun t8 wr => ∃ k : Nat, t8 = .int .i64 k ∧ k ≤ subs.length ∧ lpL q (subs.take k) = false ∧ Kp (fun _ => True) wA wr) (fun t8 _ => subs.length - (intOf t8).toNat)
    case atStart => exact ⟨0, rfl, Nat.zero_le _, by simp [lpL], Kp.rfl'⟩
    case round =>
      obtain ⟨k, rfl, hk, hl, kx⟩ := hrel
      by_cases hkn : k < subs.length
      · have hkn' : (k : Int) < (subs.length : Int) := by omega
        obtain ⟨⟨op', a', b', s'⟩, hx⟩ : ∃ e, subs[k]? = some e := ⟨subs[k]'hkn, by simp⟩
        rcases HA.out.up kx with ⟨q, c, h1, h2⟩ | ⟨g, o, c, h1, h2, h3⟩
        · subst h2; simp at hkn
        cases h1
        obtain ⟨sl', E⟩ := h3.el hx
        obtain ⟨sq', sc', rfl⟩ := E.sub.form
        have e0 := E.e0
        have e1 := E.e1
        have e2 := E.e2
        have e3 := E.e3
        have SB := Lib.hid E.sub
        have HZ := Lib.hid (Nat.le_trans (szL_get _ _ _ hx) hsz)
        have HG := Lib.hid (lgL_get _ _ _ _ HGL.out hx)
        have HX := Lib.hid hx
        have HL := Lib.hid hl
        have KX := Lib.hid kx
        have HQ := Lib.hid hq
        have hcc : (k : Int) ≤ (sc : Int) := by omega
        clear E h3 hx hl kx hq
        go_upto_region 4 with fail
        have km : Kp (fun _ => True) wr (wr.alloc (.cells #[.int .i64 op', .int .i64 a', .int .i64 b', .slice sq' s'.length sc'] 48)) := Kp.alloc _ _
        have bn := Blk.new wr 48 #[.int .i64 op', .int .i64 a', .int .i64 b', .slice sq' s'.length sc']
        have SB2 := Lib.hid (SB.out.up km)
        have BM2 := Lib.hid (BM.out.kept ((KX.out.trans km).blk _ BM.out.lt trivial))
        obtain ⟨nb, hnb⟩ : ∃ nb, nb = wr.heap.size := ⟨_, rfl⟩
        rw [← hnb] at bn ⊢
        generalize wr.alloc (.cells #[.int .i64 op', .int .i64 a', .int .i64 b', .slice sq' s'.length sc'] 48) = wN at km bn SB2 BM2 ⊢
        have n0 : wN.cell? ⟨nb, 0, none⟩ = some (.int .i64 op') := bn.cell 0
        have n1 : wN.cell? ⟨nb, 1, none⟩ = some (.int .i64 a') := bn.cell 1
        have n2 : wN.cell? ⟨nb, 2, none⟩ = some (.int .i64 b') := bn.cell 2
        have n3 : wN.cell? ⟨nb, 3, none⟩ = some (.slice sq' s'.length sc') := bn.cell 3
        have KN := Lib.hid km
        have BN := Lib.hid bn
        clear km bn hnb e0 e1 e2 e3
        have b0 : wN.cell? ⟨eb, 0, none⟩ = some (.int .i64 op) := BM2.out.cell 0
        have KN2 : Hid (Kp (fun _ => True) wr wN) := KN
        have SBB : Hid (∀ W, Kp (fun _ => True) wN W → Calls Tryz.prog 14 #[exV op' a' b' (.slice sq' s'.length sc')] W fun e w' => e = .returned (.bool (leE (.mk op' a' b' s'))) ∧ Kp (fun _ => True) W w') := Lib.hid (fun W hW => lexEmpty_any n op' a' b' s' HZ.out W _ (d - 1) HG.out (SB2.out.up hW))
        have SBL := Lib.hid (IH.out op' a' b' s' HZ.out _ _ (d - 1) HG.out SB2.out)
        unfold exV at SBB SBL
        by_cases o3 : op = 3
        · have hqt : q = true := by rw [HQ.out]; simp [o3]
          have HQT := Lib.hid hqt
          subst o3
          clear hqt
          go_wp2_with (first | (go_at_call 15; refine SBL.out.mono ?_; rintro e w5 ⟨rfl, k5⟩; have c0 : w5.cell? ⟨eb, 0, none⟩ = some (.int .i64 3) := (World.cell?_of_block (k5.blk _ (cell_lt b0) trivial)).trans b0; have c1 : w5.cell? ⟨nb, 0, none⟩ = some (.int .i64 op') := (World.cell?_of_block (k5.blk _ (cell_lt n0) trivial)).trans n0; have c2 : w5.cell? ⟨nb, 1, none⟩ = some (.int .i64 a') := (World.cell?_of_block (k5.blk _ (cell_lt n1) trivial)).trans n1; have c3 : w5.cell? ⟨nb, 2, none⟩ = some (.int .i64 b') := (World.cell?_of_block (k5.blk _ (cell_lt n2) trivial)).trans n2; have c4 : w5.cell? ⟨nb, 3, none⟩ = some (.slice sq' s'.length sc') := (World.cell?_of_block (k5.blk _ (cell_lt n3) trivial)).trans n3; have K5 := Lib.hid k5; clear k5; cases hg : lpE (Ex.mk op' a' b' s')) | (go_at_call 14; refine (SBB.out _ K5.out).mono ?_; rintro e w6 ⟨rfl, k6⟩; have K6 := Lib.hid k6; clear k6; cases hg2 : leE (Ex.mk op' a' b' s')))
          · exact ⟨⟨k + 1, by simp, by omega, lpL_take _ _ _ _ HX.out HL.out (by rw [hg, hg2]; simp), (KX.out.trans KN.out).trans (K5.out.trans K6.out)⟩, by simp [intOf]; omega⟩
          · go_ret
            exact ⟨by rw [HLP.out, lpL_yes _ _ _ _ HX.out (by rw [hg, hg2, HQT.out]; rfl)]; rfl, KA.out.trans ((KX.out.trans KN.out).trans (K5.out.trans K6.out))⟩
          · go_ret
            exact ⟨by rw [HLP.out, lpL_yes _ _ _ _ HX.out (by rw [hg]; rfl)]; rfl, KA.out.trans ((KX.out.trans KN.out).trans K5.out)⟩
        · by_cases o4 : op = 4
          · have hqt : q = true := by rw [HQ.out]; simp [o4]
            have HQT := Lib.hid hqt
            subst o4
            clear hqt
            go_wp2_with (first | (go_at_call 15; refine SBL.out.mono ?_; rintro e w5 ⟨rfl, k5⟩; have c0 : w5.cell? ⟨eb, 0, none⟩ = some (.int .i64 4) := (World.cell?_of_block (k5.blk _ (cell_lt b0) trivial)).trans b0; have c1 : w5.cell? ⟨nb, 0, none⟩ = some (.int .i64 op') := (World.cell?_of_block (k5.blk _ (cell_lt n0) trivial)).trans n0; have c2 : w5.cell? ⟨nb, 1, none⟩ = some (.int .i64 a') := (World.cell?_of_block (k5.blk _ (cell_lt n1) trivial)).trans n1; have c3 : w5.cell? ⟨nb, 2, none⟩ = some (.int .i64 b') := (World.cell?_of_block (k5.blk _ (cell_lt n2) trivial)).trans n2; have c4 : w5.cell? ⟨nb, 3, none⟩ = some (.slice sq' s'.length sc') := (World.cell?_of_block (k5.blk _ (cell_lt n3) trivial)).trans n3; have K5 := Lib.hid k5; clear k5; cases hg : lpE (Ex.mk op' a' b' s')) | (go_at_call 14; refine (SBB.out _ K5.out).mono ?_; rintro e w6 ⟨rfl, k6⟩; have K6 := Lib.hid k6; clear k6; cases hg2 : leE (Ex.mk op' a' b' s')))
            · exact ⟨⟨k + 1, by simp, by omega, lpL_take _ _ _ _ HX.out HL.out (by rw [hg, hg2]; simp), (KX.out.trans KN.out).trans (K5.out.trans K6.out)⟩, by simp [intOf]; omega⟩
            · go_ret
              exact ⟨by rw [HLP.out, lpL_yes _ _ _ _ HX.out (by rw [hg, hg2, HQT.out]; rfl)]; rfl, KA.out.trans ((KX.out.trans KN.out).trans (K5.out.trans K6.out))⟩
            · go_ret
              exact ⟨by rw [HLP.out, lpL_yes _ _ _ _ HX.out (by rw [hg]; rfl)]; rfl, KA.out.trans ((KX.out.trans KN.out).trans K5.out)⟩
          · have hqf : q = false := by rw [HQ.out]; simp [o3, o4]
            have HQF := Lib.hid hqf
            clear hqf
            go_wp2_with (first | (go_at_call 15; refine SBL.out.mono ?_; rintro e w5 ⟨rfl, k5⟩; have c0 : w5.cell? ⟨eb, 0, none⟩ = some (.int .i64 op) := (World.cell?_of_block (k5.blk _ (cell_lt b0) trivial)).trans b0; have c1 : w5.cell? ⟨nb, 0, none⟩ = some (.int .i64 op') := (World.cell?_of_block (k5.blk _ (cell_lt n0) trivial)).trans n0; have c2 : w5.cell? ⟨nb, 1, none⟩ = some (.int .i64 a') := (World.cell?_of_block (k5.blk _ (cell_lt n1) trivial)).trans n1; have c3 : w5.cell? ⟨nb, 2, none⟩ = some (.int .i64 b') := (World.cell?_of_block (k5.blk _ (cell_lt n2) trivial)).trans n2; have c4 : w5.cell? ⟨nb, 3, none⟩ = some (.slice sq' s'.length sc') := (World.cell?_of_block (k5.blk _ (cell_lt n3) trivial)).trans n3; have K5 := Lib.hid k5; clear k5; cases hg : lpE (Ex.mk op' a' b' s')) | (go_at_call 14; refine (SBB.out _ K5.out).mono ?_; rintro e w6 ⟨rfl, k6⟩; have K6 := Lib.hid k6; clear k6; cases hg2 : leE (Ex.mk op' a' b' s')))
            · exact ⟨⟨k + 1, by simp, by omega, lpL_take _ _ _ _ HX.out HL.out (by rw [hg, HQF.out]; rfl), (KX.out.trans KN.out).trans K5.out⟩, by simp [intOf]; omega⟩
            · go_ret
              exact ⟨by rw [HLP.out, lpL_yes _ _ _ _ HX.out (by rw [hg]; rfl)]; rfl, KA.out.trans ((KX.out.trans KN.out).trans K5.out)⟩
      · have hkn' : ¬ (k : Int) < (subs.length : Int) := by omega
        have hke : k = subs.length := by omega
        subst hke
        rw [List.take_of_length_le (Nat.le_refl _)] at hl
        have HL := Lib.hid hl
        have KX := Lib.hid kx
        clear hl kx
        go_wp2_with fail
        go_ret
        exact ⟨by rw [HLP.out, HL.out]; rfl, KA.out.trans KX.out⟩

set_option maxRecDepth 100000 in
set_option maxHeartbeats 4000000 in
theorem size_any : ∀ n, ∀ (op a b : Int) (subs : List Ex), szE (.mk op a b subs) ≤ n → ∀ (w : World) (sl : Value) (d : Nat), d ≤ 5 → lgE (.mk op a b subs) d = true → SlE w sl subs →
    Calls Tryz.prog 16 #[exV op a b sl] w fun e w' => e = .returned (.int .i64 (szE (.mk op a b subs) : Nat)) ∧ Kp (fun _ => True) w w' := by
  intro n
  induction n with
  | zero => intro op a b subs h; exact absurd (szE_pos (.mk op a b subs)) (by omega)
  | succ n ih =>
    intro op a b subs hn w sl d hd5 hg hs
    have IH := Lib.hid ih
    clear ih
    have hsz : szL subs ≤ n := by simp only [szE] at hn; omega
    clear hn
    obtain ⟨hd1, hl4, hgl, hop4⟩ := lgE_parts hg
    have hbig : szL subs ≤ 3125 := by
      have h1 := szE_le _ _ hg
      have h2 : 5 ^ d ≤ 5 ^ 5 := Nat.pow_le_pow_right (by omega) hd5
      simp only [szE] at h1
      omega
    have HGL := Lib.hid hgl
    unfold exV
    have HS : Hid (SlE w sl subs) := Lib.hid hs
    obtain ⟨sq, sc, rfl⟩ := hs.form
    clear hs hg hgl hop4
    have km : Kp (fun _ => True) w (w.alloc (.cells #[.int .i64 op, .int .i64 a, .int .i64 b, .slice sq subs.length sc] 48)) := Kp.alloc _ _
    have KA := Lib.hid km
    have HA := Lib.hid (HS.out.up km)
    clear km
    go_enter Tryz.func16, Tryz.ntmps16
    go_wp2_with fail
    generalize w.alloc (.cells #[.int .i64 op, .int .i64 a, .int .i64 b, .slice sq subs.length sc] 48) = wA at KA HA ⊢
    go_loopw [3, 9] (fun t3 t9 wr => ∃ k : Nat, t9 = .int .i64 k ∧ k ≤ subs.length ∧ t3 = .int .i64 ((1 + szL (subs.take k) : Nat) : Int) ∧ Kp (fun _ => True) wA wr) (fun _ t9 _ => subs.length - (intOf t9).toNat)
    case atStart => exact ⟨0, rfl, Nat.zero_le _, by simp [szL], Kp.rfl'⟩
    case round =>
      obtain ⟨k, rfl, hk, rfl, kx⟩ := hrel
      have ht := szL_take_le subs k
      by_cases hkn : k < subs.length
      · have hkn' : (k : Int) < (subs.length : Int) := by omega
        obtain ⟨⟨op', a', b', s'⟩, hx⟩ : ∃ e, subs[k]? = some e := ⟨subs[k]'hkn, by simp⟩
        rcases HA.out.up kx with ⟨q, c, h1, h2⟩ | ⟨g, o, c, h1, h2, h3⟩
        · subst h2; simp at hkn
        cases h1
        obtain ⟨sl', E⟩ := h3.el hx
        obtain ⟨sq', sc', rfl⟩ := E.sub.form
        have e0 := E.e0
        have e1 := E.e1
        have e2 := E.e2
        have e3 := E.e3
        have SB := Lib.hid E.sub
        have hz := szL_get _ _ _ hx
        have HZ := Lib.hid (Nat.le_trans hz hsz)
        have HG := Lib.hid (lgL_get _ _ _ _ HGL.out hx)
        have ht2 := szL_take _ _ _ hx
        have HT2 := Lib.hid ht2
        have KX := Lib.hid kx
        have hcc : (k : Int) ≤ (sc : Int) := by omega
        generalize szL (subs.take k) = S at ht HT2 ht2 ⊢
        clear E h3 hx kx ht2
        go_wp2_with (first | (go_at_call 16; refine (IH.out op' a' b' s' HZ.out _ _ (d - 1) (by omega) HG.out (SB.out.up (Kp.alloc _ _))).mono ?_; rintro e w5 ⟨rfl, k5⟩; have K5 : Hid (Kp (fun _ => True) wr w5) := Lib.hid ((Kp.alloc _ _).trans k5); clear k5; generalize szE (Ex.mk op' a' b' s') = Z at hz HT2 HZ ⊢))
        exact ⟨⟨k + 1, by simp, by omega, by rw [HT2.out]; simp; omega, KX.out.trans K5.out⟩, by simp [intOf]; omega⟩
      · have hkn' : ¬ (k : Int) < (subs.length : Int) := by omega
        have hke : k = subs.length := by omega
        subst hke
        have KX := Lib.hid kx
        clear kx
        go_wp2_with fail
        go_ret
        exact ⟨by simp [szE], KA.out.trans KX.out⟩
end Go.Proofs
end
section
namespace Go.Proofs
open Go.RowKit
open Pl
theorem szL_few : ∀ (es : List Ex), (∀ e ∈ es, szE e ≤ 3125) → szL es ≤ es.length * 3125
  | [], _ => by simp [szL]
  | e :: es, h => by
    have a := h e (by simp)
    have b := szL_few es (fun x hx => h x (by simp [hx]))
    simp only [szL, List.length_cons, Nat.add_mul]
    omega
theorem good_size {e : Ex} (h : GoodRule e) : szE e ≤ 3125 := szE_le e 5 h.good
theorem take_all {α : Type} {P : α → Prop} (es : List α) (k : Nat) (e : α) (hk : es[k]? = some e) (h : ∀ x ∈ es.take k, P x) (he : P e) : ∀ x ∈ es.take (k + 1), P x := by
  intro x hx
  rw [List.take_add_one, hk] at hx
  rcases List.mem_append.1 hx with hx | hx
  · exact h x hx
  · simp at hx; subst hx; exact he

/-- A function that tells a bool: what it leaves. -/
def TB (w : World) (P : Bool → Prop) (e : Ending) (w' : World) : Prop := ∃ t : Bool, e = .returned (.bool t) ∧ Kp (fun _ => True) w w' ∧ P t
theorem TB.of {w : World} {P : Bool → Prop} {e : Ending} {w' : World} (t : Bool) (h : e = .returned (.bool t)) (k : Kp (fun _ => True) w w') (p : P t) : TB w P e w' := ⟨t, h, k, p⟩
def TV (w : World) (P : Bool → Prop) (e : Ending) (w' : World) : Prop := ∃ t : Bool, e = .returned (.bool t) ∧ w' = w ∧ P t
theorem TV.of {w : World} {P : Bool → Prop} {e : Ending} {w' : World} (t : Bool) (h : e = .returned (.bool t)) (k : w' = w) (p : P t) : TV w P e w' := ⟨t, h, k, p⟩

set_option maxRecDepth 100000 in
set_option maxHeartbeats 4000000 in
theorem lexGoodL_any {w : World} {es : List Ex} {sl : Value} (hs : SlE w sl es) (hl : es.length ≤ 4) :
    Calls Tryz.prog 6 #[sl] w fun e w' => TB w (fun t => t = true → GoodL es) e w' := by
  have HA := Lib.hid hs
  obtain ⟨sq, sc, rfl⟩ := hs.form
  clear hs
  go_enter Tryz.func6, Tryz.ntmps6
  go_wp2_with fail
  go_loopw [3, 8] (fun t3 t8 wr => ∃ k : Nat, t8 = .int .i64 k ∧ k ≤ es.length ∧ t3 = .int .i64 ((szL (es.take k) : Nat) : Int) ∧ (∀ e ∈ es.take k, GoodRule e) ∧ Kp (fun _ => True) w wr) (fun _ t8 _ => es.length - (intOf t8).toNat)
  case atStart => exact ⟨0, rfl, Nat.zero_le _, by simp [szL], by simp, Kp.rfl'⟩
  case round =>
    obtain ⟨k, rfl, hk, rfl, hgr, kx⟩ := hrel
    have hb : szL (es.take k) ≤ 12500 := by
      have h1 := szL_few _ (fun e he => good_size (hgr e he))
      have h2 : (es.take k).length ≤ 4 := by rw [List.length_take]; omega
      have h3 := Nat.mul_le_mul h2 (Nat.le_refl 3125)
      omega
    by_cases hkn : k < es.length
    · have hkn' : (k : Int) < (es.length : Int) := by omega
      obtain ⟨⟨op', a', b', s'⟩, hx⟩ : ∃ e, es[k]? = some e := ⟨es[k]'hkn, by simp⟩
      rcases HA.out.up kx with ⟨q, c, h1, h2⟩ | ⟨g, o, c, h1, h2, h3⟩
      · subst h2; simp at hkn
      cases h1
      obtain ⟨sl', E⟩ := h3.el hx
      obtain ⟨sq', sc', rfl⟩ := E.sub.form
      have e0 := E.e0
      have e1 := E.e1
      have e2 := E.e2
      have e3 := E.e3
      have SB := Lib.hid E.sub
      have ht2 := szL_take _ _ _ hx
      have HT2 := Lib.hid ht2
      have HX := Lib.hid hx
      have HGR := Lib.hid hgr
      have KX := Lib.hid kx
      have hcc : (k : Int) ≤ (sc : Int) := by omega
      generalize szL (es.take k) = S at hb HT2 ht2 ⊢
      clear E h3 hx kx ht2 hgr
      go_upto_region 5 with fail
      have km : Kp (fun _ => True) wr (wr.alloc (.cells #[.int .i64 op', .int .i64 a', .int .i64 b', .slice sq' s'.length sc'] 48)) := Kp.alloc _ _
      have bn := Blk.new wr 48 #[.int .i64 op', .int .i64 a', .int .i64 b', .slice sq' s'.length sc']
      have SB2 := Lib.hid (SB.out.up km)
      obtain ⟨nb, hnb⟩ : ∃ nb, nb = wr.heap.size := ⟨_, rfl⟩
      rw [← hnb] at bn ⊢
      generalize wr.alloc (.cells #[.int .i64 op', .int .i64 a', .int .i64 b', .slice sq' s'.length sc'] 48) = wN at km bn SB2 ⊢
      have KN : Hid (Kp (fun _ => True) wr wN) := Lib.hid km
      have BN := Lib.hid bn
      have CB : Hid (∀ W, Kp (fun _ => True) wN W → W.cell? ⟨nb, 0, none⟩ = some (.int .i64 op') ∧ W.cell? ⟨nb, 1, none⟩ = some (.int .i64 a') ∧ W.cell? ⟨nb, 2, none⟩ = some (.int .i64 b') ∧ W.cell? ⟨nb, 3, none⟩ = some (.slice sq' s'.length sc')) := Lib.hid (fun W hW => by
        have b := (BN.out.kept (hW.blk _ BN.out.lt trivial)).cell
        exact ⟨b 0, b 1, b 2, b 3⟩)
      obtain ⟨n0, n1, n2, n3⟩ := CB.out wN Kp.rfl'
      have C13 := Lib.hid (lexGood_any _ op' a' b' s' (Nat.le_refl _) wN _ 5 5 rfl (by omega) SB2.out)
      unfold exV at C13
      clear km bn hnb e0 e1 e2 e3
      cases hg : lgE (Ex.mk op' a' b' s') 5
      · rw [hg] at C13
        go_wp2_with (first | (go_at_call 13; refine C13.out.mono ?_; rintro e w5 ⟨rfl, k5⟩; have K5 := Lib.hid k5; clear k5))
        go_ret
        exact TB.of false rfl ((KX.out.trans KN.out).trans K5.out) (by simp)
      · rw [hg] at C13
        have C14 : Hid (∀ W, Kp (fun _ => True) wN W → Calls Tryz.prog 14 #[exV op' a' b' (.slice sq' s'.length sc')] W fun e w' => e = .returned (.bool (leE (.mk op' a' b' s'))) ∧ Kp (fun _ => True) W w') := Lib.hid (fun W hW => lexEmpty_any _ op' a' b' s' (Nat.le_refl _) W _ 5 hg (SB2.out.up hW))
        have C15 : Hid (∀ W, Kp (fun _ => True) wN W → Calls Tryz.prog 15 #[exV op' a' b' (.slice sq' s'.length sc')] W fun e w' => e = .returned (.bool (lpE (.mk op' a' b' s'))) ∧ Kp (fun _ => True) W w') := Lib.hid (fun W hW => loops_any _ op' a' b' s' (Nat.le_refl _) W _ 5 hg (SB2.out.up hW))
        have C16 : Hid (∀ W, Kp (fun _ => True) wN W → Calls Tryz.prog 16 #[exV op' a' b' (.slice sq' s'.length sc')] W fun e w' => e = .returned (.int .i64 (szE (.mk op' a' b' s') : Nat)) ∧ Kp (fun _ => True) W w') := Lib.hid (fun W hW => size_any _ op' a' b' s' (Nat.le_refl _) W _ 5 (by omega) hg (SB2.out.up hW))
        have hz : szE (.mk op' a' b' s') ≤ 3125 := szE_le _ 5 hg
        have HG := Lib.hid hg
        unfold exV at C14 C15 C16
        clear hg
        go_wp2_with (first | (go_at_call 13; refine C13.out.mono ?_; rintro e w5 ⟨rfl, k5⟩; obtain ⟨c0, c1, c2, c3⟩ := CB.out w5 k5; have K5 := Lib.hid k5; clear k5) | (go_at_call 14; refine (C14.out _ K5.out).mono ?_; rintro e w6 ⟨rfl, k6⟩; obtain ⟨d0, d1, d2, d3⟩ := CB.out w6 (K5.out.trans k6); have K6 := Lib.hid (K5.out.trans k6); clear k6; cases hg2 : leE (Ex.mk op' a' b' s')) | (go_at_call 15; refine (C15.out _ K6.out).mono ?_; rintro e w7 ⟨rfl, k7⟩; obtain ⟨f0, f1, f2, f3⟩ := CB.out w7 (K6.out.trans k7); have K7 := Lib.hid (K6.out.trans k7); clear k7; cases hg3 : lpE (Ex.mk op' a' b' s')) | (go_at_call 16; refine (C16.out _ K7.out).mono ?_; rintro e w8 ⟨rfl, k8⟩; have K8 := Lib.hid (K7.out.trans k8); clear k8; generalize szE (Ex.mk op' a' b' s') = Z at hz HT2 ⊢))
        · exact ⟨⟨k + 1, by simp, by omega, by rw [HT2.out]; simp, take_all _ _ _ HX.out HGR.out ⟨HG.out, hg2, hg3⟩, (KX.out.trans KN.out).trans K8.out⟩, by simp [intOf]; omega⟩
        · go_ret
          exact TB.of false rfl ((KX.out.trans KN.out).trans K7.out) (by simp)
        · go_ret
          exact TB.of false rfl ((KX.out.trans KN.out).trans K6.out) (by simp)
    · have hkn' : ¬ (k : Int) < (es.length : Int) := by omega
      have hke : k = es.length := by omega
      subst hke
      rw [List.take_of_length_le (Nat.le_refl _)] at hgr hb
      have KX := Lib.hid kx
      have HGR := Lib.hid hgr
      clear kx hgr
      have h5 : (es.length : Int) ≤ 5 := by omega
      by_cases h1 : (1 : Int) ≤ (es.length : Int)
      · by_cases h40 : (szL es : Int) ≤ 40
        · go_wp2_with fail
          go_ret
          exact TB.of true rfl (KX.out) (fun _ => ⟨HGR.out, by omega, hl, by omega⟩)
        · go_wp2_with fail
          go_ret
          exact TB.of false rfl (KX.out) (by simp)
      · go_wp2_with fail
        go_ret
        exact TB.of false rfl (KX.out) (by simp)

set_option maxRecDepth 100000 in
set_option maxHeartbeats 4000000 in
theorem lexText_any (s : ByteArray) (hs : s.size ≤ 2147483647) (V : World) : Calls Tryz.prog 7 #[.string s] V fun e v' => TV V (fun t => t = true → s.size ≤ 60) e v' := by
  go_enter Tryz.func7, Tryz.ntmps7
  go_wp2_with fail
  go_loopw [6] (fun t6 wr => ∃ k : Nat, t6 = .int .i64 k ∧ k ≤ s.size ∧ wr = V) (fun t6 _ => s.size - (intOf t6).toNat)
  case atStart => exact ⟨0, rfl, Nat.zero_le _, rfl⟩
  case round =>
    obtain ⟨k, rfl, hk, rfl⟩ := hrel
    by_cases hkn : k < s.size
    · have hkn' : (k : Int) < (s.size : Int) := by omega
      go_wp2_with fail
      · go_ret
        exact TV.of false rfl rfl (by simp)
      · exact ⟨⟨k + 1, by simp, by omega, trivial⟩, by simp [intOf]; omega⟩
    · have hkn' : ¬ (k : Int) < (s.size : Int) := by omega
      by_cases h60 : (s.size : Int) ≤ 60
      · go_wp2_with fail
        go_ret
        exact TV.of true rfl (rfl) (fun _ => by omega)
      · go_wp2_with fail
        go_ret
        exact TV.of false rfl (rfl) (by simp)

set_option maxRecDepth 100000 in
set_option maxHeartbeats 4000000 in
theorem small_any (la : Option Addr) (ln lc : Nat) (s : ByteArray) (w : World) : Calls Tryz.prog 4 #[.slice la ln lc, .slice none 0 0, .string s] w fun e w' => TV w (fun t => t = true → ln ≤ 4) e w' := by
  by_cases h4 : (4 : Int) < (ln : Int)
  · go_enter Tryz.func4, Tryz.ntmps4
    go_wp2_with fail
    go_ret
    exact TV.of false rfl (rfl) (by simp)
  · by_cases h60 : (60 : Int) < (s.size : Int)
    · go_enter Tryz.func4, Tryz.ntmps4
      go_wp2_with fail
      go_ret
      exact TV.of false rfl (rfl) (by simp)
    · go_enter Tryz.func4, Tryz.ntmps4
      go_wp2_with fail
      go_loopw [24] (fun t24 wr => t24 = .int .i64 0 ∧ wr = w) (fun _ _ => 0)
      case atStart => exact ⟨rfl, rfl⟩
      case round =>
        obtain ⟨rfl, rfl⟩ := hrel
        go_wp2_with fail
        go_ret
        exact TV.of true rfl (rfl) (fun _ => by omega)
end Go.Proofs
end
