/- A part of the proof of the statement on the law FnStates, which the last text proves: part P2. -/
import Derived.Test.YtlceacefhnllbaaGreatDoorP1
set_option linter.all false
section
namespace Pl

/-! ### how long a closure is -/

def dg (N : Bd) (v : Nat) : Nat := if v = 0 then 1 else max 1 (N.out v).length

def pk (N : Bd) (k : Nat) : Nat → Nat
  | 0 => 1
  | v + 1 => (if (N.cl k v).isSome then dg N v else 1) * pk N k v

def pd (N : Bd) : Nat → Nat
  | 0 => 1
  | v + 1 => dg N v * pd N v

theorem dg_pos (N : Bd) (v : Nat) : 1 ≤ dg N v := by
  unfold dg; split
  · exact Nat.le_refl _
  · exact Nat.le_max_left _ _

theorem pk_pos (N : Bd) (k : Nat) : ∀ n, 1 ≤ pk N k n
  | 0 => Nat.le_refl _
  | v + 1 => by
    simp only [pk]
    have := pk_pos N k v
    have h : 1 ≤ (if (N.cl k v).isSome then dg N v else 1) := by split; exact dg_pos N v; exact Nat.le_refl _
    exact Nat.mul_le_mul h this

theorem pk_le_pd (N : Bd) (k : Nat) : ∀ n, pk N k n ≤ pd N n
  | 0 => Nat.le_refl _
  | v + 1 => by
    simp only [pk, pd]
    refine Nat.mul_le_mul ?_ (pk_le_pd N k v)
    split
    · exact Nat.le_refl _
    · exact dg_pos N v

theorem pk_step (N : Bd) (k : Nat) : ∀ n, pk N k n ≤ pk N (k + 1) n
  | 0 => Nat.le_refl _
  | v + 1 => by
    simp only [pk]
    refine Nat.mul_le_mul ?_ (pk_step N k v)
    split
    · rename_i h
      obtain ⟨L, hL⟩ := Option.isSome_iff_exists.1 h
      rw [if_pos (by rw [cl_mono1 N k v L hL]; rfl)]; exact Nat.le_refl _
    · split
      · exact dg_pos N v
      · exact Nat.le_refl _

theorem pk_new (N : Bd) (k s : Nat) (h0 : N.cl k s = none) (h1 : (N.cl (k + 1) s).isSome) : ∀ n, s < n → dg N s * pk N k n ≤ pk N (k + 1) n
  | 0, h => by omega
  | v + 1, h => by
    simp only [pk]
    by_cases e : s = v
    · subst e
      rw [if_neg (by simp [h0]), if_pos h1, Nat.one_mul]
      exact Nat.mul_le_mul (Nat.le_refl _) (pk_step N k s)
    · have ih := pk_new N k s h0 h1 v (by omega)
      have hm : (if (N.cl k v).isSome then dg N v else 1) ≤ (if (N.cl (k + 1) v).isSome then dg N v else 1) := by
        split
        · rename_i h
          obtain ⟨L, hL⟩ := Option.isSome_iff_exists.1 h
          rw [if_pos (by rw [cl_mono1 N k v L hL]; rfl)]; exact Nat.le_refl _
        · split
          · exact dg_pos N v
          · exact Nat.le_refl _
      calc dg N s * ((if (N.cl k v).isSome then dg N v else 1) * pk N k v) = (if (N.cl k v).isSome then dg N v else 1) * (dg N s * pk N k v) := by rw [Nat.mul_left_comm]
        _ ≤ _ := Nat.mul_le_mul hm ih

theorem clL_len {N : Bd} {k M : Nat} : ∀ (ts : List Nat) (L : List Nat), (∀ t ∈ ts, ∀ l, N.cl k t = some l → l.length ≤ M) → clL N k ts = some L → L.length ≤ ts.length * M
  | [], L, _, h => by simp at h; subst h; simp
  | t :: ts, L, hM, h => by
    rw [clL_cons] at h
    obtain ⟨l, hl, h⟩ := Option.bind_eq_some_iff.1 h
    obtain ⟨m, hm, h⟩ := Option.map_eq_some_iff.1 h
    subst h
    have h1 := hM t (by simp) l hl
    have h2 := clL_len ts m (fun x hx => hM x (by simp [hx])) hm
    simp only [List.length_append, List.length_cons, Nat.add_mul, Nat.one_mul]
    omega

theorem cl_len (N : Bd) (n : Nat) (hn : ∀ v, ∀ e ∈ N.out v, e.dst < n ∧ e.dst ≠ 0) : ∀ k s L, s < n → s ≠ 0 → N.cl k s = some L → L.length ≤ pk N k n
  | 0, s, L, _, _, h => by simp [Bd.cl] at h
  | k + 1, s, L, hs, hs0, h => by
    have h' := h
    rw [cl_succ] at h
    by_cases hl : N.leaf s = true
    · rw [if_pos hl] at h
      simp at h; subst h
      exact pk_pos N (k + 1) n
    · rw [if_neg hl] at h
      have hM : ∀ t ∈ (N.out s).map (·.dst), ∀ l, N.cl k t = some l → l.length ≤ pk N k n := by
        intro t ht l hl
        obtain ⟨e, he, rfl⟩ := List.mem_map.1 ht
        exact cl_len N n hn k e.dst l (hn s e he).1 (hn s e he).2 hl
      cases h0 : N.cl k s with
      | some L0 =>
        have := cl_mono1 N k s L0 h0
        rw [h'] at this
        simp at this; subst this
        exact Nat.le_trans (cl_len N n hn k s L hs hs0 h0) (pk_step N k n)
      | none =>
        have h1 := clL_len _ L hM h
        have h2 := pk_new N k s h0 (by rw [h']; rfl) n hs
        rw [List.length_map] at h1
        have h3 : (N.out s).length * pk N k n ≤ dg N s * pk N k n := Nat.mul_le_mul (by unfold dg; rw [if_neg hs0]; exact Nat.le_max_right _ _) (Nat.le_refl _)
        omega

theorem cl_len_pd {N : Bd} {n : Nat} (hn : ∀ v, ∀ e ∈ N.out v, e.dst < n ∧ e.dst ≠ 0) {k s : Nat} {L : List Nat} (hs : s < n) (hs0 : s ≠ 0) (h : N.cl k s = some L) : L.length ≤ pd N n :=
  Nat.le_trans (cl_len N n hn k s L hs hs0 h) (pk_le_pd N k n)

/-! ### the product of the degrees, by the size of the rules -/

/-- The degrees of the states from lo on, below hi. -/
def pr (N : Bd) (lo : Nat) : Nat → Nat
  | 0 => 1
  | n + 1 => dg N (lo + n) * pr N lo n

theorem pr_add (N : Bd) (lo a : Nat) : ∀ b, pr N lo (a + b) = pr N lo a * pr N (lo + a) b
  | 0 => by simp [pr]
  | b + 1 => by
    rw [← Nat.add_assoc]
    simp only [pr]
    rw [pr_add N lo a b, Nat.mul_left_comm, Nat.add_assoc]

theorem dg_one {N : Bd} {v : Nat} {x : LE} (h : N.out v = [x]) : dg N v = 1 := by unfold dg; split <;> simp [h]
theorem pr_one (N : Bd) (lo : Nat) : pr N lo 1 = dg N lo := by simp [pr]
theorem pr_zero (N : Bd) (lo : Nat) : pr N lo 0 = 1 := rfl

/-- x ^ 8 * 2 ^ c ≤ 128 ^ s. -/
def Fits (x c s : Nat) : Prop := x ^ 8 * 2 ^ c ≤ 128 ^ s

theorem Fits.mul {x y c d s t : Nat} (h : Fits x c s) (k : Fits y d t) : Fits (x * y) (c + d) (s + t) := by
  unfold Fits at *
  rw [Nat.mul_pow, Nat.pow_add, Nat.pow_add]
  calc x ^ 8 * y ^ 8 * (2 ^ c * 2 ^ d) = (x ^ 8 * 2 ^ c) * (y ^ 8 * 2 ^ d) := by
        rw [Nat.mul_mul_mul_comm]
    _ ≤ _ := Nat.mul_le_mul h k

theorem Fits.weak {x c d s : Nat} (h : Fits x c s) (hd : d ≤ c) : Fits x d s := by
  unfold Fits at *
  exact Nat.le_trans (Nat.mul_le_mul (Nat.le_refl _) (Nat.pow_le_pow_right (by decide) hd)) h

theorem Fits.times {X k c S m : Nat} (h : Fits X (k * c) S) (hm : m ^ 8 * 2 ^ (c - 1) ≤ 128 * 2 ^ (k * c)) : Fits (m * X) (c - 1) (S + 1) := by
  unfold Fits at *
  rw [Nat.mul_pow]
  calc m ^ 8 * X ^ 8 * 2 ^ (c - 1) = (m ^ 8 * 2 ^ (c - 1)) * X ^ 8 := by rw [Nat.mul_right_comm]
    _ ≤ (128 * 2 ^ (k * c)) * X ^ 8 := Nat.mul_le_mul hm (Nat.le_refl _)
    _ = 128 * (X ^ 8 * 2 ^ (k * c)) := by rw [Nat.mul_assoc, Nat.mul_comm (2 ^ _)]
    _ ≤ 128 * 128 ^ S := Nat.mul_le_mul (Nat.le_refl _) h
    _ = 128 ^ (S + 1) := by rw [Nat.pow_succ, Nat.mul_comm]

theorem dg_le {N : Bd} {v m : Nat} (h : (N.out v).length ≤ m) (hm : 1 ≤ m) : dg N v ≤ m := by
  unfold dg; split
  · exact hm
  · exact Nat.max_le.2 ⟨hm, h⟩

theorem Fits.le {x y c s : Nat} (h : Fits y c s) (hx : x ≤ y) : Fits x c s := by
  unfold Fits at *
  exact Nat.le_trans (Nat.mul_le_mul (Nat.pow_le_pow_left hx 8) (Nat.le_refl _)) h

theorem deg1 (c : Nat) : 1 ^ 8 * 2 ^ (c - 1) ≤ 128 * 2 ^ (1 * c) := by
  have h : 2 ^ (c - 1) ≤ 2 ^ (1 * c) := Nat.pow_le_pow_right (by decide) (by omega)
  omega
theorem deg2 (c : Nat) (hc : 1 ≤ c) : 2 ^ 8 * 2 ^ (c - 1) ≤ 128 * 2 ^ (1 * c) := by
  obtain ⟨c, rfl⟩ : ∃ d, c = d + 1 := ⟨c - 1, by omega⟩
  rw [Nat.one_mul, Nat.pow_succ, Nat.add_sub_cancel]
  omega
theorem degs (k c : Nat) (hk : 1 ≤ k) (hk4 : k ≤ 4) (hc : 4 ≤ c) (hc8 : c ≤ 8) : k ^ 8 * 2 ^ (c - 1) ≤ 128 * 2 ^ (k * c) := by
  rcases (show k = 1 ∨ k = 2 ∨ k = 3 ∨ k = 4 by omega) with rfl | rfl | rfl | rfl <;> rcases (show c = 4 ∨ c = 5 ∨ c = 6 ∨ c = 7 ∨ c = 8 by omega) with rfl | rfl | rfl | rfl | rfl <;> decide

theorem lgE_deep {e : Ex} {d : Nat} (h : lgE e d = true) : 1 ≤ d := by
  cases e with
  | mk op a b subs =>
    simp only [lgE] at h
    split at h
    · cases h
    · omega

mutual
theorem prE (N : Bd) (r : Nat) : ∀ (e : Ex) (lo hi f t : Nat), FE N r e lo hi f t → dg N t = 1 → ∀ d, d ≤ 5 → lgE e d = true → Fits (pr N lo (hi - lo)) (8 - d) (szE e)
  | .mk op a b subs, lo, hi, f, t, h, ht, d, hd5, hg => by
    have hd1 := lgE_deep hg
    simp only [FE] at h
    simp only [lgE] at hg
    split at hg
    · cases hg
    rename_i hd
    simp only [Bool.and_eq_true] at hg
    obtain ⟨hgl, hgo⟩ := hg
    simp only [szE]
    by_cases o0 : op = 0
    · subst o0
      simp only [if_true] at h
      obtain ⟨rfl, rfl, rfl, _, _, h1⟩ := h
      rw [show f + 2 - f = 1 + 1 by omega, pr_add, pr_one, pr_one, ht, dg_one h1]
      unfold Fits
      have : 2 ^ (8 - d) ≤ 2 ^ 7 := Nat.pow_le_pow_right (by decide) (by omega)
      have h3 : 128 ^ 1 ≤ 128 ^ (1 + szL subs) := Nat.pow_le_pow_right (by decide) (by omega)
      omega
    by_cases o1 : op = 1
    · subst o1
      simp only [if_true, show (1 : Int) ≠ 0 by decide, if_false] at h
      obtain ⟨rfl, rfl, _, _, h1⟩ := h
      have hle := rowLe N r subs _ _ _ h1
      obtain ⟨h2, h3⟩ := prRow N r subs _ _ _ h1 (d - 1) (by omega) hgl
      rw [show t + 1 - f = 1 + (t - (f + 1)) + 1 by omega, pr_add, pr_add, pr_one, pr_one, show f + (1 + (t - (f + 1))) = t by omega, ht, h3]
      rw [Nat.one_mul, Nat.mul_one, Nat.add_comm 1 (szL subs)]
      cases subs with
      | nil =>
        simp only [FRow] at h1
        obtain ⟨rfl, _⟩ := h1
        rw [Nat.sub_self, pr_zero]
        unfold Fits
        have : 2 ^ (8 - d) ≤ 2 ^ 7 := Nat.pow_le_pow_right (by decide) (by omega)
        have h3 : 128 ^ 1 ≤ 128 ^ (szL [] + 1) := Nat.pow_le_pow_right (by decide) (by omega)
        omega
      | cons e es =>
        have h4 : Fits (pr N (f + 1) (t - (f + 1))) (8 - d) (szL (e :: es)) := h2.weak (by
          simp only [List.length_cons, Nat.add_mul, Nat.one_mul]
          omega)
        unfold Fits at *
        refine Nat.le_trans h4 (Nat.pow_le_pow_right (by decide) (by omega))
    have hsub1 : 1 ≤ subs.length → 1 ≤ d - 1 := by
      intro hl
      cases subs with
      | nil => simp at hl
      | cons e es =>
        simp only [lgL, Bool.and_eq_true] at hgl
        exact lgE_deep hgl.1
    by_cases o25 : op = 2 ∨ op = 5
    · simp only [o0, o1, if_false, o25, if_true] at h
      obtain ⟨rfl, rfl, _, _, fs, h1, h2⟩ := h
      have hle := subsLe N r subs _ _ _ _ h1
      obtain ⟨h3, h4⟩ := prSubs N r subs _ _ _ _ h1 (d - 1) (by omega) hgl
      rw [show hi - f = 1 + (1 + (hi - (f + 2))) by omega, pr_add, pr_add, pr_one, pr_one, ht, Nat.one_mul, Nat.add_assoc f 1 1, show 1 + 1 = 2 from rfl, Nat.add_comm 1 (szL subs)]
      have hl : 1 ≤ subs.length ∧ subs.length ≤ 4 ∧ (op = 5 → subs.length = 1) := by
        rcases o25 with rfl | rfl
        · simp only [show (2 : Int) ≠ 0 by decide, show (2 : Int) ≠ 1 by decide, if_true, if_false, decide_eq_true_eq] at hgo
          exact ⟨by omega, by omega, fun e => absurd e (by decide)⟩
        · simp only [show (5 : Int) ≠ 0 by decide, show (5 : Int) ≠ 1 by decide, show (5 : Int) ≠ 2 by decide, if_false, Bool.and_eq_true, decide_eq_true_eq] at hgo
          exact ⟨by omega, by omega, fun _ => hgo.2⟩
      have hd2 := hsub1 hl.1
      rw [show 8 - d = (9 - d) - 1 by omega]
      rw [show 8 - (d - 1) = 9 - d by omega] at h3
      by_cases o5 : op = 5
      · have hl1 := hl.2.2 o5
        rw [hl1] at h3
        refine Fits.le (h3.times (deg2 (9 - d) (by omega))) (Nat.mul_le_mul (dg_le ?_ (by decide)) (Nat.le_refl _))
        rw [h2, if_pos o5]; simp [h4, hl1]
      · refine Fits.le (h3.times (degs subs.length (9 - d) hl.1 hl.2.1 (by omega) (by omega))) (Nat.mul_le_mul (dg_le ?_ hl.1) (Nat.le_refl _))
        rw [h2, if_neg o5]; simp [h4]
    have hl1 : subs.length = 1 := by
      have o2 : op ≠ 2 := fun e => o25 (Or.inl e)
      simp only [o0, o1, o2, if_false, Bool.and_eq_true, decide_eq_true_eq] at hgo
      exact hgo.2
    have hd2 := hsub1 (by omega)
    rw [show 8 - d = (9 - d) - 1 by omega, Nat.add_comm 1 (szL subs)]
    by_cases o3 : op = 3
    · subst o3
      simp only [show (3 : Int) ≠ 0 by decide, show (3 : Int) ≠ 1 by decide, show ¬ ((3 : Int) = 2 ∨ (3 : Int) = 5) by decide, if_false, if_true] at h
      obtain ⟨rfl, rfl, _, _, _, _, _, ⟨fs, h1, h2⟩, h3, h4, h5⟩ := h
      have hle := subsLe N r subs _ _ _ _ h1
      obtain ⟨k3, k4⟩ := prSubs N r subs _ _ _ _ h1 (d - 1) (by omega) hgl
      rw [show 8 - (d - 1) = 9 - d by omega, hl1] at k3
      rw [show hi - t = 1 + (1 + (1 + (1 + (1 + (hi - (t + 5)))))) by omega, pr_add, pr_add, pr_add, pr_add, pr_add, pr_one, pr_one, pr_one, pr_one, pr_one, ht]
      rw [show t + 1 + 1 = t + 2 from rfl, show t + 2 + 1 = t + 3 from rfl, show t + 3 + 1 = t + 4 from rfl, show t + 4 + 1 = t + 5 from rfl, dg_one h4, dg_one h5]
      have h6 : dg N (t + 3) ≤ 1 := dg_le (by rw [h2]; simp [k4, hl1]) (Nat.le_refl _)
      have h7 : dg N (t + 1) ≤ 2 := dg_le (by rw [h3]; simp) (by decide)
      refine Fits.le (k3.times (deg2 (9 - d) (by omega))) ?_
      rw [Nat.one_mul, Nat.one_mul, Nat.one_mul]
      exact Nat.mul_le_mul h7 (by have := Nat.mul_le_mul h6 (Nat.le_refl (pr N (t + 5) (hi - (t + 5)))); omega)
    · simp only [o0, o1, o25, o3, if_false] at h
      obtain ⟨rfl, rfl, _, _, _, _, ⟨fs, h1, h2⟩, h3, h4⟩ := h
      have hle := subsLe N r subs _ _ _ _ h1
      obtain ⟨k3, k4⟩ := prSubs N r subs _ _ _ _ h1 (d - 1) (by omega) hgl
      rw [show 8 - (d - 1) = 9 - d by omega, hl1] at k3
      rw [show hi - t = 1 + (1 + (1 + (1 + (hi - (t + 4))))) by omega, pr_add, pr_add, pr_add, pr_add, pr_one, pr_one, pr_one, pr_one, ht]
      rw [show t + 1 + 1 = t + 2 from rfl, show t + 2 + 1 = t + 3 from rfl, show t + 3 + 1 = t + 4 from rfl, dg_one h3]
      have h6 : dg N (t + 2) ≤ 1 := dg_le (by rw [h2]; simp [k4, hl1]) (Nat.le_refl _)
      have h7 : dg N (t + 1) ≤ 2 := dg_le (by rw [h4]; simp) (by decide)
      refine Fits.le (k3.times (deg2 (9 - d) (by omega))) ?_
      rw [Nat.one_mul, Nat.one_mul]
      exact Nat.mul_le_mul h7 (by have := Nat.mul_le_mul h6 (Nat.le_refl (pr N (t + 4) (hi - (t + 4)))); omega)
theorem prRow (N : Bd) (r : Nat) : ∀ (es : List Ex) (lo hi at_ : Nat), FRow N r es lo hi at_ → ∀ d, d ≤ 5 → lgL es d = true → Fits (pr N lo (hi - lo)) (es.length * (8 - d)) (szL es) ∧ dg N at_ = 1
  | [], lo, hi, at_, h, d, hd, hg => by
    simp only [FRow] at h
    obtain ⟨rfl, h1⟩ := h
    refine ⟨?_, dg_one h1⟩
    rw [Nat.sub_self, pr_zero]; simp [Fits, szL]
  | e :: es, lo, hi, at_, h, d, hd, hg => by
    simp only [FRow] at h
    obtain ⟨m, f, t, h1, h2, h3⟩ := h
    simp only [lgL, Bool.and_eq_true] at hg
    obtain ⟨k1, k2⟩ := prRow N r es _ _ _ h3 d hd hg.2
    have k3 := prE N r e _ _ _ _ h1 k2 d hd hg.1
    have l1 := eLe N r e _ _ _ _ h1
    have l2 := rowLe N r es _ _ _ h3
    refine ⟨?_, dg_one h2⟩
    rw [show hi - lo = (m - lo) + (hi - m) by omega, pr_add, show lo + (m - lo) = m by omega]
    simp only [List.length_cons, szL]
    rw [Nat.add_mul, Nat.one_mul, Nat.add_comm (es.length * (8 - d))]
    exact k3.mul k1
theorem prSubs (N : Bd) (r : Nat) : ∀ (es : List Ex) (lo hi en : Nat) (fs : List Nat), FSubs N r es lo hi en fs → ∀ d, d ≤ 5 → lgL es d = true → Fits (pr N lo (hi - lo)) (es.length * (8 - d)) (szL es) ∧ fs.length = es.length
  | [], lo, hi, en, fs, h, d, hd, hg => by
    simp only [FSubs] at h
    obtain ⟨rfl, rfl⟩ := h
    refine ⟨?_, rfl⟩
    rw [Nat.sub_self, pr_zero]; simp [Fits, szL]
  | e :: es, lo, hi, en, fs, h, d, hd, hg => by
    simp only [FSubs] at h
    obtain ⟨m, f, t, fs', h1, h2, rfl, h3⟩ := h
    simp only [lgL, Bool.and_eq_true] at hg
    obtain ⟨k1, k2⟩ := prSubs N r es _ _ _ _ h3 d hd hg.2
    have k3 := prE N r e _ _ _ _ h1 (dg_one h2) d hd hg.1
    have l1 := eLe N r e _ _ _ _ h1
    have l2 := subsLe N r es _ _ _ _ h3
    refine ⟨?_, by simp [k2]⟩
    rw [show hi - lo = (m - lo) + (hi - m) by omega, pr_add, show lo + (m - lo) = m by omega]
    simp only [List.length_cons, szL]
    rw [Nat.add_mul, Nat.one_mul, Nat.add_comm (es.length * (8 - d))]
    exact k3.mul k1
end

end Pl
end
section
namespace Pl

def hitE (e : LE) (c : Int) : Bool := if e.kind = 5 then e.a1 == c else if e.kind = 2 then decide (e.a1 ≤ c) && decide (c ≤ e.a2) else false

/-- What one configuration's edges add at a character. -/
def edgeA (N : Bd) (f : Nat) (c : Int) (a : Nat) : List LE → Option (List (Nat × Nat))
  | [] => some []
  | e :: es => if hitE e c then (N.cl f e.dst).bind fun l => (edgeA N f c a es).map fun r => l.map (fun s => (s, a)) ++ r else edgeA N f c a es

def stepA (N : Bd) (f : Nat) (c : Int) : List (Nat × Nat) → Option (List (Nat × Nat))
  | [] => some []
  | x :: xs => (edgeA N f c x.2 (N.out x.1)).bind fun l => (stepA N f c xs).map fun r => l ++ r

theorem edgeA_take {N : Bd} {f : Nat} {c : Int} {a : Nat} : ∀ (es : List LE) (A : List (Nat × Nat)), edgeA N f c a es = some A → ∀ k, k < es.length → ∃ A1 e A2, edgeA N f c a (es.take k) = some A1 ∧ es[k]? = some e ∧ 
    (hitE e c = true → ∃ l, N.cl f e.dst = some l ∧ edgeA N f c a (es.take (k + 1)) = some (A1 ++ l.map (fun s => (s, a))) ∧ A = A1 ++ l.map (fun s => (s, a)) ++ A2) ∧
    (hitE e c = false → edgeA N f c a (es.take (k + 1)) = some A1 ∧ A = A1 ++ A2)
  | [], A, h, k, hk => by simp at hk
  | e :: es, A, h, k, hk => by
    unfold edgeA at h
    by_cases hh : hitE e c = true
    · rw [if_pos hh] at h
      obtain ⟨l, hl, h⟩ := Option.bind_eq_some_iff.1 h
      obtain ⟨r, hr, rfl⟩ := Option.map_eq_some_iff.1 h
      cases k with
      | zero => exact ⟨[], e, r, rfl, rfl, fun _ => ⟨l, hl, by simp [edgeA, hh, hl], by simp⟩, fun h => by rw [hh] at h; cases h⟩
      | succ k =>
        obtain ⟨A1, e', A2, h1, h2, h3, h4⟩ := edgeA_take es r hr k (by simpa using hk)
        refine ⟨l.map (fun s => (s, a)) ++ A1, e', A2, by simp [edgeA, hh, hl, h1], by simpa using h2, fun ht => ?_, fun ht => ?_⟩
        · obtain ⟨l', g1, g2, g3⟩ := h3 ht
          exact ⟨l', g1, by rw [List.take_succ_cons]; simp [edgeA, hh, hl, g2], by rw [g3]; simp⟩
        · obtain ⟨g1, g2⟩ := h4 ht
          exact ⟨by rw [List.take_succ_cons]; simp [edgeA, hh, hl, g1], by rw [g2]; simp⟩
    · rw [if_neg hh] at h
      have hh' : hitE e c = false := by simpa using hh
      cases k with
      | zero => exact ⟨[], e, A, rfl, rfl, fun h => absurd h hh, fun _ => ⟨by simp [edgeA, hh'], by simp⟩⟩
      | succ k =>
        obtain ⟨A1, e', A2, h1, h2, h3, h4⟩ := edgeA_take es A h k (by simpa using hk)
        refine ⟨A1, e', A2, by simp [edgeA, hh', h1], by simpa using h2, fun ht => ?_, fun ht => ?_⟩
        · obtain ⟨l', g1, g2, g3⟩ := h3 ht
          exact ⟨l', g1, by rw [List.take_succ_cons]; simp [edgeA, hh', g2], g3⟩
        · obtain ⟨g1, g2⟩ := h4 ht
          exact ⟨by rw [List.take_succ_cons]; simp [edgeA, hh', g1], g2⟩

theorem stepA_take {N : Bd} {f : Nat} {c : Int} : ∀ (xs : List (Nat × Nat)) (A : List (Nat × Nat)), stepA N f c xs = some A → ∀ k, k < xs.length → ∃ A1 x E A2, stepA N f c (xs.take k) = some A1 ∧ xs[k]? = some x ∧ edgeA N f c x.2 (N.out x.1) = some E ∧
    stepA N f c (xs.take (k + 1)) = some (A1 ++ E) ∧ A = A1 ++ E ++ A2
  | [], A, h, k, hk => by simp at hk
  | x :: xs, A, h, k, hk => by
    unfold stepA at h
    obtain ⟨l, hl, h⟩ := Option.bind_eq_some_iff.1 h
    obtain ⟨r, hr, rfl⟩ := Option.map_eq_some_iff.1 h
    cases k with
    | zero => exact ⟨[], x, l, r, rfl, rfl, hl, by simp [stepA, hl], by simp⟩
    | succ k =>
      obtain ⟨A1, x', E, A2, h1, h2, h3, h4, h5⟩ := stepA_take xs r hr k (by simpa using hk)
      exact ⟨l ++ A1, x', E, A2, by simp [stepA, hl, h1], by simpa using h2, h3, by rw [List.take_succ_cons]; simp [stepA, hl, h4], by rw [h5]; simp⟩

end Pl
end
