/- A part of the proof of the statement on the law FnStates, which the last text proves: part P4. -/
import Derived.Test.YtlceacefhnllbaaGreatDoorP3
set_option linter.all false
section
namespace Pl

/-! ### edges stay within a rule -/
def rl (N : Bd) (s : Nat) : Nat := (N.st.getD s ⟨0, 0, 0⟩).rule
theorem rl_of {N : Bd} {i : Nat} {s : LS} (h : N.st[i]? = some s) : rl N i = s.rule := by simp [rl, List.getD, h]

structure InE (N : Bd) (r lo hi f t : Nat) : Prop where
  ft : lo ≤ f ∧ f < hi ∧ lo ≤ t ∧ t < hi
  all : ∀ i, lo ≤ i → i < hi → rl N i = r ∧ (i ≠ t → ∀ x ∈ N.out i, lo ≤ x.dst ∧ x.dst < hi)
structure InRow (N : Bd) (r lo hi at_ : Nat) : Prop where
  le : lo ≤ hi
  fst : ∀ x ∈ N.out at_, lo ≤ x.dst ∧ x.dst ≤ hi
  all : ∀ i, lo ≤ i → i < hi → rl N i = r ∧ ∀ x ∈ N.out i, lo ≤ x.dst ∧ x.dst ≤ hi
structure InSubs (N : Bd) (r lo hi en : Nat) (fs : List Nat) : Prop where
  le : lo ≤ hi
  fst : ∀ f ∈ fs, lo ≤ f ∧ f < hi
  all : ∀ i, lo ≤ i → i < hi → rl N i = r ∧ ∀ x ∈ N.out i, lo ≤ x.dst ∧ x.dst < hi ∨ x.dst = en

mutual
theorem inE (N : Bd) (r : Nat) : ∀ (e : Ex) (lo hi f t : Nat), FE N r e lo hi f t → InE N r lo hi f t
  | .mk op a b subs, lo, hi, f, t, h => by
    simp only [FE] at h
    split at h
    · obtain ⟨rfl, rfl, rfl, h1, h2, h3⟩ := h
      refine ⟨by omega, fun i hi1 hi2 => ?_⟩
      rcases (show i = f ∨ i = f + 1 by omega) with rfl | rfl
      · exact ⟨rl_of h1, fun _ x hx => by rw [h3] at hx; simp at hx; subst hx; simp⟩
      · exact ⟨rl_of h2, fun h => absurd rfl h⟩
    split at h
    · obtain ⟨rfl, rfl, h1, h2, h3⟩ := h
      have k := inRow N r subs _ _ _ h3
      have kl := k.le
      refine ⟨by omega, fun i hi1 hi2 => ?_⟩
      rcases (show i = f ∨ i = t ∨ (f + 1 ≤ i ∧ i < t) by omega) with rfl | rfl | ⟨h4, h5⟩
      · exact ⟨rl_of h1, fun _ x hx => by have := k.fst x hx; omega⟩
      · exact ⟨rl_of h2, fun h => absurd rfl h⟩
      · obtain ⟨k1, k2⟩ := k.all i h4 h5
        exact ⟨k1, fun _ x hx => by have := k2 x hx; omega⟩
    split at h
    · obtain ⟨rfl, rfl, h1, h2, fs, h3, h4⟩ := h
      have k := inSubs N r subs _ _ _ _ h3
      have kl := k.le
      refine ⟨by omega, fun i hi1 hi2 => ?_⟩
      rcases (show i = f ∨ i = f + 1 ∨ f + 2 ≤ i by omega) with rfl | rfl | h5
      · refine ⟨rl_of h1, fun _ x hx => ?_⟩
        rw [h4] at hx
        rcases List.mem_append.1 hx with hx | hx
        · obtain ⟨g, hg, rfl⟩ := List.mem_map.1 hx
          have := k.fst g hg
          simp; omega
        · split at hx
          · simp at hx; subst hx; simp; omega
          · simp at hx
      · exact ⟨rl_of h2, fun h => absurd rfl h⟩
      · obtain ⟨k1, k2⟩ := k.all i h5 hi2
        exact ⟨k1, fun _ x hx => by have := k2 x hx; omega⟩
    split at h
    · obtain ⟨rfl, rfl, h1, h2, h3, h4, h5, ⟨fs, h6, h7⟩, h8, h9, h10⟩ := h
      have k := inSubs N r subs _ _ _ _ h6
      have kl := k.le
      refine ⟨by omega, fun i hi1 hi2 => ?_⟩
      rcases (show i = t ∨ i = t + 1 ∨ i = t + 2 ∨ i = t + 3 ∨ i = t + 4 ∨ t + 5 ≤ i by omega) with rfl | rfl | rfl | rfl | rfl | h5'
      · exact ⟨rl_of h1, fun h => absurd rfl h⟩
      · refine ⟨rl_of h2, fun _ x hx => ?_⟩
        rw [h8] at hx; simp at hx; rcases hx with rfl | rfl <;> simp <;> omega
      · refine ⟨rl_of h3, fun _ x hx => ?_⟩
        rw [h10] at hx; simp at hx; subst hx; simp; omega
      · refine ⟨rl_of h4, fun _ x hx => ?_⟩
        rw [h7] at hx
        obtain ⟨g, hg, rfl⟩ := List.mem_map.1 hx
        have := k.fst g hg
        simp; omega
      · refine ⟨rl_of h5, fun _ x hx => ?_⟩
        rw [h9] at hx; simp at hx; subst hx; simp; omega
      · obtain ⟨k1, k2⟩ := k.all i h5' hi2
        exact ⟨k1, fun _ x hx => by have := k2 x hx; omega⟩
    · obtain ⟨rfl, rfl, h1, h2, h3, h4, ⟨fs, h6, h7⟩, h8, h9⟩ := h
      have k := inSubs N r subs _ _ _ _ h6
      have kl := k.le
      refine ⟨by omega, fun i hi1 hi2 => ?_⟩
      rcases (show i = t ∨ i = t + 1 ∨ i = t + 2 ∨ i = t + 3 ∨ t + 4 ≤ i by omega) with rfl | rfl | rfl | rfl | h5'
      · exact ⟨rl_of h1, fun h => absurd rfl h⟩
      · refine ⟨rl_of h2, fun _ x hx => ?_⟩
        rw [h9] at hx; simp at hx; rcases hx with rfl | rfl <;> simp <;> omega
      · refine ⟨rl_of h3, fun _ x hx => ?_⟩
        rw [h7] at hx
        obtain ⟨g, hg, rfl⟩ := List.mem_map.1 hx
        have := k.fst g hg
        simp; omega
      · refine ⟨rl_of h4, fun _ x hx => ?_⟩
        rw [h8] at hx; simp at hx; subst hx; simp; omega
      · obtain ⟨k1, k2⟩ := k.all i h5' hi2
        exact ⟨k1, fun _ x hx => by have := k2 x hx; omega⟩
theorem inRow (N : Bd) (r : Nat) : ∀ (es : List Ex) (lo hi at_ : Nat), FRow N r es lo hi at_ → InRow N r lo hi at_
  | [], lo, hi, at_, h => by
    simp only [FRow] at h
    obtain ⟨rfl, h1⟩ := h
    exact ⟨Nat.le_refl _, fun x hx => by rw [h1] at hx; simp at hx; subst hx; simp, fun i h2 h3 => by omega⟩
  | e :: es, lo, hi, at_, h => by
    simp only [FRow] at h
    obtain ⟨m, f, t, h1, h2, h3⟩ := h
    have k1 := inE N r e _ _ _ _ h1
    have k2 := inRow N r es _ _ _ h3
    have l1 := k1.ft
    have l2 := k2.le
    refine ⟨by omega, fun x hx => by rw [h2] at hx; simp at hx; subst hx; simp; omega, fun i h4 h5 => ?_⟩
    by_cases h6 : i < m
    · obtain ⟨a1, a2⟩ := k1.all i h4 h6
      refine ⟨a1, fun x hx => ?_⟩
      by_cases h7 : i = t
      · subst h7; have := k2.fst x hx; omega
      · have := a2 h7 x hx; omega
    · obtain ⟨a1, a2⟩ := k2.all i (by omega) h5
      exact ⟨a1, fun x hx => by have := a2 x hx; omega⟩
theorem inSubs (N : Bd) (r : Nat) : ∀ (es : List Ex) (lo hi en : Nat) (fs : List Nat), FSubs N r es lo hi en fs → InSubs N r lo hi en fs
  | [], lo, hi, en, fs, h => by
    simp only [FSubs] at h
    obtain ⟨rfl, rfl⟩ := h
    exact ⟨Nat.le_refl _, fun f hf => by simp at hf, fun i h2 h3 => by omega⟩
  | e :: es, lo, hi, en, fs, h => by
    simp only [FSubs] at h
    obtain ⟨m, f, t, fs', h1, h2, rfl, h3⟩ := h
    have k1 := inE N r e _ _ _ _ h1
    have k2 := inSubs N r es _ _ _ _ h3
    have l1 := k1.ft
    have l2 := k2.le
    refine ⟨by omega, fun g hg => ?_, fun i h4 h5 => ?_⟩
    · rcases List.mem_cons.1 hg with rfl | hg
      · omega
      · have := k2.fst g hg; omega
    by_cases h6 : i < m
    · obtain ⟨a1, a2⟩ := k1.all i h4 h6
      refine ⟨a1, fun x hx => ?_⟩
      by_cases h7 : i = t
      · subst h7; rw [h2] at hx; simp at hx; subst hx; simp
      · have := a2 h7 x hx; omega
    · obtain ⟨a1, a2⟩ := k2.all i (by omega) h5
      exact ⟨a1, fun x hx => by have := a2 x hx; omega⟩
end

theorem inRules (N : Bd) : ∀ (es : List Ex) (i lo hi : Nat) (ss : List Nat), FRules N i es lo hi ss → lo ≤ hi ∧
    ∀ j, lo ≤ j → j < hi → i ≤ rl N j ∧ rl N j < i + es.length ∧ ∀ x ∈ N.out j, lo ≤ x.dst ∧ x.dst < hi ∧ rl N x.dst = rl N j
  | [], i, lo, hi, ss, h => by
    simp only [FRules] at h
    obtain ⟨rfl, rfl⟩ := h
    exact ⟨Nat.le_refl _, fun j h1 h2 => by omega⟩
  | e :: es, i, lo, hi, ss, h => by
    simp only [FRules] at h
    obtain ⟨m, f, t, ss', h1, h2, h3, h4, h5, h6, rfl, h7⟩ := h
    have k := inE N i e _ _ _ _ h3
    obtain ⟨l, k2⟩ := inRules N es (i + 1) m hi ss' h7
    have kf := k.ft
    simp only [List.length_cons]
    refine ⟨by omega, fun j h8 h9 => ?_⟩
    rcases (show j = lo ∨ j = lo + 1 ∨ (lo + 2 ≤ j ∧ j < m) ∨ m ≤ j by omega) with rfl | rfl | ⟨h10, h11⟩ | h10
    · rw [rl_of h1]
      refine ⟨Nat.le_refl _, by simp, fun x hx => ?_⟩
      rw [h4] at hx; simp at hx; subst hx
      rw [epsE_dst, (k.all f (by omega) (by omega)).1]; simp; omega
    · rw [rl_of h2]
      refine ⟨Nat.le_refl _, by simp, fun x hx => ?_⟩
      rw [h6] at hx; simp at hx
    · obtain ⟨a1, a2⟩ := k.all j h10 h11
      rw [a1]
      refine ⟨Nat.le_refl _, by omega, fun x hx => ?_⟩
      by_cases h12 : j = t
      · subst h12; rw [h5] at hx; simp at hx; subst hx
        rw [epsE_dst, rl_of h2]; simp; omega
      · have := a2 h12 x hx
        rw [(k.all x.dst (by omega) (by omega)).1]; omega
    · obtain ⟨a1, a2, a3⟩ := k2 j h10 h9
      exact ⟨by omega, by omega, fun x hx => by obtain ⟨b1, b2, b3⟩ := a3 x hx; exact ⟨by omega, b2, b3⟩⟩

/-- What good rules are. -/
structure GoodL (es : List Ex) : Prop where
  each : ∀ e ∈ es, GoodRule e
  pos : 1 ≤ es.length
  few : es.length ≤ 4
  size : szL es ≤ 40

/-- What is known of the network of good rules. -/
structure NetG (N : Bd) (ss : List Nat) (nr : Nat) : Prop where
  ok : NetOk N nr
  cl : ∀ j, 1 ≤ j → j < N.st.length → HasCl N j
  first : N.st[0]? = some ⟨6, 0, 0⟩
  out0 : N.out 0 = ss.map (epsE 0)
  len : ss.length = nr
  start : ∀ (k s : Nat), ss[k]? = some s → N.st[s]? = some (⟨2, k, 0⟩ : LS)
  rule : ∀ j, 1 ≤ j → j < N.st.length → rl N j < nr ∧ ∀ x ∈ N.out j, rl N x.dst = rl N j
  src : ∀ x ∈ N.ed, x.src < N.st.length
  isStart : ∀ (j : Nat) (s : LS), 1 ≤ j → N.st[j]? = some s → s.kind = 2 → ss[s.rule]? = some j

theorem netG {es : List Ex} (g : GoodL es) : NetG (compile es).1 (compile es).2 es.length := by
  obtain ⟨h1, h2, h3, h4, h5⟩ := compile_shape es
  obtain ⟨k1, k2, k3, k4, k5⟩ := rulesOk _ es.length es 0 1 _ _ h3 rfl g.each (by omega)
  obtain ⟨_, i1⟩ := inRules _ es 0 1 _ _ h3
  refine ⟨⟨fun j a b => (k1 j a b).1, fun v e he => ?_⟩, fun j a b => (k1 j a b).2, h1, h2, k2, fun k s h => by simpa using k3 k s h, fun j a b => ?_, fun x hx => (h4 x hx).2, fun j s a b c => ?_⟩
  · have hm : e ∈ (compile es).1.ed := (List.mem_filter.1 he).1
    have hsrc : e.src = v := by simpa [Bd.out] using (List.mem_filter.1 he).2
    refine ⟨(h4 e hm).1, ?_⟩
    by_cases hv : v = 0
    · subst hv
      rw [h2] at he
      obtain ⟨t, ht, rfl⟩ := List.mem_map.1 he
      obtain ⟨k, hk, hk2⟩ := List.getElem_of_mem ht
      have := k3 k t (by rw [List.getElem?_eq_getElem hk, hk2])
      intro e0
      rw [epsE_dst] at e0
      subst e0
      rw [h1] at this; simp at this
    · have := ((i1 v (by omega) (by rw [← hsrc]; exact (h4 e hm).2)).2.2 e he).1
      omega
  · obtain ⟨a1, a2, a3⟩ := i1 j a b
    exact ⟨by omega, fun x hx => (a3 x hx).2.2⟩
  · simpa using (k4 j s a (st_lt b) b c).1

end Pl
end
section
namespace Pl

/-! ### how many edges take a character -/
def isC (e : LE) : Bool := !(e.kind == 1)
def cc (B : Bd) : Nat := (B.ed.filter isC).length
theorem cc_add (B : Bd) (r k : Nat) : cc (B.add r k) = cc B := rfl
theorem cc_dec (B : Bd) (s : Nat) : cc (B.dec s) = cc B := rfl
theorem cc_arg (B : Bd) (s e : Nat) : cc (B.arg s e) = cc B := rfl
theorem cc_eps (B : Bd) (f t : Nat) : cc (B.eps f t) = cc B := by
  simp [cc, Bd.eps, List.filter_append, isC]
theorem cc_chr (B : Bd) (f t : Nat) (a b : Int) : cc (B.chr f t a b) ≤ cc B + 1 := by
  simp only [cc, Bd.chr, List.filter_append, List.length_append]
  have := List.length_filter_le isC [if a = b then (⟨f, t, 5, a, 0⟩ : LE) else ⟨f, t, 2, a, b⟩]
  simp at this; omega

mutual
theorem ccE (r : Nat) : ∀ (e : Ex) (B : Bd), cc (mkE r e B).1 ≤ cc B + szE e
  | .mk op a b subs, B => by
    simp only [mkE, szE]
    split
    · refine Nat.le_trans (cc_chr ((B.add r 1).add r 1) B.st.length (B.st.length + 1) a b) ?_
      simp only [cc_add]; omega
    split
    · simp only [cc_eps, cc_add]
      have := ccRow r subs (B.add r 1) B.st.length
      rw [cc_add] at this; omega
    split
    · simp only [cc_dec]
      have := ccSubs r B.st.length (B.st.length + 1) subs (((B.add r 3).add r 8).arg B.st.length (B.st.length + 1))
      simp only [cc_arg, cc_add] at this; omega
    split
    · simp only [cc_dec, cc_eps]
      have := ccSubs r B.st.length (B.st.length + 1) subs (((B.add r 3).add r 8).arg B.st.length (B.st.length + 1))
      simp only [cc_arg, cc_add] at this; omega
    split
    · simp only [cc_dec, cc_eps, cc_arg]
      refine Nat.le_trans (ccSubs r _ _ subs _) ?_
      simp only [cc_arg, cc_add]; omega
    · simp only [cc_dec, cc_eps, cc_arg]
      refine Nat.le_trans (ccSubs r _ _ subs _) ?_
      simp only [cc_arg, cc_add]; omega
theorem ccRow (r : Nat) : ∀ (es : List Ex) (B : Bd) (at_ : Nat), cc (mkRow r es B at_).1 ≤ cc B + szL es
  | [], B, at_ => by simp [mkRow, szL]
  | e :: es, B, at_ => by
    simp only [mkRow, szL]
    refine Nat.le_trans (ccRow r es _ _) ?_
    rw [cc_eps]
    have := ccE r e B
    omega
theorem ccSubs (r s t : Nat) : ∀ (es : List Ex) (B : Bd), cc (mkSubs r s t es B) ≤ cc B + szL es
  | [], B => by simp [mkSubs, szL]
  | e :: es, B => by
    simp only [mkSubs, szL]
    refine Nat.le_trans (ccSubs r s t es _) ?_
    rw [cc_eps, cc_eps]
    have := ccE r e B
    omega
end
theorem ccRules : ∀ (es : List Ex) (i : Nat) (B : Bd) (ss : List Nat), cc (mkRules i es B ss).1 ≤ cc B + szL es
  | [], i, B, ss => by simp [mkRules, szL]
  | e :: es, i, B, ss => by
    simp only [mkRules, szL]
    refine Nat.le_trans (ccRules es _ _ _) ?_
    simp only [mkRule, cc_eps]
    have := ccE i e ((B.add i 2).add i 7)
    simp only [cc_add] at this
    omega
theorem cc_compile (es : List Ex) : cc (compile es).1 ≤ szL es := by
  have := ccRules es 0 (((⟨[], [], []⟩ : Bd).add 0 6).dec 0) []
  rw [cc_dec, cc_add] at this
  have e : cc ⟨[], [], []⟩ = 0 := rfl
  rw [e] at this
  simpa [compile] using this

/-! ### the product of all degrees -/
theorem pd_pr (N : Bd) : ∀ n, pd N (n + 1) = pr N 1 n
  | 0 => by simp [pd, pr, dg]
  | n + 1 => by
    show dg N (n + 1) * pd N (n + 1) = dg N (1 + n) * pr N 1 n
    rw [pd_pr N n, Nat.add_comm 1 n]
theorem prRules (N : Bd) : ∀ (es : List Ex) (i lo hi : Nat) (ss : List Nat), FRules N i es lo hi ss → (∀ e ∈ es, GoodRule e) → Fits (pr N lo (hi - lo)) 0 (szL es)
  | [], i, lo, hi, ss, h, _ => by
    simp only [FRules] at h
    obtain ⟨rfl, rfl⟩ := h
    rw [Nat.sub_self, pr_zero]; simp [Fits, szL]
  | e :: es, i, lo, hi, ss, h, g => by
    simp only [FRules] at h
    obtain ⟨m, f, t, ss', h1, h2, h3, h4, h5, h6, rfl, h7⟩ := h
    have k1 := (prE N i e _ _ _ _ h3 (dg_one h5) 5 (by omega) (g e (by simp)).good).weak (Nat.zero_le _)
    have k2 := prRules N es (i + 1) m hi ss' h7 (fun x hx => g x (by simp [hx]))
    have l1 := eLe N i e _ _ _ _ h3
    have l2 := (inRules N es (i + 1) m hi ss' h7).1
    have e1 : dg N lo = 1 := dg_one h4
    have e2 : dg N (lo + 1) = 1 := by unfold dg; split <;> simp [h6]
    rw [show hi - lo = 1 + (1 + ((m - (lo + 2)) + (hi - m))) by omega, pr_add, pr_one, e1, pr_add, pr_one, e2, pr_add, show lo + 1 + 1 + (m - (lo + 2)) = m by omega, Nat.one_mul, Nat.one_mul]
    have := k1.mul k2
    simpa [szL] using this
theorem pd_le {es : List Ex} (g : GoodL es) : pd (compile es).1 (compile es).1.st.length ≤ 34359738368 := by
  obtain ⟨h1, h2, h3, h4, h5⟩ := compile_shape es
  have hp := st_lt h1
  have h := prRules _ es 0 1 _ _ h3 g.each
  obtain ⟨n, hn⟩ : ∃ n, (compile es).1.st.length = n + 1 := ⟨(compile es).1.st.length - 1, by omega⟩
  rw [hn] at h ⊢
  rw [Nat.add_sub_cancel] at h
  rw [pd_pr]
  unfold Fits at h
  have h6 : 128 ^ szL es ≤ 128 ^ 40 := Nat.pow_le_pow_right (by decide) g.size
  have h7 : (pr (compile es).1 1 n) ^ 8 ≤ 34359738368 ^ 8 := by
    have e : (34359738368 : Nat) ^ 8 = 128 ^ 40 := by decide +kernel
    rw [e]; omega
  exact (Nat.pow_le_pow_iff_left (by decide)).1 h7

/-! ### one measure for all closures -/
theorem clAll {N : Bd} : ∀ n, (∀ j, 1 ≤ j → j < n → HasCl N j) → ∃ f, ∀ j, 1 ≤ j → j < n → ∃ L, N.cl f j = some L
  | 0, _ => ⟨0, fun j h1 h2 => by omega⟩
  | n + 1, h => by
    obtain ⟨f, hf⟩ := clAll n (fun j h1 h2 => h j h1 (by omega))
    by_cases h0 : n = 0
    · subst h0; exact ⟨f, fun j h1 h2 => by omega⟩
    · obtain ⟨k, L, hk⟩ := h n (by omega) (by omega)
      refine ⟨max f k, fun j h1 h2 => ?_⟩
      by_cases hj : j = n
      · subst hj; exact ⟨L, cl_mono (Nat.le_max_right _ _) hk⟩
      · obtain ⟨L', h'⟩ := hf j h1 (by omega)
        exact ⟨L', cl_mono (Nat.le_max_left _ _) h'⟩

theorem clL_mem {N : Bd} {k : Nat} {x : Nat} : ∀ (ts : List Nat) (L : List Nat), clL N k ts = some L → x ∈ L → ∃ t ∈ ts, ∃ l, N.cl k t = some l ∧ x ∈ l
  | [], L, h, hx => by simp [clL] at h; subst h; simp at hx
  | t :: ts, L, h, hx => by
    rw [clL_cons] at h
    obtain ⟨l, h1, h2⟩ := Option.bind_eq_some_iff.1 h
    obtain ⟨r, h3, rfl⟩ := Option.map_eq_some_iff.1 h2
    rcases List.mem_append.1 hx with hx | hx
    · exact ⟨t, by simp, l, h1, hx⟩
    · obtain ⟨t', a, b⟩ := clL_mem ts r h3 hx
      exact ⟨t', by simp [a], b⟩
theorem clL_ne {N : Bd} {k : Nat} : ∀ (ts : List Nat) (L : List Nat), clL N k ts = some L → ts ≠ [] → (∀ t ∈ ts, ∀ l, N.cl k t = some l → l ≠ []) → L ≠ []
  | [], _, _, h, _ => absurd rfl h
  | t :: ts, L, h, _, hh => by
    rw [clL_cons] at h
    obtain ⟨l, h1, h2⟩ := Option.bind_eq_some_iff.1 h
    obtain ⟨r, h3, rfl⟩ := Option.map_eq_some_iff.1 h2
    have := hh t (by simp) l h1
    simp [this]

variable {N : Bd} {ss : List Nat} {nr : Nat}
theorem NetG.clMem (g : NetG N ss nr) : ∀ (k s : Nat) (L : List Nat), 1 ≤ s → s < N.st.length → N.cl k s = some L → L ≠ [] ∧ ∀ x ∈ L, 1 ≤ x ∧ x < N.st.length ∧ rl N x = rl N s
  | 0, s, L, _, _, h => by simp [Bd.cl] at h
  | k + 1, s, L, h1, h2, h => by
    rw [cl_succ] at h
    split at h
    · simp at h; subst h; simpa using ⟨h1, h2⟩
    · rename_i hl
      have hd : ∀ t ∈ (N.out s).map (·.dst), 1 ≤ t ∧ t < N.st.length ∧ rl N t = rl N s := by
        intro t ht
        obtain ⟨e, he, rfl⟩ := List.mem_map.1 ht
        obtain ⟨a, b⟩ := g.ok.dst s e he
        exact ⟨by omega, a, (g.rule s h1 h2).2 e he⟩
      refine ⟨clL_ne _ _ h ?_ (fun t ht l hl => (g.clMem k t l (hd t ht).1 (hd t ht).2.1 hl).1), fun x hx => ?_⟩
      · rcases (g.ok.ok s h1 h2).cases with ⟨h3, _⟩ | ⟨_, _, h3⟩
        · exact absurd h3 hl
        · simpa using h3
      · obtain ⟨t, ht, l, hl', hx'⟩ := clL_mem _ _ h hx
        obtain ⟨a, b, c⟩ := (g.clMem k t l (hd t ht).1 (hd t ht).2.1 hl').2 x hx'
        exact ⟨a, b, c.trans (hd t ht).2.2⟩

/-! ### what is asked for -/
/-- Of a set that is asked for: its states are states, its alternatives rules. -/
def Fine (N : Bd) (nr : Nat) (A : List (Nat × Nat)) : Prop := ∀ x ∈ A, 1 ≤ x.1 ∧ x.1 < N.st.length ∧ x.2 = rl N x.1 + 1 ∧ x.2 ≤ nr

theorem startP_all {N : Bd} {f : Nat} {P : Nat → Nat → List Nat → Prop} : ∀ (es : List LE) (i : Nat), (∀ k e, es[k]? = some e → ∃ l, N.cl f e.dst = some l ∧ P (i + k) e.dst l) → ∃ A, startP N f es i = some A ∧
    (∀ x ∈ A, ∃ k e l, es[k]? = some e ∧ N.cl f e.dst = some l ∧ x.1 ∈ l ∧ x.2 = i + k + 1)
  | [], i, _ => ⟨[], rfl, by simp⟩
  | e :: es, i, h => by
    obtain ⟨l, h1, _⟩ := h 0 e rfl
    obtain ⟨A, h3, h4⟩ := startP_all (P := P) es (i + 1) (fun k e' hk => by
      obtain ⟨l, a, b⟩ := h (k + 1) e' (by simpa using hk)
      exact ⟨l, a, by rw [show i + 1 + k = i + (k + 1) by omega]; exact b⟩)
    refine ⟨l.map (fun s => (s, i + 1)) ++ A, by simp [startP, h1, h3], fun x hx => ?_⟩
    rcases List.mem_append.1 hx with hx | hx
    · obtain ⟨s, hs, rfl⟩ := List.mem_map.1 hx
      exact ⟨0, e, l, rfl, h1, hs, by simp⟩
    · obtain ⟨k, e', l', a, b, c, d⟩ := h4 x hx
      exact ⟨k + 1, e', l', by simpa using a, b, c, by omega⟩
theorem startP_len {N : Bd} {f M : Nat} : ∀ (es : List LE) (i : Nat) (A : List (Nat × Nat)), (∀ e ∈ es, ∀ l, N.cl f e.dst = some l → l.length ≤ M) → startP N f es i = some A → A.length ≤ es.length * M
  | [], i, A, _, h => by simp [startP] at h; subst h; simp
  | e :: es, i, A, hM, h => by
    simp only [startP] at h
    obtain ⟨l, h1, h2⟩ := Option.bind_eq_some_iff.1 h
    obtain ⟨r, h3, rfl⟩ := Option.map_eq_some_iff.1 h2
    have a := hM e (by simp) l h1
    have b := startP_len es _ r (fun e' he => hM e' (by simp [he])) h3
    simp only [List.length_append, List.length_map, List.length_cons, Nat.add_mul]
    omega
theorem edgeA_all {N : Bd} {f : Nat} {c : Int} {a : Nat} : ∀ (es : List LE), (∀ e ∈ es, ∃ l, N.cl f e.dst = some l) → ∃ A, edgeA N f c a es = some A ∧
    ∀ x ∈ A, ∃ e ∈ es, hitE e c = true ∧ ∃ l, N.cl f e.dst = some l ∧ x.1 ∈ l ∧ x.2 = a
  | [], _ => ⟨[], rfl, by simp⟩
  | e :: es, h => by
    obtain ⟨l, h1⟩ := h e (by simp)
    obtain ⟨A, h2, h3⟩ := edgeA_all (c := c) (a := a) es (fun e' he => h e' (by simp [he]))
    by_cases hh : hitE e c = true
    · refine ⟨l.map (fun s => (s, a)) ++ A, by simp [edgeA, hh, h1, h2], fun x hx => ?_⟩
      rcases List.mem_append.1 hx with hx | hx
      · obtain ⟨s, hs, rfl⟩ := List.mem_map.1 hx
        exact ⟨e, by simp, hh, l, h1, hs, rfl⟩
      · obtain ⟨e', a', b⟩ := h3 x hx
        exact ⟨e', by simp [a'], b⟩
    · refine ⟨A, by simp [edgeA, hh, h2], fun x hx => ?_⟩
      obtain ⟨e', a', b⟩ := h3 x hx
      exact ⟨e', by simp [a'], b⟩
theorem hit_isC {e : LE} {c : Int} (h : hitE e c = true) : isC e = true := by
  unfold hitE at h; unfold isC
  split at h
  · rename_i h5; simp [h5]
  · split at h
    · rename_i h2; simp [h2]
    · cases h
theorem edgeA_len {N : Bd} {f M : Nat} {c : Int} {a : Nat} : ∀ (es : List LE) (A : List (Nat × Nat)), (∀ e ∈ es, ∀ l, N.cl f e.dst = some l → l.length ≤ M) → edgeA N f c a es = some A → A.length ≤ (es.filter isC).length * M
  | [], A, _, h => by simp [edgeA] at h; subst h; simp
  | e :: es, A, hM, h => by
    simp only [edgeA] at h
    by_cases hh : hitE e c = true
    · rw [if_pos hh] at h
      obtain ⟨l, h1, h2⟩ := Option.bind_eq_some_iff.1 h
      obtain ⟨r, h3, rfl⟩ := Option.map_eq_some_iff.1 h2
      have a1 := hM e (by simp) l h1
      have b := edgeA_len es r (fun e' he => hM e' (by simp [he])) h3
      rw [List.filter_cons_of_pos (hit_isC hh)]
      simp only [List.length_append, List.length_map, List.length_cons, Nat.add_mul]
      omega
    · rw [if_neg hh] at h
      have b := edgeA_len es A (fun e' he => hM e' (by simp [he])) h
      refine Nat.le_trans b (Nat.mul_le_mul ?_ (Nat.le_refl _))
      by_cases hc : isC e = true
      · rw [List.filter_cons_of_pos hc]; simp
      · rw [List.filter_cons_of_neg hc]; exact Nat.le_refl _
def ce (N : Bd) (s : Nat) : Nat := ((N.out s).filter isC).length
theorem stepA_all {N : Bd} {f : Nat} {c : Int} : ∀ (xs : List (Nat × Nat)), (∀ x ∈ xs, ∀ e ∈ N.out x.1, ∃ l, N.cl f e.dst = some l) → ∃ A, stepA N f c xs = some A ∧
    ∀ y ∈ A, ∃ x ∈ xs, ∃ e ∈ N.out x.1, hitE e c = true ∧ ∃ l, N.cl f e.dst = some l ∧ y.1 ∈ l ∧ y.2 = x.2
  | [], _ => ⟨[], rfl, by simp⟩
  | x :: xs, h => by
    obtain ⟨A, h1, h2⟩ := edgeA_all (c := c) (a := x.2) (N.out x.1) (h x (by simp))
    obtain ⟨B, h3, h4⟩ := stepA_all (c := c) xs (fun x' hx => h x' (by simp [hx]))
    refine ⟨A ++ B, by simp [stepA, h1, h3], fun y hy => ?_⟩
    rcases List.mem_append.1 hy with hy | hy
    · obtain ⟨e, a, b⟩ := h2 y hy
      exact ⟨x, by simp, e, a, b⟩
    · obtain ⟨x', a, b⟩ := h4 y hy
      exact ⟨x', by simp [a], b⟩
theorem stepA_len {N : Bd} {f M : Nat} {c : Int} : ∀ (xs A : List (Nat × Nat)), (∀ x ∈ xs, ∀ e ∈ N.out x.1, ∀ l, N.cl f e.dst = some l → l.length ≤ M) → stepA N f c xs = some A → A.length ≤ (xs.map fun x => ce N x.1).sum * M
  | [], A, _, h => by simp [stepA] at h; subst h; simp
  | x :: xs, A, hM, h => by
    simp only [stepA] at h
    obtain ⟨l, h1, h2⟩ := Option.bind_eq_some_iff.1 h
    obtain ⟨r, h3, rfl⟩ := Option.map_eq_some_iff.1 h2
    have a := edgeA_len _ l (hM x (by simp)) h1
    have b := stepA_len xs r (fun x' hx => hM x' (by simp [hx])) h3
    simp only [List.length_append, List.map_cons, List.sum_cons, Nat.add_mul]
    have : ((N.out x.1).filter isC).length = ce N x.1 := rfl
    rw [this] at a
    omega
theorem sum_ce (ed : List LE) : ∀ (ss : List Nat), ss.Nodup → (ss.map fun s => ((outs ed s).filter isC).length).sum ≤ (ed.filter isC).length := by
  induction ed with
  | nil =>
    intro ss _
    induction ss with
    | nil => simp
    | cons s ss ih => simp [outs] at ih ⊢; rename_i hh; exact ih (by simp at hh; exact hh.2)
  | cons e ed ih =>
    intro ss h
    have k := ih ss h
    have key : ∀ ss : List Nat, ss.Nodup → (ss.map fun s => ((outs (e :: ed) s).filter isC).length).sum ≤ (ss.map fun s => ((outs ed s).filter isC).length).sum + (if e.src ∈ ss ∧ isC e = true then 1 else 0) := by
      intro ss
      induction ss with
      | nil => simp
      | cons s ss ih2 =>
        intro hn
        obtain ⟨h1, h2⟩ := List.nodup_cons.1 hn
        have k2 := ih2 h2
        simp only [List.map_cons, List.sum_cons, outs_cons]
        by_cases hs : e.src = s
        · subst hs
          rw [if_pos rfl]
          rw [if_neg (fun hh => h1 hh.1)] at k2
          by_cases hc : isC e = true
          · rw [List.filter_cons_of_pos hc, if_pos ⟨by simp, hc⟩]
            simp only [List.length_cons]
            simp only [outs_cons] at k2
            omega
          · rw [List.filter_cons_of_neg hc, if_neg (fun hh => hc hh.2)]
            simp only [outs_cons] at k2
            omega
        · rw [if_neg hs]
          simp only [outs_cons] at k2
          have e1 : (e.src ∈ s :: ss ∧ isC e = true) ↔ (e.src ∈ ss ∧ isC e = true) := by simp [hs]
          simp only [e1]
          omega
    have k3 := key ss h
    by_cases hc : isC e = true
    · rw [List.filter_cons_of_pos hc, List.length_cons]
      split at k3 <;> omega
    · rw [List.filter_cons_of_neg hc]
      rw [if_neg (fun hh => hc hh.2)] at k3
      omega

theorem ddG_pw (g : Nat × Nat → Nat) : ∀ (A acc : List (Nat × Nat)), acc.Pairwise (fun x y => g x ≠ g y) → (ddG g A acc).Pairwise (fun x y => g x ≠ g y)
  | [], acc, h => h
  | a :: A, acc, h => by
    show (ddG g A (if acc.any (fun y => g y == g a) then acc else acc ++ [a])).Pairwise _
    refine ddG_pw g A _ ?_
    split
    · exact h
    · rename_i hn
      rw [List.pairwise_append]
      refine ⟨h, by simp, fun x hx y hy e => ?_⟩
      obtain rfl := List.mem_singleton.1 hy
      exact hn (List.any_eq_true.2 ⟨x, hx, by simp [e]⟩)
theorem dd_pw (A : List (Nat × Nat)) : (dd A).Pairwise (fun x y => lhg x ≠ lhg y) := by
  rw [dd_ddG]; exact ddG_pw lhg A [] List.Pairwise.nil
theorem dd_nodup {N : Bd} {nr : Nat} {A : List (Nat × Nat)} (h : Fine N nr A) : ((dd A).map (·.1)).Nodup := by
  unfold List.Nodup
  rw [List.pairwise_map]
  refine List.Pairwise.imp_of_mem ?_ (dd_pw A)
  intro x y hx hy hne e
  have a := (h x (dd_mem hx)).2.2.1
  have b := (h y (dd_mem hy)).2.2.1
  apply hne
  have : x = y := by
    obtain ⟨x1, x2⟩ := x
    obtain ⟨y1, y2⟩ := y
    simp only at a b e
    subst e; rw [a, b]
  rw [this]

theorem NetG.fineStart (g : NetG N ss nr) {f : Nat} (hf : ∀ j, 1 ≤ j → j < N.st.length → ∃ L, N.cl f j = some L) : ∃ A, startP N f (N.out 0) 0 = some A ∧ Fine N nr A := by
  have hk : ∀ (k : Nat) (e : LE), (N.out 0)[k]? = some e → N.st[e.dst]? = some ⟨2, k, 0⟩ ∧ k < nr := by
    intro k e he
    rw [g.out0, List.getElem?_map] at he
    obtain ⟨s, hs, rfl⟩ := Option.map_eq_some_iff.1 he
    have := g.start k s hs
    refine ⟨by simpa using this, ?_⟩
    rw [← g.len]; exact (List.getElem?_eq_some_iff.1 hs).1
  have hd : ∀ (k : Nat) (e : LE), (N.out 0)[k]? = some e → 1 ≤ e.dst ∧ e.dst < N.st.length := by
    intro k e he
    obtain ⟨a, b⟩ := g.ok.dst 0 e (List.mem_of_getElem? he)
    omega
  obtain ⟨A, h1, h2⟩ := startP_all (P := fun _ _ _ => True) (N.out 0) 0 (fun k e he => by
    obtain ⟨L, hL⟩ := hf e.dst (hd k e he).1 (hd k e he).2
    exact ⟨L, hL, trivial⟩)
  refine ⟨A, h1, fun x hx => ?_⟩
  obtain ⟨k, e, l, a, b, c, d⟩ := h2 x hx
  obtain ⟨p, q, r⟩ := (g.clMem f e.dst l (hd k e a).1 (hd k e a).2 b).2 x.1 c
  obtain ⟨u, v⟩ := hk k e a
  rw [rl_of u] at r
  exact ⟨p, q, by rw [r, d]; simp, by omega⟩
theorem NetG.fineStep (g : NetG N ss nr) {f : Nat} (hf : ∀ j, 1 ≤ j → j < N.st.length → ∃ L, N.cl f j = some L) {A : List (Nat × Nat)} (h : Fine N nr A) (c : Int) : ∃ B, stepA N f c (dd A) = some B ∧ Fine N nr B := by
  have hd : ∀ x ∈ dd A, ∀ e ∈ N.out x.1, 1 ≤ e.dst ∧ e.dst < N.st.length ∧ rl N e.dst = rl N x.1 := by
    intro x hx e he
    obtain ⟨a, b, _⟩ := h x (dd_mem hx)
    obtain ⟨p, q⟩ := g.ok.dst x.1 e he
    exact ⟨by omega, p, (g.rule x.1 a b).2 e he⟩
  obtain ⟨B, h1, h2⟩ := stepA_all (c := c) (dd A) (fun x hx e he => hf e.dst (hd x hx e he).1 (hd x hx e he).2.1)
  refine ⟨B, h1, fun y hy => ?_⟩
  obtain ⟨x, hx, e, he, _, l, hl, hy1, hy2⟩ := h2 y hy
  obtain ⟨a, b, d⟩ := hd x hx e he
  obtain ⟨p, q, r⟩ := (g.clMem f e.dst l a b hl).2 y.1 hy1
  obtain ⟨_, _, u, v⟩ := h x (dd_mem hx)
  exact ⟨p, q, by rw [hy2, r, d, u], by rw [hy2]; exact v⟩
theorem NetG.fineMet (g : NetG N ss nr) {f : Nat} (hf : ∀ j, 1 ≤ j → j < N.st.length → ∃ L, N.cl f j = some L) {A : List (Nat × Nat)} (h : Met N f A) : Fine N nr A := by
  induction h with
  | start A h1 => obtain ⟨B, h2, h3⟩ := g.fineStart hf; rw [h1] at h2; cases h2; exact h3
  | step A B c h1 h2 ih => obtain ⟨B', h3, h4⟩ := g.fineStep hf ih c; rw [h2] at h3; cases h3; exact h4

theorem NetG.neg (g : NetG N ss nr) {s : Nat} (h1 : 1 ≤ s) (h2 : s < N.st.length) : ∀ e ∈ N.out s, hitE e (-1) = false := by
  intro e he
  rcases (g.ok.ok s h1 h2) with ⟨st, hs, ho⟩
  cases ho with
  | chars r d a b _ ho _ ha hab =>
    rw [ho] at he
    obtain rfl := List.mem_singleton.1 he
    unfold chrE hitE
    split
    · simp; omega
    · simp; omega
  | basic r d _ ho => rw [ho] at he; obtain rfl := List.mem_singleton.1 he; rfl
  | ruleStart r d _ ho => rw [ho] at he; obtain rfl := List.mem_singleton.1 he; rfl
  | block r k ds _ hkk _ ho hd => rw [ho] at he; obtain ⟨d, _, rfl⟩ := List.mem_map.1 he; rfl
  | plusBlock r j' ds _ _ ho hd => rw [ho] at he; obtain ⟨d, _, rfl⟩ := List.mem_map.1 he; rfl
  | ruleStop r j' _ ho => rw [ho] at he; simp at he
  | blockEnd r j' k d _ ho => rw [ho] at he; obtain rfl := List.mem_singleton.1 he; rfl
  | starBack r j' _ _ ho => rw [ho] at he; obtain rfl := List.mem_singleton.1 he; rfl
  | starEntry r j' _ _ ho => rw [ho] at he; simp at he; rcases he with rfl | rfl <;> rfl
  | plusBack r j' a _ _ ho => rw [ho] at he; simp at he; rcases he with rfl | rfl <;> rfl
  | loopEnd r a d _ _ ho => rw [ho] at he; obtain rfl := List.mem_singleton.1 he; rfl
theorem edgeA_neg {f a : Nat} : ∀ es : List LE, (∀ e ∈ es, hitE e (-1) = false) → edgeA N f (-1) a es = some []
  | [], _ => rfl
  | e :: es, h => by rw [edgeA, h e (by simp)]; simpa using edgeA_neg es (fun e' he => h e' (by simp [he]))
theorem stepA_neg {f : Nat} : ∀ xs : List (Nat × Nat), (∀ x ∈ xs, ∀ e ∈ N.out x.1, hitE e (-1) = false) → stepA N f (-1) xs = some []
  | [], _ => rfl
  | x :: xs, h => by rw [stepA, edgeA_neg _ (h x (by simp)), stepA_neg xs (fun x' hx => h x' (by simp [hx]))]; rfl

/-- All plain facts of the network of good rules. -/
structure NetP (N : Bd) (nr f : Nat) : Prop where
  pos : 0 < N.st.length
  k0 : N.kind 0 = 6
  eps0 : ∀ e ∈ N.out 0, e.kind = 1
  ne0 : N.out 0 ≠ []
  start : ∃ A, startP N f (N.out 0) 0 = some A ∧ A ≠ [] ∧ A.length * 88 ≤ 140737488355328
  step : ∀ A, Met N f A → ∀ c, ∃ B, stepA N f c (dd A) = some B ∧ B.length * 88 ≤ 140737488355328
  neg : ∀ A, Met N f A → stepA N f (-1) (dd A) = some []
  fine : ∀ A, Met N f A → Fine N nr A

theorem netP {es : List Ex} (h : GoodL es) : ∃ f, (∀ j, 1 ≤ j → j < (compile es).1.st.length → ∃ L, (compile es).1.cl f j = some L) ∧ NetP (compile es).1 es.length f := by
  have g := netG h
  obtain ⟨f, hf⟩ := clAll _ g.cl
  have hpos := st_lt g.first
  have hM : ∀ s, 1 ≤ s → s < (compile es).1.st.length → ∀ l, (compile es).1.cl f s = some l → l.length ≤ 34359738368 := fun s h1 h2 l hl => Nat.le_trans (cl_len_pd g.ok.dst h2 (by omega) hl) (pd_le h)
  have hMe : ∀ v, ∀ e ∈ (compile es).1.out v, ∀ l, (compile es).1.cl f e.dst = some l → l.length ≤ 34359738368 := fun v e he l hl => hM e.dst (by have := g.ok.dst v e he; omega) (g.ok.dst v e he).1 l hl
  refine ⟨f, hf, hpos, by simp [Bd.kind, List.getD, g.first], fun e he => ?_, ?_, ?_, fun A hA c => ?_, fun A hA => ?_, fun A hA => g.fineMet hf hA⟩
  · rw [g.out0] at he; obtain ⟨d, _, rfl⟩ := List.mem_map.1 he; rfl
  · rw [g.out0]
    have h1 := g.len
    have h2 := h.pos
    intro e
    simp at e
    rw [e] at h1
    simp at h1
    omega
  · obtain ⟨A, h1, h2⟩ := g.fineStart hf
    refine ⟨A, h1, ?_, ?_⟩
    · obtain ⟨s, t, e⟩ : ∃ s t, (compile es).2 = s :: t := by
        cases e : (compile es).2 with
        | nil => have h1 := g.len; rw [e] at h1; have h2 := h.pos; simp at h1; omega
        | cons s t => exact ⟨s, t, rfl⟩
      rw [g.out0, e] at h1
      simp only [List.map_cons, startP] at h1
      obtain ⟨l, h3, h4⟩ := Option.bind_eq_some_iff.1 h1
      obtain ⟨r, h5, rfl⟩ := Option.map_eq_some_iff.1 h4
      have hs : 1 ≤ s ∧ s < (compile es).1.st.length := by
        have := g.ok.dst 0 (epsE 0 s) (by rw [g.out0, e]; simp)
        simp at this; omega
      have := (g.clMem f s l hs.1 hs.2 h3).1
      simp [this]
    · have := startP_len _ 0 A (hMe 0) h1
      have hl : ((compile es).1.out 0).length ≤ 4 := by rw [g.out0, List.length_map, g.len]; exact h.few
      have := Nat.mul_le_mul hl (Nat.le_refl 34359738368)
      omega
  · have hA' := g.fineMet hf hA
    obtain ⟨B, h1, h2⟩ := g.fineStep hf hA' c
    refine ⟨B, h1, ?_⟩
    have a := stepA_len (dd A) B (fun x _ => hMe x.1) h1
    have b := sum_ce (compile es).1.ed ((dd A).map (·.1)) (dd_nodup hA')
    rw [List.map_map] at b
    have b' : ((dd A).map fun x => ce (compile es).1 x.1).sum ≤ cc (compile es).1 := b
    have d := cc_compile es
    have e := h.size
    have := Nat.mul_le_mul (show ((dd A).map fun x => ce (compile es).1 x.1).sum ≤ 40 by omega) (Nat.le_refl 34359738368)
    omega
  · exact stepA_neg _ (fun x hx => g.neg (g.fineMet hf hA x (dd_mem hx)).1 (g.fineMet hf hA x (dd_mem hx)).2.1)

end Pl
end
