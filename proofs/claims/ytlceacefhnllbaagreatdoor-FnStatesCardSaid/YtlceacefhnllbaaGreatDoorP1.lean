/- A part of the proof of the statement on the law FnStates, which the last text proves: part P1. -/
import Derived.Test.YtlceacefhnllbaaGreatDoorP0
set_option linter.all false
section
namespace Pl

def FRules (N : Bd) : Nat → List Ex → Nat → Nat → List Nat → Prop
  | _, [], lo, hi, ss => lo = hi ∧ ss = []
  | i, e :: es, lo, hi, ss => ∃ m f t ss', N.st[lo]? = some ⟨2, i, 0⟩ ∧ N.st[lo + 1]? = some ⟨7, i, 0⟩ ∧ FE N i e (lo + 2) m f t ∧
      N.out lo = [epsE lo f] ∧ N.out t = [epsE t (lo + 1)] ∧ N.out (lo + 1) = [] ∧ ss = lo :: ss' ∧ FRules N (i + 1) es m hi ss'

def GoodRules (es : List Ex) : Prop := ∀ i B ss0, 0 < B.st.length → ∃ S E D ss, Adds B (mkRules i es B ss0).1 S E D ∧ (mkRules i es B ss0).2 = ss0 ++ ss ∧
  (∀ x ∈ E, x.src = 0 ∨ B.st.length ≤ x.src ∧ x.src < B.st.length + S.length) ∧ outs E 0 = ss.map (epsE 0) ∧
  ∀ N : Bd, (∀ i, i < S.length → N.st[B.st.length + i]? = S[i]?) →
    (∀ i, B.st.length ≤ i → i < B.st.length + S.length → N.out i = outs E i) →
    FRules N i es B.st.length (B.st.length + S.length) ss

theorem goodRules : ∀ es, GoodRules es
  | [] => by
    intro i B ss0 _
    refine ⟨[], [], [], [], by simpa [mkRules] using Adds.refl B, by simp [mkRules], by simp, by simp, ?_⟩
    intro N _ _
    simp [FRules]
  | e :: es => by
    intro i B ss0 hB
    simp only [mkRules]
    obtain ⟨B1, f, t, hp⟩ : ∃ B1 f t, mkE i e ((B.add i 2).add i 7) = (B1, f, t) := ⟨_, _, _, rfl⟩
    have hB0 := ((Adds.refl B).add i 2).add i 7
    simp only [List.nil_append, List.cons_append] at hB0
    have hl := hB0.len
    simp only [List.length_cons, List.length_nil] at hl
    obtain ⟨S1, E1, D1, hA, hf1, hf2, ht1, ht2, hE, hN⟩ := goodE i e _ B1 f t hp
    rw [hl] at hf1 hf2 ht1 ht2 hE hN
    have h0 := hB0.trans hA
    simp only [List.nil_append, List.cons_append] at h0
    have h1 := ((h0.eps 0 B.st.length (by simp)).eps B.st.length f (by simp; omega)).eps t (B.st.length + 1) (by simp)
    have hr : mkRule i e B = ((B1.eps 0 B.st.length).eps B.st.length f).eps t (B.st.length + 1) := by simp [mkRule, hp]
    rw [← hr] at h1
    have hl1 := h1.len
    simp only [List.length_cons] at hl1
    obtain ⟨S2, E2, D2, ss, kA, kss, kE, kf, kN⟩ := goodRules es (i + 1) (mkRule i e B) (ss0 ++ [B.st.length]) (by omega)
    rw [hl1] at kE kN
    refine ⟨_, _, _, B.st.length :: ss, h1.trans kA, by simp [kss], ?_, ?_, ?_⟩
    · intro x hx
      simp only [List.length_append, List.length_cons]
      simp only [List.mem_append, List.mem_singleton] at hx
      rcases hx with (((hx | hx) | hx) | hx) | hx
      · have := hE x hx; omega
      · subst hx; simp
      · subst hx; simp; omega
      · subst hx; simp; omega
      · have := kE x hx; omega
    · simp only [outs_append, outs_eps_self]
      rw [outs_none (ed := E1) (fun x hx => by have := hE x hx; omega), outs_eps_ne (show B.st.length ≠ 0 by omega), outs_eps_ne (show t ≠ 0 by omega), kf]
      simp
    · intro N hst hout
      simp only [List.length_append, List.length_cons] at *
      simp only [FRules]
      have hsub : ∀ j, j < S1.length + 1 + 1 → N.st[B.st.length + j]? = (⟨2, i, 0⟩ :: ⟨7, i, 0⟩ :: S1)[j]? := by
        intro j hj
        rw [hst j (by omega), List.getElem?_append_left (by simp; omega)]
      refine ⟨B.st.length + (S1.length + 1 + 1), f, t, ss, by simpa using hsub 0 (by omega), by simpa using hsub 1 (by omega), ?_, ?_, ?_, ?_, rfl, ?_⟩
      · rw [show B.st.length + (S1.length + 1 + 1) = B.st.length + 2 + S1.length by omega]
        refine hN N (fun j hj => ?_) (fun j h1 h2 h3 => ?_)
        · rw [show B.st.length + 2 + j = B.st.length + (j + 2) by omega, hsub _ (by omega)]; simp
        · rw [hout j (by omega) (by omega)]
          simp only [outs_append]
          rw [outs_eps_ne (show 0 ≠ j by omega), outs_eps_ne (show B.st.length ≠ j by omega), outs_eps_ne (show t ≠ j by omega), outs_none (ed := E2) (fun x hx => by have := kE x hx; omega)]
          simp
      · rw [hout _ (Nat.le_refl _) (by omega)]
        simp only [outs_append, outs_eps_self]
        rw [outs_none (ed := E1) (fun x hx => by have := hE x hx; omega), outs_eps_ne (show 0 ≠ B.st.length by omega), outs_eps_ne (show t ≠ B.st.length by omega), outs_none (ed := E2) (fun x hx => by have := kE x hx; omega)]
        simp
      · rw [hout t (by omega) (by omega)]
        simp only [outs_append, outs_eps_self]
        rw [outs_none (ed := E1) (fun x hx => by have := hE x hx; omega), outs_eps_ne (show 0 ≠ t by omega), outs_eps_ne (show B.st.length ≠ t by omega), outs_none (ed := E2) (fun x hx => by have := kE x hx; omega)]
        simp
      · rw [hout (B.st.length + 1) (by omega) (by omega)]
        simp only [outs_append]
        rw [outs_none (ed := E1) (fun x hx => by have := hE x hx; omega), outs_eps_ne (show 0 ≠ B.st.length + 1 by omega), outs_eps_ne (show B.st.length ≠ B.st.length + 1 by omega), outs_eps_ne (show t ≠ B.st.length + 1 by omega), outs_none (ed := E2) (fun x hx => by have := kE x hx; omega)]
        simp
      · rw [show B.st.length + (S1.length + 1 + 1 + S2.length) = B.st.length + (S1.length + 1 + 1) + S2.length by omega]
        refine kN N (fun j hj => ?_) (fun j h1 h2 => ?_)
        · rw [Nat.add_assoc, hst _ (by omega), List.getElem?_append_right (by simp)]
          congr 1; simp
        · rw [hout j (by omega) (by omega)]
          simp only [outs_append]
          rw [outs_none (ed := E1) (fun x hx => by have := hE x hx; omega), outs_eps_ne (show 0 ≠ j by omega), outs_eps_ne (show B.st.length ≠ j by omega), outs_eps_ne (show t ≠ j by omega)]
          simp

/-- The network of rules, as one lemma says it. -/
theorem compile_shape (es : List Ex) : (compile es).1.st[0]? = some ⟨6, 0, 0⟩ ∧ (compile es).1.out 0 = (compile es).2.map (epsE 0) ∧
    FRules (compile es).1 0 es 1 (compile es).1.st.length (compile es).2 ∧ (∀ x ∈ (compile es).1.ed, x.dst < (compile es).1.st.length ∧ x.src < (compile es).1.st.length) ∧
    (∀ d ∈ (compile es).1.de, ∃ s, (compile es).1.st[d]? = some s ∧ decK s.kind) := by
  have h0 := ((Adds.refl ⟨[], [], []⟩).add 0 6).decide 0 ⟨6, 0, 0⟩ (by simp) (by simp) (by simp [decK])
  have hl := h0.len
  simp only [List.nil_append, List.length_cons, List.length_nil] at hl
  obtain ⟨S, E, D, ss, hA, hss, hE, hf, hN⟩ := goodRules es 0 (((⟨[], [], []⟩ : Bd).add 0 6).dec 0) [] (by rw [hl]; omega)
  rw [hl] at hE hN
  have h1 := h0.trans hA
  have e1 : (mkRules 0 es (((⟨[], [], []⟩ : Bd).add 0 6).dec 0) []) = compile es := rfl
  rw [e1] at hss h1 hA
  simp only [List.nil_append, List.cons_append] at h1 hss
  have hst := h1.st
  have hed := h1.ed
  have hde := h1.de
  simp only [List.nil_append] at hst hed hde
  have hlen : (compile es).1.st.length = 1 + S.length := by rw [hst]; simp; omega
  refine ⟨by rw [hst]; rfl, ?_, ?_, ?_, ?_⟩
  · rw [hss, ← hf]; simp [Bd.out, outs, hed]
  · rw [hss]
    have := hN (compile es).1 (fun i hi => by rw [hst]; simp [Nat.add_comm]) (fun i _ _ => by simp [Bd.out, outs, hed])
    rw [hlen]; simpa using this
  · intro x hx
    rw [hed] at hx
    have h2 := h1.dst x hx
    have h3 := hE x hx
    simp at h2
    omega
  · intro d hd
    rw [hde] at hd
    obtain ⟨s, _, h3, h4⟩ := h1.dec d hd
    exact ⟨s, by rw [hst]; simpa using h3, h4⟩

end Pl
end
section
namespace Pl

/-! ### what the statement's guards say -/

mutual
def lgE : Ex → Nat → Bool
  | .mk op a b subs, deep => if deep = 0 ∨ 4 < subs.length then false else
      lgL subs (deep - 1) && (if op = 0 then decide (0 ≤ a) && decide (a ≤ b) && decide (b ≤ 127) && decide (subs.length = 0) else if op = 1 then true else if op = 2 then decide (0 < subs.length) else
        decide (3 ≤ op) && decide (op ≤ 5) && decide (subs.length = 1))
def lgL : List Ex → Nat → Bool
  | [], _ => true
  | e :: es, deep => lgE e deep && lgL es deep
end

mutual
def leE : Ex → Bool
  | .mk op _ _ subs => if op = 0 then false else if op = 3 ∨ op = 5 then true else if op = 1 then leAll subs else leAny subs
def leAll : List Ex → Bool
  | [] => true
  | e :: es => leE e && leAll es
def leAny : List Ex → Bool
  | [] => false
  | e :: es => leE e || leAny es
end

mutual
def lpE : Ex → Bool
  | .mk op _ _ subs => lpL (op = 3 ∨ op = 4) subs
def lpL : Bool → List Ex → Bool
  | _, [] => false
  | q, e :: es => (lpE e || (q && leE e)) || lpL q es
end

mutual
def szE : Ex → Nat
  | .mk _ _ _ subs => 1 + szL subs
def szL : List Ex → Nat
  | [] => 0
  | e :: es => szE e + szL es
end

/-! ### closures come to an end -/

def HasCl (N : Bd) (s : Nat) : Prop := ∃ k L, N.cl k s = some L

def clL (N : Bd) (k : Nat) (ts : List Nat) : Option (List Nat) := ts.foldr (fun t acc => (N.cl k t).bind fun l => acc.map (l ++ ·)) (some [])

theorem cl_succ (N : Bd) (k s : Nat) : N.cl (k + 1) s = if N.leaf s then some [s] else clL N k ((N.out s).map (·.dst)) := rfl

@[simp] theorem clL_nil (N : Bd) (k : Nat) : clL N k [] = some [] := rfl
@[simp] theorem clL_cons (N : Bd) (k t : Nat) (ts : List Nat) : clL N k (t :: ts) = (N.cl k t).bind fun l => (clL N k ts).map (l ++ ·) := rfl

theorem clL_mono {N : Bd} {k k' : Nat} (h : ∀ s L, N.cl k s = some L → N.cl k' s = some L) : ∀ ts L, clL N k ts = some L → clL N k' ts = some L
  | [], L, e => by simpa using e
  | t :: ts, L, e => by
    simp only [clL_cons] at e ⊢
    obtain ⟨l, hl, e⟩ := Option.bind_eq_some_iff.1 e
    obtain ⟨m, hm, e⟩ := Option.map_eq_some_iff.1 e
    rw [h t l hl, Option.bind_some, clL_mono h ts m hm]
    simpa using e

theorem cl_mono1 (N : Bd) : ∀ k s L, N.cl k s = some L → N.cl (k + 1) s = some L
  | 0, s, L, h => by simp [Bd.cl] at h
  | k + 1, s, L, h => by
    rw [cl_succ] at h ⊢
    split
    · rename_i hl; rw [if_pos hl] at h; exact h
    · rename_i hl; rw [if_neg hl] at h; exact clL_mono (cl_mono1 N k) _ _ h

theorem cl_mono {N : Bd} {k k' : Nat} (hk : k ≤ k') {s L} (h : N.cl k s = some L) : N.cl k' s = some L := by
  induction hk with
  | refl => exact h
  | step _ ih => exact cl_mono1 N _ _ _ ih

theorem HasCl.leaf {N : Bd} {s : Nat} (h : N.leaf s = true) : HasCl N s := ⟨1, [s], by rw [cl_succ, if_pos h]⟩

theorem clL_of {N : Bd} : ∀ ts : List Nat, (∀ t ∈ ts, HasCl N t) → ∃ k L, clL N k ts = some L
  | [], _ => ⟨0, [], rfl⟩
  | t :: ts, h => by
    obtain ⟨k1, L1, h1⟩ := h t (by simp)
    obtain ⟨k2, L2, h2⟩ := clL_of ts (fun x hx => h x (by simp [hx]))
    refine ⟨max k1 k2, L1 ++ L2, ?_⟩
    rw [clL_cons, cl_mono (Nat.le_max_left _ _) h1, Option.bind_some, clL_mono (fun s L h => cl_mono (Nat.le_max_right _ _) h) ts L2 h2]
    simp

theorem HasCl.of {N : Bd} {s : Nat} (h : ∀ e ∈ N.out s, HasCl N e.dst) : HasCl N s := by
  obtain ⟨k, L, hk⟩ := clL_of ((N.out s).map (·.dst)) (fun t ht => by
    obtain ⟨e, he, rfl⟩ := List.mem_map.1 ht
    exact h e he)
  by_cases hl : N.leaf s = true
  · exact HasCl.leaf hl
  · exact ⟨k + 1, L, by rw [cl_succ, if_neg hl]; exact hk⟩

theorem HasCl.one {N : Bd} {s d : Nat} (h : N.out s = [epsE s d]) (hd : HasCl N d) : HasCl N s :=
  HasCl.of (by rw [h]; simpa using hd)

theorem leaf_chr {N : Bd} {s d : Nat} {a b : Int} (h : N.out s = [chrE s d a b]) : N.leaf s = true := by
  simp only [Bd.leaf, h, Bool.or_eq_true, List.any_cons, List.any_nil, Bool.or_false]
  right
  unfold chrE; split <;> rfl

/-- What is to be known of a part: where it begins a closure comes to an end, if it can't be nothing; or if one does where it ends; and so for each state of it. -/
structure Ends (N : Bd) (e : Ex) (lo hi f t : Nat) : Prop where
  whole : leE e = false → HasCl N f
  first : HasCl N t → HasCl N f
  all : HasCl N t → ∀ i, lo ≤ i → i < hi → HasCl N i

structure EndsRow (N : Bd) (es : List Ex) (lo hi at_ : Nat) : Prop where
  whole : leAll es = false → HasCl N at_
  first : HasCl N hi → HasCl N at_
  all : HasCl N hi → ∀ i, lo ≤ i → i < hi → HasCl N i

structure EndsSubs (N : Bd) (es : List Ex) (lo hi en : Nat) (fs : List Nat) : Prop where
  whole : leAny es = false → ∀ f ∈ fs, HasCl N f
  first : HasCl N en → ∀ f ∈ fs, HasCl N f
  all : HasCl N en → ∀ i, lo ≤ i → i < hi → HasCl N i
  len : fs.length = es.length

mutual
theorem endsE (N : Bd) (r : Nat) : ∀ (e : Ex) (lo hi f t : Nat), FE N r e lo hi f t → lpE e = false → (∀ d, lgE e d = true → Ends N e lo hi f t)
  | .mk op a b subs, lo, hi, f, t, h, hp, d, hg => by
    simp only [FE] at h
    simp only [lgE] at hg
    simp only [lpE] at hp
    split at hg
    · cases hg
    rename_i hd
    simp only [Bool.and_eq_true] at hg
    obtain ⟨hgl, hgo⟩ := hg
    by_cases o0 : op = 0
    · subst o0
      simp only [if_true] at h
      obtain ⟨rfl, rfl, rfl, _, _, h1⟩ := h
      have hl := HasCl.leaf (leaf_chr h1)
      refine ⟨fun _ => hl, fun _ => hl, fun ht i h2 h3 => ?_⟩
      rcases (show i = f ∨ i = f + 1 by omega) with rfl | rfl
      · exact hl
      · exact ht
    by_cases o1 : op = 1
    · subst o1
      simp only [if_true, show (1 : Int) ≠ 0 by decide, if_false] at h
      obtain ⟨rfl, rfl, _, _, h1⟩ := h
      have ih := endsRow N r subs _ _ _ h1 _ hp _ hgl
      refine ⟨fun he => ih.whole (by simpa [leE] using he), ih.first, fun ht i h2 h3 => ?_⟩
      rcases (show i = f ∨ i = t ∨ (f + 1 ≤ i ∧ i < t) by omega) with rfl | rfl | ⟨h4, h5⟩
      · exact ih.first ht
      · exact ht
      · exact ih.all ht i h4 h5
    by_cases o25 : op = 2 ∨ op = 5
    · simp only [o0, o1, if_false, o25, if_true] at h
      obtain ⟨rfl, rfl, _, _, fs, h1, h2⟩ := h
      have ih := endsSubs N r subs _ _ _ _ h1 _ hp _ hgl
      have hfirst : HasCl N (f + 1) → HasCl N f := by
        intro ht
        refine HasCl.of (fun e he => ?_)
        rw [h2] at he
        rcases List.mem_append.1 he with he | he
        · obtain ⟨x, hx, rfl⟩ := List.mem_map.1 he
          exact ih.first ht x hx
        · split at he
          · simp at he; subst he; exact ht
          · simp at he
      refine ⟨fun he => ?_, hfirst, fun ht i h3 h4 => ?_⟩
      · have he5 : op ≠ 5 := by
          intro e5; subst e5; simp [leE] at he
        have he2 : op = 2 := by rcases o25 with h | h; exact h; exact absurd h he5
        subst he2
        refine HasCl.of (fun e he' => ?_)
        rw [h2] at he'
        simp only [show (2 : Int) ≠ 5 by decide, if_false, List.append_nil] at he'
        obtain ⟨x, hx, rfl⟩ := List.mem_map.1 he'
        exact ih.whole (by simpa [leE] using he) x hx
      · rcases (show i = f ∨ i = f + 1 ∨ f + 2 ≤ i by omega) with rfl | rfl | h5
        · exact hfirst ht
        · exact ht
        · exact ih.all ht i h5 h4
    by_cases o3 : op = 3
    · subst o3
      simp only [show (3 : Int) ≠ 0 by decide, show (3 : Int) ≠ 1 by decide, show ¬ ((3 : Int) = 2 ∨ (3 : Int) = 5) by decide, if_false, if_true] at h
      obtain ⟨rfl, rfl, _, _, _, _, _, ⟨fs, h1, h2⟩, h3, h4, h5⟩ := h
      have ih := endsSubs N r subs _ _ _ _ h1 _ hp _ hgl
      have hne : leAny subs = false := lpAny subs _ hp (by decide)
      have hstart : HasCl N (t + 3) := HasCl.of (fun e he => by
        rw [h2] at he
        obtain ⟨x, hx, rfl⟩ := List.mem_map.1 he
        exact ih.whole hne x hx)
      have hentry : HasCl N t → HasCl N (t + 1) := fun ht => HasCl.of (fun e he => by
        rw [h3] at he
        simp at he
        rcases he with rfl | rfl
        · exact hstart
        · exact ht)
      refine ⟨fun he => by simp [leE] at he, hentry, fun ht i h6 h7 => ?_⟩
      have hback := HasCl.one h5 (hentry ht)
      have hstop := HasCl.one h4 hback
      rcases (show i = t ∨ i = t + 1 ∨ i = t + 2 ∨ i = t + 3 ∨ i = t + 4 ∨ t + 5 ≤ i by omega) with rfl | rfl | rfl | rfl | rfl | h8
      · exact ht
      · exact hentry ht
      · exact hback
      · exact hstart
      · exact hstop
      · exact ih.all hstop i h8 h7
    · simp only [o0, o1, o25, o3, if_false] at h
      have o4 : op = 4 := by
        have o2 : op ≠ 2 := fun e => o25 (Or.inl e)
        have o5 : op ≠ 5 := fun e => o25 (Or.inr e)
        simp only [o0, o1, o2, if_false, Bool.and_eq_true, decide_eq_true_eq] at hgo
        omega
      subst o4
      obtain ⟨rfl, rfl, _, _, _, _, ⟨fs, h1, h2⟩, h3, h4⟩ := h
      have ih := endsSubs N r subs _ _ _ _ h1 _ hp _ hgl
      have hne : leAny subs = false := lpAny subs _ hp (by decide)
      have hstart : HasCl N (t + 2) := HasCl.of (fun e he => by
        rw [h2] at he
        obtain ⟨x, hx, rfl⟩ := List.mem_map.1 he
        exact ih.whole hne x hx)
      refine ⟨fun _ => hstart, fun _ => hstart, fun ht i h6 h7 => ?_⟩
      have hback : HasCl N (t + 1) := HasCl.of (fun e he => by
        rw [h4] at he
        simp at he
        rcases he with rfl | rfl
        · exact hstart
        · exact ht)
      have hstop := HasCl.one h3 hback
      rcases (show i = t ∨ i = t + 1 ∨ i = t + 2 ∨ i = t + 3 ∨ t + 4 ≤ i by omega) with rfl | rfl | rfl | rfl | h8
      · exact ht
      · exact hback
      · exact hstart
      · exact hstop
      · exact ih.all hstop i h8 h7
theorem endsRow (N : Bd) (r : Nat) : ∀ (es : List Ex) (lo hi at_ : Nat), FRow N r es lo hi at_ → ∀ q, lpL q es = false → (∀ d, lgL es d = true → EndsRow N es lo hi at_)
  | [], lo, hi, at_, h, q, hp, d, hg => by
    simp only [FRow] at h
    obtain ⟨rfl, h1⟩ := h
    exact ⟨fun he => by simp [leAll] at he, HasCl.one h1, fun _ i h2 h3 => by omega⟩
  | e :: es, lo, hi, at_, h, q, hp, d, hg => by
    simp only [FRow] at h
    obtain ⟨m, f, t, h1, h2, h3⟩ := h
    simp only [lpL, Bool.or_eq_false_iff] at hp
    simp only [lgL, Bool.and_eq_true] at hg
    have ihE := endsE N r e _ _ _ _ h1 hp.1.1 d hg.1
    have ihR := endsRow N r es _ _ _ h3 q hp.2 d hg.2
    refine ⟨fun he => HasCl.one h2 ?_, fun hh => HasCl.one h2 (ihE.first (ihR.first hh)), fun hh i h4 h5 => ?_⟩
    · simp only [leAll, Bool.and_eq_false_iff] at he
      rcases he with he | he
      · exact ihE.whole he
      · exact ihE.first (ihR.whole he)
    · by_cases h6 : i < m
      · exact ihE.all (ihR.first hh) i h4 h6
      · exact ihR.all hh i (by omega) h5
theorem endsSubs (N : Bd) (r : Nat) : ∀ (es : List Ex) (lo hi en : Nat) (fs : List Nat), FSubs N r es lo hi en fs → ∀ q, lpL q es = false → (∀ d, lgL es d = true → EndsSubs N es lo hi en fs)
  | [], lo, hi, en, fs, h, q, hp, d, hg => by
    simp only [FSubs] at h
    obtain ⟨rfl, rfl⟩ := h
    exact ⟨fun _ f hf => (by cases hf), fun _ f hf => (by cases hf), fun _ i h2 h3 => (by omega), rfl⟩
  | e :: es, lo, hi, en, fs, h, q, hp, d, hg => by
    simp only [FSubs] at h
    obtain ⟨m, f, t, fs', h1, h2, rfl, h3⟩ := h
    simp only [lpL, Bool.or_eq_false_iff] at hp
    simp only [lgL, Bool.and_eq_true] at hg
    have ihE := endsE N r e _ _ _ _ h1 hp.1.1 d hg.1
    have ihR := endsSubs N r es _ _ _ _ h3 q hp.2 d hg.2
    refine ⟨fun he x hx => ?_, fun hh x hx => ?_, fun hh i h4 h5 => ?_, by simp [ihR.len]⟩
    · simp only [leAny, Bool.or_eq_false_iff] at he
      rcases List.mem_cons.1 hx with rfl | hx
      · exact ihE.whole he.1
      · exact ihR.whole he.2 x hx
    · rcases List.mem_cons.1 hx with rfl | hx
      · exact ihE.first (HasCl.one h2 hh)
      · exact ihR.first hh x hx
    · by_cases h6 : i < m
      · exact ihE.all (HasCl.one h2 hh) i h4 h6
      · exact ihR.all hh i (by omega) h5
theorem lpAny : ∀ (es : List Ex) (q : Bool), lpL q es = false → q = true → leAny es = false
  | [], _, _, _ => rfl
  | e :: es, q, h, hq => by
    subst hq
    simp only [lpL, Bool.or_eq_false_iff, Bool.true_and] at h
    simp only [leAny, Bool.or_eq_false_iff]
    exact ⟨h.1.2, lpAny es true h.2 rfl⟩
end

end Pl
end
section
namespace Pl

/-- What is known of each state of a network of good rules. -/
inductive OkS (N : Bd) (nr : Nat) (i : Nat) : LS → Prop
  | basic (r d : Nat) : r < nr → N.out i = [epsE i d] → d < N.st.length → OkS N nr i ⟨1, r, 0⟩
  | chars (r d : Nat) (a b : Int) : r < nr → N.out i = [chrE i d a b] → d < N.st.length → 0 ≤ a → a ≤ b → b ≤ 127 → OkS N nr i ⟨1, r, 0⟩
  | ruleStart (r d : Nat) : r < nr → N.out i = [epsE i d] → d < N.st.length → N.st[i + 1]? = some ⟨7, r, 0⟩ → OkS N nr i ⟨2, r, 0⟩
  | block (r k : Nat) (ds : List Nat) : r < nr → k = 3 ∨ k = 5 → N.st[i + 1]? = some ⟨8, r, 0⟩ → N.out i = ds.map (epsE i) → ds ≠ [] → (∀ d ∈ ds, d < N.st.length) → OkS N nr i ⟨k, r, i + 1⟩
  | plusBlock (r : Nat) (j : Nat) (ds : List Nat) : r < nr → N.st[i + 1]? = some ⟨8, r, 0⟩ → N.out i = ds.map (epsE i) → ds ≠ [] → (∀ d ∈ ds, d < N.st.length) →
      i = j + 2 → N.st[j + 1]? = some ⟨11, r, 0⟩ → N.out (j + 1) = [epsE (j + 1) i, epsE (j + 1) j] → OkS N nr i ⟨4, r, i + 1⟩
  | ruleStop (r j : Nat) : r < nr → N.out i = [] → i = j + 1 → N.st[j]? = some ⟨2, r, 0⟩ → OkS N nr i ⟨7, r, 0⟩
  | blockEnd (r j k d : Nat) : r < nr → N.out i = [epsE i d] → d < N.st.length → i = j + 1 → N.st[j]? = some ⟨k, r, i⟩ → k = 3 ∨ k = 4 ∨ k = 5 → OkS N nr i ⟨8, r, 0⟩
  | starBack (r j : Nat) : r < nr → i = j + 1 → N.out i = [epsE i j] → N.st[j]? = some ⟨10, r, 0⟩ → OkS N nr i ⟨9, r, 0⟩
  | starEntry (r j : Nat) : r < nr → i = j + 1 → N.out i = [epsE i (i + 2), epsE i j] → N.st[i + 2]? = some ⟨5, r, i + 3⟩ → N.st[j]? = some ⟨12, r, i + 1⟩ → N.st[i + 1]? = some ⟨9, r, 0⟩ →
      N.out (i + 1) = [epsE (i + 1) i] → OkS N nr i ⟨10, r, 0⟩
  | plusBack (r j a : Nat) : r < nr → i = j + 1 → N.out i = [epsE i (i + 1), epsE i j] → N.st[i + 1]? = some ⟨4, r, i + 2⟩ → N.st[j]? = some ⟨12, r, a⟩ → OkS N nr i ⟨11, r, 0⟩
  | loopEnd (r a d : Nat) : r < nr → a < N.st.length → N.out i = [epsE i d] → d < N.st.length → OkS N nr i ⟨12, r, a⟩

/-- A state is fine, but that the edge that leads on from it is still to come. -/
inductive Open (N : Bd) (r : Nat) (t : Nat) : LS → Prop
  | basic : Open N r t ⟨1, r, 0⟩
  | blockEnd (j k : Nat) : t = j + 1 → N.st[j]? = some ⟨k, r, t⟩ → k = 3 ∨ k = 4 ∨ k = 5 → Open N r t ⟨8, r, 0⟩
  | loopEnd (a : Nat) : a < N.st.length → Open N r t ⟨12, r, a⟩

theorem Open.close {N : Bd} {r t nr d : Nat} {s : LS} (h : Open N r t s) (hr : r < nr) (ho : N.out t = [epsE t d]) (hd : d < N.st.length) : OkS N nr t s := by
  cases h with
  | basic => exact .basic r d hr ho hd
  | blockEnd j k h1 h2 h3 => exact .blockEnd r j k d hr ho hd h1 h2 h3
  | loopEnd a h => exact .loopEnd r a d hr h ho hd

def Ok (N : Bd) (nr i : Nat) : Prop := ∃ s, N.st[i]? = some s ∧ OkS N nr i s

theorem st_lt {N : Bd} {i : Nat} {s : LS} (h : N.st[i]? = some s) : i < N.st.length := (List.getElem?_eq_some_iff.1 h).1

/-- Of a part: where it ends is open, all else is fine. -/
structure PartOk (N : Bd) (r nr lo hi f t : Nat) : Prop where
  fst : f < N.st.length
  low : lo ≤ f
  high : f < hi
  last : ∃ s, N.st[t]? = some s ∧ Open N r t s
  rest : ∀ i, lo ≤ i → i < hi → i ≠ t → Ok N nr i

theorem PartOk.tlt {N : Bd} {r nr lo hi f t : Nat} (h : PartOk N r nr lo hi f t) : t < N.st.length := by
  obtain ⟨s, h1, _⟩ := h.last; exact st_lt h1

theorem PartOk.all {N : Bd} {r nr lo hi f t d : Nat} (h : PartOk N r nr lo hi f t) (hr : r < nr) (ho : N.out t = [epsE t d]) (hd : d < N.st.length) (i : Nat) (h1 : lo ≤ i) (h2 : i < hi) : Ok N nr i := by
  by_cases e : i = t
  · subst e
    obtain ⟨s, h3, h4⟩ := h.last
    exact ⟨s, h3, h4.close hr ho hd⟩
  · exact h.rest i h1 h2 e

mutual
theorem okE (N : Bd) (r nr : Nat) (hr : r < nr) : ∀ (e : Ex) (lo hi f t : Nat), FE N r e lo hi f t → (∀ d, lgE e d = true → PartOk N r nr lo hi f t)
  | .mk op a b subs, lo, hi, f, t, h, d, hg => by
    simp only [FE] at h
    simp only [lgE] at hg
    split at hg
    · cases hg
    rename_i hd
    simp only [Bool.and_eq_true] at hg
    obtain ⟨hgl, hgo⟩ := hg
    by_cases o0 : op = 0
    · subst o0
      simp only [if_true] at h
      simp only [if_true, Bool.and_eq_true, decide_eq_true_eq] at hgo
      obtain ⟨rfl, rfl, rfl, h1, h2, h3⟩ := h
      refine ⟨st_lt h1, Nat.le_refl _, by omega, ⟨_, h2, .basic⟩, fun i h4 h5 h6 => ?_⟩
      obtain rfl : i = f := by omega
      exact ⟨_, h1, .chars r (i + 1) a b hr h3 (st_lt h2) hgo.1.1.1 hgo.1.1.2 hgo.1.2⟩
    by_cases o1 : op = 1
    · subst o1
      simp only [if_true, show (1 : Int) ≠ 0 by decide, if_false] at h
      obtain ⟨rfl, rfl, h1, h2, h3⟩ := h
      obtain ⟨d1, h4, h5, h6⟩ := okRow N r nr hr subs _ _ _ h3 (st_lt h2) _ hgl
      have hle := rowLe N r subs _ _ _ h3
      refine ⟨st_lt h1, Nat.le_refl _, by omega, ⟨_, h2, .basic⟩, fun i h7 h8 h9 => ?_⟩
      rcases (show i = f ∨ (f + 1 ≤ i ∧ i < t) by omega) with rfl | ⟨h10, h11⟩
      · exact ⟨_, h1, .basic r d1 hr h4 h5⟩
      · exact h6 i h10 h11
    by_cases o25 : op = 2 ∨ op = 5
    · simp only [o0, o1, if_false, o25, if_true] at h
      obtain ⟨rfl, rfl, h1, h2, fs, h3, h4⟩ := h
      obtain ⟨h5, h6, h7⟩ := okSubs N r nr hr subs _ _ _ _ h3 (st_lt h2) _ hgl
      have hle := subsLe N r subs _ _ _ _ h3
      refine ⟨st_lt h1, Nat.le_refl _, by omega, ⟨_, h2, .blockEnd f 3 rfl h1 (Or.inl rfl)⟩, fun i h8 h9 h10 => ?_⟩
      rcases (show i = f ∨ f + 2 ≤ i by omega) with rfl | h11
      · refine ⟨_, h1, .block r 3 (fs ++ if op = 5 then [i + 1] else []) hr (Or.inl rfl) h2 ?_ ?_ ?_⟩
        · rw [h4]; split <;> simp
        · rcases o25 with rfl | rfl
          · simp only [show (2 : Int) ≠ 0 by decide, show (2 : Int) ≠ 1 by decide, if_true, if_false, decide_eq_true_eq] at hgo
            intro e
            have := congrArg List.length e
            simp [h7] at this
            rw [this] at hgo
            simp at hgo
          · simp
        · intro x hx
          rcases List.mem_append.1 hx with hx | hx
          · exact h5 x hx
          · split at hx
            · simp at hx; subst hx; exact st_lt h2
            · simp at hx
      · exact h6 i h11 h9
    have o34 : op = 3 ∨ op = 4 := by
      have o2 : op ≠ 2 := fun e => o25 (Or.inl e)
      have o5 : op ≠ 5 := fun e => o25 (Or.inr e)
      simp only [o0, o1, o2, if_false, Bool.and_eq_true, decide_eq_true_eq] at hgo
      omega
    have hl1 : subs.length = 1 := by
      have o2 : op ≠ 2 := fun e => o25 (Or.inl e)
      simp only [o0, o1, o2, if_false, Bool.and_eq_true, decide_eq_true_eq] at hgo
      exact hgo.2
    by_cases o3 : op = 3
    · subst o3
      simp only [show (3 : Int) ≠ 0 by decide, show (3 : Int) ≠ 1 by decide, show ¬ ((3 : Int) = 2 ∨ (3 : Int) = 5) by decide, if_false, if_true] at h
      obtain ⟨rfl, rfl, h1, h2, h3, h4, h5, ⟨fs, h6, h7⟩, h8, h9, h10⟩ := h
      obtain ⟨k1, k2, k3⟩ := okSubs N r nr hr subs _ _ _ _ h6 (st_lt h5) _ hgl
      have hle := subsLe N r subs _ _ _ _ h6
      refine ⟨st_lt h2, by omega, by omega, ⟨_, h1, .loopEnd (t + 2) (st_lt h3)⟩, fun i k4 k5 k6 => ?_⟩
      rcases (show i = t + 1 ∨ i = t + 2 ∨ i = t + 3 ∨ i = t + 4 ∨ t + 5 ≤ i by omega) with rfl | rfl | rfl | rfl | k7
      · exact ⟨_, h2, .starEntry r t hr rfl h8 h4 h1 h3 h10⟩
      · exact ⟨_, h3, .starBack r (t + 1) hr rfl h10 h2⟩
      · refine ⟨_, h4, .block r 5 fs hr (Or.inr rfl) h5 h7 ?_ k1⟩
        intro e; rw [e] at k3; simp at k3; omega
      · exact ⟨_, h5, .blockEnd r (t + 3) 5 _ hr h9 (st_lt h3) rfl h4 (Or.inr (Or.inr rfl))⟩
      · exact k2 i k7 k5
    · have o4 : op = 4 := by omega
      subst o4
      simp only [show (4 : Int) ≠ 0 by decide, show (4 : Int) ≠ 1 by decide, show ¬ ((4 : Int) = 2 ∨ (4 : Int) = 5) by decide, show (4 : Int) ≠ 3 by decide, if_false] at h
      obtain ⟨rfl, rfl, h1, h2, h3, h4, ⟨fs, h6, h7⟩, h8, h9⟩ := h
      obtain ⟨k1, k2, k3⟩ := okSubs N r nr hr subs _ _ _ _ h6 (st_lt h4) _ hgl
      have hle := subsLe N r subs _ _ _ _ h6
      have hne : fs ≠ [] := by intro e; rw [e] at k3; simp at k3; omega
      refine ⟨st_lt h3, by omega, by omega, ⟨_, h1, .loopEnd (t + 1) (st_lt h2)⟩, fun i k4 k5 k6 => ?_⟩
      rcases (show i = t + 1 ∨ i = t + 2 ∨ i = t + 3 ∨ t + 4 ≤ i by omega) with rfl | rfl | rfl | k7
      · exact ⟨_, h2, .plusBack r t (t + 1) hr rfl h9 h3 h1⟩
      · exact ⟨_, h3, .plusBlock r t fs hr h4 h7 hne k1 rfl h2 h9⟩
      · exact ⟨_, h4, .blockEnd r (t + 2) 4 _ hr h8 (st_lt h2) rfl h3 (Or.inr (Or.inl rfl))⟩
      · exact k2 i k7 k5
theorem okRow (N : Bd) (r nr : Nat) (hr : r < nr) : ∀ (es : List Ex) (lo hi at_ : Nat), FRow N r es lo hi at_ → hi < N.st.length → (∀ d, lgL es d = true →
    ∃ d, N.out at_ = [epsE at_ d] ∧ d < N.st.length ∧ ∀ i, lo ≤ i → i < hi → Ok N nr i)
  | [], lo, hi, at_, h, hh, d, hg => by
    simp only [FRow] at h
    obtain ⟨rfl, h1⟩ := h
    exact ⟨_, h1, hh, fun i h2 h3 => by omega⟩
  | e :: es, lo, hi, at_, h, hh, d, hg => by
    simp only [FRow] at h
    obtain ⟨m, f, t, h1, h2, h3⟩ := h
    simp only [lgL, Bool.and_eq_true] at hg
    have ihE := okE N r nr hr e _ _ _ _ h1 d hg.1
    obtain ⟨d1, k1, k2, k3⟩ := okRow N r nr hr es _ _ _ h3 hh d hg.2
    refine ⟨f, h2, ihE.fst, fun i h4 h5 => ?_⟩
    by_cases h6 : i < m
    · exact ihE.all hr k1 k2 i h4 h6
    · exact k3 i (by omega) h5
theorem okSubs (N : Bd) (r nr : Nat) (hr : r < nr) : ∀ (es : List Ex) (lo hi en : Nat) (fs : List Nat), FSubs N r es lo hi en fs → en < N.st.length → (∀ d, lgL es d = true →
    (∀ f ∈ fs, f < N.st.length) ∧ (∀ i, lo ≤ i → i < hi → Ok N nr i) ∧ fs.length = es.length)
  | [], lo, hi, en, fs, h, hh, d, hg => by
    simp only [FSubs] at h
    obtain ⟨rfl, rfl⟩ := h
    exact ⟨fun f hf => (by cases hf), fun i h2 h3 => (by omega), rfl⟩
  | e :: es, lo, hi, en, fs, h, hh, d, hg => by
    simp only [FSubs] at h
    obtain ⟨m, f, t, fs', h1, h2, rfl, h3⟩ := h
    simp only [lgL, Bool.and_eq_true] at hg
    have ihE := okE N r nr hr e _ _ _ _ h1 d hg.1
    obtain ⟨k1, k2, k3⟩ := okSubs N r nr hr es _ _ _ _ h3 hh d hg.2
    refine ⟨fun x hx => ?_, fun i h4 h5 => ?_, by simp [k3]⟩
    · rcases List.mem_cons.1 hx with rfl | hx
      · exact ihE.fst
      · exact k1 x hx
    · by_cases h6 : i < m
      · exact ihE.all hr h2 hh i h4 h6
      · exact k2 i (by omega) h5
theorem eLe (N : Bd) (r : Nat) : ∀ (e : Ex) (lo hi f t : Nat), FE N r e lo hi f t → lo < hi
  | .mk op a b subs, lo, hi, f, t, h => by
    simp only [FE] at h
    split at h
    · obtain ⟨rfl, rfl, rfl, _⟩ := h; omega
    split at h
    · obtain ⟨rfl, rfl, _, _, h1⟩ := h; have := rowLe N r subs _ _ _ h1; omega
    split at h
    · obtain ⟨rfl, rfl, _, _, fs, h1, _⟩ := h; have := subsLe N r subs _ _ _ _ h1; omega
    split at h
    · obtain ⟨rfl, rfl, _, _, _, _, _, ⟨fs, h1, _⟩, _⟩ := h; have := subsLe N r subs _ _ _ _ h1; omega
    · obtain ⟨rfl, rfl, _, _, _, _, ⟨fs, h1, _⟩, _⟩ := h; have := subsLe N r subs _ _ _ _ h1; omega
theorem rowLe (N : Bd) (r : Nat) : ∀ (es : List Ex) (lo hi at_ : Nat), FRow N r es lo hi at_ → lo ≤ hi
  | [], lo, hi, at_, h => by simp only [FRow] at h; omega
  | e :: es, lo, hi, at_, h => by
    simp only [FRow] at h
    obtain ⟨m, f, t, h1, h2, h3⟩ := h
    have := eLe N r e _ _ _ _ h1
    have := rowLe N r es _ _ _ h3
    omega
theorem subsLe (N : Bd) (r : Nat) : ∀ (es : List Ex) (lo hi en : Nat) (fs : List Nat), FSubs N r es lo hi en fs → lo ≤ hi
  | [], lo, hi, en, fs, h => by simp only [FSubs] at h; omega
  | e :: es, lo, hi, en, fs, h => by
    simp only [FSubs] at h
    obtain ⟨m, f, t, fs', h1, h2, _, h3⟩ := h
    have := eLe N r e _ _ _ _ h1
    have := subsLe N r es _ _ _ _ h3
    omega
end

mutual
theorem noStart (N : Bd) (r : Nat) : ∀ (e : Ex) (lo hi f t : Nat), FE N r e lo hi f t → ∀ i s, lo ≤ i → i < hi → N.st[i]? = some s → s.kind ≠ 2
  | .mk op a b subs, lo, hi, f, t, h, i, s, hi1, hi2, hs => by
    simp only [FE] at h
    split at h
    · obtain ⟨rfl, rfl, rfl, h1, h2, _⟩ := h
      rcases (show i = f ∨ i = f + 1 by omega) with rfl | rfl
      · rw [h1] at hs; simp at hs; subst hs; simp
      · rw [h2] at hs; simp at hs; subst hs; simp
    split at h
    · obtain ⟨rfl, rfl, h1, h2, h3⟩ := h
      rcases (show i = f ∨ i = t ∨ (f + 1 ≤ i ∧ i < t) by omega) with rfl | rfl | ⟨h4, h5⟩
      · rw [h1] at hs; simp at hs; subst hs; simp
      · rw [h2] at hs; simp at hs; subst hs; simp
      · exact noStartRow N r subs _ _ _ h3 i s h4 h5 hs
    split at h
    · obtain ⟨rfl, rfl, h1, h2, fs, h3, _⟩ := h
      rcases (show i = f ∨ i = f + 1 ∨ f + 2 ≤ i by omega) with rfl | rfl | h4
      · rw [h1] at hs; simp at hs; subst hs; simp
      · rw [h2] at hs; simp at hs; subst hs; simp
      · exact noStartSubs N r subs _ _ _ _ h3 i s h4 hi2 hs
    split at h
    · obtain ⟨rfl, rfl, h1, h2, h3, h4, h5, ⟨fs, h6, _⟩, _⟩ := h
      rcases (show i = t ∨ i = t + 1 ∨ i = t + 2 ∨ i = t + 3 ∨ i = t + 4 ∨ t + 5 ≤ i by omega) with rfl | rfl | rfl | rfl | rfl | h7
      · rw [h1] at hs; simp at hs; subst hs; simp
      · rw [h2] at hs; simp at hs; subst hs; simp
      · rw [h3] at hs; simp at hs; subst hs; simp
      · rw [h4] at hs; simp at hs; subst hs; simp
      · rw [h5] at hs; simp at hs; subst hs; simp
      · exact noStartSubs N r subs _ _ _ _ h6 i s h7 hi2 hs
    · obtain ⟨rfl, rfl, h1, h2, h3, h4, ⟨fs, h6, _⟩, _⟩ := h
      rcases (show i = t ∨ i = t + 1 ∨ i = t + 2 ∨ i = t + 3 ∨ t + 4 ≤ i by omega) with rfl | rfl | rfl | rfl | h7
      · rw [h1] at hs; simp at hs; subst hs; simp
      · rw [h2] at hs; simp at hs; subst hs; simp
      · rw [h3] at hs; simp at hs; subst hs; simp
      · rw [h4] at hs; simp at hs; subst hs; simp
      · exact noStartSubs N r subs _ _ _ _ h6 i s h7 hi2 hs
theorem noStartRow (N : Bd) (r : Nat) : ∀ (es : List Ex) (lo hi at_ : Nat), FRow N r es lo hi at_ → ∀ i s, lo ≤ i → i < hi → N.st[i]? = some s → s.kind ≠ 2
  | [], lo, hi, at_, h, i, s, h1, h2, hs => by simp only [FRow] at h; omega
  | e :: es, lo, hi, at_, h, i, s, h1, h2, hs => by
    simp only [FRow] at h
    obtain ⟨m, f, t, h3, _, h4⟩ := h
    by_cases h6 : i < m
    · exact noStart N r e _ _ _ _ h3 i s h1 h6 hs
    · exact noStartRow N r es _ _ _ h4 i s (by omega) h2 hs
theorem noStartSubs (N : Bd) (r : Nat) : ∀ (es : List Ex) (lo hi en : Nat) (fs : List Nat), FSubs N r es lo hi en fs → ∀ i s, lo ≤ i → i < hi → N.st[i]? = some s → s.kind ≠ 2
  | [], lo, hi, en, fs, h, i, s, h1, h2, hs => by simp only [FSubs] at h; omega
  | e :: es, lo, hi, en, fs, h, i, s, h1, h2, hs => by
    simp only [FSubs] at h
    obtain ⟨m, f, t, fs', h3, _, _, h4⟩ := h
    by_cases h6 : i < m
    · exact noStart N r e _ _ _ _ h3 i s h1 h6 hs
    · exact noStartSubs N r es _ _ _ _ h4 i s (by omega) h2 hs
end

/-- All states of good rules are fine, a closure of each comes to an end, and the rules begin at the states that are told. -/
structure GoodRule (e : Ex) : Prop where
  good : lgE e 5 = true
  some : leE e = false
  loops : lpE e = false

theorem rulesOk (N : Bd) (nr : Nat) : ∀ (es : List Ex) (i lo hi : Nat) (ss : List Nat), FRules N i es lo hi ss → hi = N.st.length → (∀ e ∈ es, GoodRule e) → i + es.length = nr →
    (∀ j, lo ≤ j → j < hi → Ok N nr j ∧ HasCl N j) ∧ ss.length = es.length ∧ (∀ (k s : Nat), ss[k]? = some s → N.st[s]? = some (⟨2, i + k, 0⟩ : LS)) ∧
      (∀ (j : Nat) (s : LS), lo ≤ j → j < hi → N.st[j]? = some s → s.kind = 2 → ss[s.rule - i]? = some j ∧ i ≤ s.rule) ∧ lo ≤ hi
  | [], i, lo, hi, ss, h, _, _, _ => by
    simp only [FRules] at h
    obtain ⟨rfl, rfl⟩ := h
    exact ⟨fun j h1 h2 => (by omega), rfl, fun k s h => (by simp at h), fun j s h1 h2 => (by omega), Nat.le_refl _⟩
  | e :: es, i, lo, hi, ss, h, hh, hg, hn => by
    simp only [FRules] at h
    obtain ⟨m, f, t, ss', h1, h2, h3, h4, h5, h6, rfl, h7⟩ := h
    simp only [List.length_cons] at hn
    have ge := hg e (by simp)
    obtain ⟨k1, k2, k3, k4, k5⟩ := rulesOk N nr es (i + 1) m hi ss' h7 hh (fun x hx => hg x (by simp [hx])) (by omega)
    have hp := okE N i nr (by omega) e _ _ _ _ h3 5 ge.good
    have hE := endsE N i e _ _ _ _ h3 ge.loops 5 ge.good
    have hlt := eLe N i e _ _ _ _ h3
    have hstop : HasCl N (lo + 1) := HasCl.leaf (by simp [Bd.leaf, Bd.kind, List.getD, h2])
    have ht := HasCl.one h5 hstop
    refine ⟨fun j h8 h9 => ?_, by simp [k2], fun k s hk => ?_, fun j s h8 h9 h10 h11 => ?_, by omega⟩
    · rcases (show j = lo ∨ j = lo + 1 ∨ (lo + 2 ≤ j ∧ j < m) ∨ m ≤ j by omega) with rfl | rfl | ⟨h10, h11⟩ | h10
      · exact ⟨⟨_, h1, .ruleStart i f (by omega) h4 hp.fst h2⟩, HasCl.one h4 (hE.first ht)⟩
      · exact ⟨⟨_, h2, .ruleStop i lo (by omega) h6 rfl h1⟩, hstop⟩
      · exact ⟨hp.all (by omega) h5 (st_lt h2) j h10 h11, hE.all ht j h10 h11⟩
      · exact k1 j h10 h9
    · cases k with
      | zero => simp at hk; subst hk; simpa using h1
      | succ k => simp at hk; have := k3 k s hk; rw [this]; congr 2; omega
    · rcases (show j = lo ∨ j = lo + 1 ∨ (lo + 2 ≤ j ∧ j < m) ∨ m ≤ j by omega) with rfl | rfl | ⟨h12, h13⟩ | h12
      · rw [h1] at h10; simp at h10; subst h10; simp
      · rw [h2] at h10; simp at h10; subst h10; simp at h11
      · obtain ⟨s', h14, h15⟩ := hp.all (by omega) h5 (st_lt h2) j h12 h13
        rw [h10] at h14; simp at h14; subst h14
        exact absurd h11 (noStart N i e _ _ _ _ h3 j s h12 h13 h10)
      · obtain ⟨h13, h14⟩ := k4 j s h12 h9 h10 h11
        refine ⟨?_, by omega⟩
        rw [show s.rule - i = (s.rule - (i + 1)) + 1 by omega]
        simpa using h13

end Pl
end
