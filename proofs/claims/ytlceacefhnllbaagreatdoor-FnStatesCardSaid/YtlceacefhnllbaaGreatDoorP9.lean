/- A part of the proof of the statement on the law FnStates, which the last text proves: part P9. -/
import Derived.Test.YtlceacefhnllbaaGreatDoorP8
set_option linter.all false
section
namespace Pl
def tot (B : Bd) : Nat := B.st.length + B.ed.length + B.de.length
theorem tot_add (B : Bd) (r k : Nat) : tot (B.add r k) = tot B + 1 := by simp [tot, Bd.add]; omega
theorem tot_dec (B : Bd) (s : Nat) : tot (B.dec s) = tot B + 1 := by simp [tot, Bd.dec]; omega
theorem tot_eps (B : Bd) (f t : Nat) : tot (B.eps f t) = tot B + 1 := by simp [tot, Bd.eps]; omega
theorem tot_chr (B : Bd) (f t : Nat) (a b : Int) : tot (B.chr f t a b) = tot B + 1 := by simp [tot, Bd.chr]; omega
theorem tot_arg (B : Bd) (s e : Nat) : tot (B.arg s e) = tot B := by simp [tot, Bd.arg]
mutual
theorem totE (r : Nat) : ∀ (e : Ex) (B : Bd), tot (mkE r e B).1 + 2 ≤ tot B + 16 * szE e
  | .mk op a b subs, B => by
    simp only [mkE, szE]
    split
    · simp only [tot_chr, tot_add]; omega
    split
    · simp only [tot_eps, tot_add]
      have := totRow r subs (B.add r 1) B.st.length
      rw [tot_add] at this; omega
    split
    · simp only [tot_dec]
      have := totSubs r B.st.length (B.st.length + 1) subs (((B.add r 3).add r 8).arg B.st.length (B.st.length + 1))
      simp only [tot_arg, tot_add] at this; omega
    split
    · simp only [tot_dec, tot_eps]
      have := totSubs r B.st.length (B.st.length + 1) subs (((B.add r 3).add r 8).arg B.st.length (B.st.length + 1))
      simp only [tot_arg, tot_add] at this; omega
    split
    · simp only [tot_dec, tot_eps, tot_arg]
      have := totSubs r (B.st.length + 3) (B.st.length + 4) subs ((((((B.add r 12).add r 10).add r 9).add r 5).add r 8).arg (B.st.length + 3) (B.st.length + 4))
      simp only [tot_arg, tot_add] at this; omega
    · simp only [tot_dec, tot_eps, tot_arg]
      have := totSubs r (B.st.length + 2) (B.st.length + 3) subs (((((B.add r 12).add r 11).add r 4).add r 8).arg (B.st.length + 2) (B.st.length + 3))
      simp only [tot_arg, tot_add] at this; omega
theorem totRow (r : Nat) : ∀ (es : List Ex) (B : Bd) (at_ : Nat), tot (mkRow r es B at_).1 ≤ tot B + 16 * szL es
  | [], B, at_ => by simp [mkRow, szL]
  | e :: es, B, at_ => by
    simp only [mkRow, szL]
    refine Nat.le_trans (totRow r es _ _) ?_
    rw [tot_eps]
    have := totE r e B
    omega
theorem totSubs (r s t : Nat) : ∀ (es : List Ex) (B : Bd), tot (mkSubs r s t es B) ≤ tot B + 16 * szL es
  | [], B => by simp [mkSubs, szL]
  | e :: es, B => by
    simp only [mkSubs, szL]
    refine Nat.le_trans (totSubs r s t es _) ?_
    rw [tot_eps, tot_eps]
    have := totE r e B
    omega
end
theorem totRule (i : Nat) (e : Ex) (B : Bd) : tot (mkRule i e B) ≤ tot B + 16 * szE e + 16 := by
  simp only [mkRule, tot_eps]
  have := totE i e ((B.add i 2).add i 7)
  simp only [tot_add] at this
  omega
theorem totRules : ∀ (es : List Ex) (i : Nat) (B : Bd) (ss : List Nat), tot (mkRules i es B ss).1 ≤ tot B + 16 * szL es + 16 * es.length
  | [], i, B, ss => by simp [mkRules, szL]
  | e :: es, i, B, ss => by
    simp only [mkRules, szL, List.length_cons]
    refine Nat.le_trans (totRules es _ _ _) ?_
    have := totRule i e B
    omega
theorem tot_compile {es : List Ex} (g : GoodL es) : tot (compile es).1 ≤ 1000 := by
  have := totRules es 0 (((⟨[], [], []⟩ : Bd).add 0 6).dec 0) []
  rw [tot_dec, tot_add] at this
  have e : tot ⟨[], [], []⟩ = 0 := rfl
  rw [e] at this
  have h1 := g.size
  have h2 := g.few
  have e2 : mkRules 0 es (((⟨[], [], []⟩ : Bd).add 0 6).dec 0) [] = compile es := rfl
  rw [e2] at this
  omega
theorem mkSubs_snoc (r s t : Nat) (e : Ex) : ∀ (l : List Ex) (B : Bd), mkSubs r s t (l ++ [e]) B = ((mkE r e (mkSubs r s t l B)).1.eps s (mkE r e (mkSubs r s t l B)).2.1).eps (mkE r e (mkSubs r s t l B)).2.2 t
  | [], B => by simp [mkSubs]
  | x :: l, B => by simp only [List.cons_append, mkSubs]; rw [mkSubs_snoc r s t e l]
theorem mkRow_snoc (r : Nat) (e : Ex) : ∀ (l : List Ex) (B : Bd) (a : Nat), mkRow r (l ++ [e]) B a = ((mkE r e (mkRow r l B a).1).1.eps (mkRow r l B a).2 (mkE r e (mkRow r l B a).1).2.1, (mkE r e (mkRow r l B a).1).2.2)
  | [], B, a => by simp [mkRow]
  | x :: l, B, a => by simp only [List.cons_append, mkRow]; rw [mkRow_snoc r e l]
def mkBlk (r k : Nat) (may : Bool) (subs : List Ex) (B : Bd) : Bd :=
  ((if may = true then (mkSubs r B.st.length (B.st.length + 1) subs (((B.add r k).add r 8).arg B.st.length (B.st.length + 1))).eps B.st.length (B.st.length + 1) else (mkSubs r B.st.length (B.st.length + 1) subs (((B.add r k).add r 8).arg B.st.length (B.st.length + 1))))).dec B.st.length
theorem mkE_2 (r : Nat) (a b : Int) (subs : List Ex) (B : Bd) : mkE r (.mk 2 a b subs) B = (mkBlk r 3 false subs B, B.st.length, B.st.length + 1) := by simp [mkE, mkBlk]
theorem mkE_5 (r : Nat) (a b : Int) (subs : List Ex) (B : Bd) : mkE r (.mk 5 a b subs) B = (mkBlk r 3 true subs B, B.st.length, B.st.length + 1) := by simp [mkE, mkBlk]
theorem mkE_3 (r : Nat) (a b : Int) (subs : List Ex) (B : Bd) : mkE r (.mk 3 a b subs) B = ((((((((mkBlk r 5 false subs (((B.add r 12).add r 10).add r 9)).eps (B.st.length + 1) (B.st.length + 3)).eps (B.st.length + 1) B.st.length).eps (B.st.length + 4) (B.st.length + 2)).eps (B.st.length + 2) (B.st.length + 1)).arg B.st.length (B.st.length + 2)).dec (B.st.length + 1), B.st.length + 1, B.st.length)) := by
  simp [mkE, mkBlk, Bd.add]
theorem mkE_4 (r : Nat) (op a b : Int) (subs : List Ex) (B : Bd) (h0 : op ≠ 0) (h1 : op ≠ 1) (h2 : op ≠ 2) (h5 : op ≠ 5) (h3 : op ≠ 3) : mkE r (.mk op a b subs) B = (((((((mkBlk r 4 false subs ((B.add r 12).add r 11)).eps (B.st.length + 3) (B.st.length + 1)).eps (B.st.length + 1) (B.st.length + 2)).eps (B.st.length + 1) B.st.length).arg B.st.length (B.st.length + 1)).dec (B.st.length + 1), B.st.length + 2, B.st.length)) := by
  simp [mkE, mkBlk, Bd.add, h0, h1, h2, h5, h3]
theorem mkE_0 (r : Nat) (a b : Int) (subs : List Ex) (B : Bd) : mkE r (.mk 0 a b subs) B = (((B.add r 1).add r 1).chr B.st.length (B.st.length + 1) a b, B.st.length, B.st.length + 1) := by simp [mkE]
theorem mkE_1 (r : Nat) (a b : Int) (subs : List Ex) (B : Bd) : mkE r (.mk 1 a b subs) B = (((mkRow r subs (B.add r 1) B.st.length).1.add r 1).eps (mkRow r subs (B.add r 1) B.st.length).2 (mkRow r subs (B.add r 1) B.st.length).1.st.length, B.st.length, (mkRow r subs (B.add r 1) B.st.length).1.st.length) := by simp [mkE]
theorem st_mkBlk (r k : Nat) (may : Bool) (subs : List Ex) (B : Bd) : B.st.length + 2 ≤ (mkBlk r k may subs B).st.length := by
  have h : ∀ (es : List Ex) (s t : Nat) (B : Bd), s < B.st.length → t < B.st.length → s ≠ t → B.st.length ≤ (mkSubs r s t es B).st.length := by
    intro es s t B hs ht hne
    obtain ⟨S, E, D, fs, hA, _⟩ := goodSubs r es B s t hs ht hne
    rw [hA.st, List.length_append]; omega
  have h2 := h subs B.st.length (B.st.length + 1) (((B.add r k).add r 8).arg B.st.length (B.st.length + 1)) (by rw [len_arg, len_add, len_add]; omega) (by rw [len_arg, len_add, len_add]; omega) (by omega)
  rw [len_arg, len_add, len_add] at h2
  unfold mkBlk
  split <;> simp only [Bd.dec, Bd.eps] <;> omega
theorem tot_mkBlk (r k : Nat) (may : Bool) (subs : List Ex) (B : Bd) : tot (mkBlk r k may subs B) ≤ tot B + 4 + 16 * szL subs := by
  have := totSubs r B.st.length (B.st.length + 1) subs (((B.add r k).add r 8).arg B.st.length (B.st.length + 1))
  simp only [tot_arg, tot_add] at this
  unfold mkBlk
  rw [tot_dec]
  split
  · rw [tot_eps]; omega
  · omega
end Pl
end
