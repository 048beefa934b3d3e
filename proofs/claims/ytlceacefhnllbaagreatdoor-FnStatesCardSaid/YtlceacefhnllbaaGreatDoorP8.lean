/- A part of the proof of the statement on the law FnStates, which the last text proves: part P8. -/
import Derived.Test.YtlceacefhnllbaaGreatDoorP6
import Derived.Test.YtlceacefhnllbaaGreatDoorP7
set_option linter.all false
section
namespace Pl

theorem chk2_eq (l m : List Nat) : chk2 l m = l.all fun i => m.all fun j => chkT [ru i, ru j] := by
  unfold chk2; rw [allR_eq]; congr 1; funext i; rw [allR_eq]
theorem chk1_eq (l : List Nat) : chk1 l = l.all fun i => chkT [ru i] := by unfold chk1; rw [allR_eq]
theorem chk_one {i : Nat} (h : i ∈ codes) : chkT [ru i] = true := by
  have := chk1_all
  rw [chk1_eq, List.all_eq_true] at this
  exact this i h
theorem chk_two {i j : Nat} (h : i ∈ codes) (hj : j ∈ codes) : chkT [ru i, ru j] = true := by
  have key : ∀ l : List Nat, chk2 l codes = true → i ∈ l → chkT [ru i, ru j] = true := by
    intro l hl hi
    rw [chk2_eq, List.all_eq_true] at hl
    exact (List.all_eq_true.1 (hl i hi)) j hj
  have e : codes = (codes.drop (13 * 0)).take 13 ++ ((codes.drop (13 * 1)).take 13 ++ ((codes.drop (13 * 2)).take 13 ++ (codes.drop (13 * 3)).take 13)) := by decide
  have h' := h
  rw [e] at h'
  rcases List.mem_append.1 h' with h' | h'
  · exact key _ chk2_0 h'
  rcases List.mem_append.1 h' with h' | h'
  · exact key _ chk2_1 h'
  rcases List.mem_append.1 h' with h' | h'
  · exact key _ chk2_2 h'
  · exact key _ chk2_3 h'

/-! ### what tiny rules are -/
def tpC : Ex → Bool
  | .mk op a b _ => decide (op = 0) && decide (a = b) && (decide (a = 97) || decide (a = 98))
def tpE : Ex → Bool
  | .mk op a b subs => if 3 ≤ op then match subs with
      | [s] => tpC s
      | _ => tpC (.mk op a b subs)
    else tpC (.mk op a b subs)
def tinyE : Ex → Bool
  | .mk op _ _ subs => decide (op = 1) && decide (1 ≤ subs.length) && decide (subs.length ≤ 2) && subs.all tpE
def tinyL (es : List Ex) : Bool := es.all tinyE && decide (es.length ≤ 2)

def Alike (e t : Ex) : Prop := ∀ r B, mkE r e B = mkE r t B
theorem tpC_ok {op a b : Int} {subs : List Ex} (h : tpC (.mk op a b subs) = true) {d : Nat} (g : lgE (.mk op a b subs) d = true) : ∃ c : Int, (c = 97 ∨ c = 98) ∧ Ex.mk op a b subs = chr c := by
  simp only [tpC, Bool.and_eq_true, Bool.or_eq_true, decide_eq_true_eq] at h
  obtain ⟨⟨rfl, rfl⟩, h⟩ := h
  simp only [lgE] at g
  split at g
  · cases g
  simp at g
  obtain ⟨_, _, g⟩ := g
  have : subs = [] := by simpa using g
  subst this
  exact ⟨a, h, rfl⟩
theorem tp_chr {c : Int} (h : c = 97 ∨ c = 98) : ∃ k, k < 2 ∧ chr c = tinyPart k := by
  rcases h with rfl | rfl
  · exact ⟨0, by omega, rfl⟩
  · exact ⟨1, by omega, rfl⟩
theorem mk_op (r : Nat) (op a b : Int) (s : List Ex) (B : Bd) (h : op = 3 ∨ op = 4 ∨ op = 5) : mkE r (.mk op a b s) B = mkE r (.mk op 0 0 s) B := by
  rcases h with rfl | rfl | rfl <;> simp [mkE]
theorem tpE_ok : ∀ (e : Ex), tpE e = true → ∀ {d : Nat}, lgE e d = true → ∃ k, k < 8 ∧ Alike e (tinyPart k) ∧ leE e = leE (tinyPart k)
  | .mk op a b subs, h, d, g => by
    simp only [tpE] at h
    have one : tpC (.mk op a b subs) = true → ∃ k, k < 8 ∧ Alike (.mk op a b subs) (tinyPart k) ∧ leE (.mk op a b subs) = leE (tinyPart k) := by
      intro h
      obtain ⟨c, hc, e⟩ := tpC_ok h g
      obtain ⟨k, hk, e2⟩ := tp_chr hc
      rw [e, e2]
      exact ⟨k, by omega, fun _ _ => rfl, rfl⟩
    split at h
    · rename_i h3
      split at h
      · rename_i s
        simp only [lgE] at g
        split at g
        · cases g
        simp only [Bool.and_eq_true] at g
        obtain ⟨g1, g2⟩ := g
        rw [if_neg (by omega), if_neg (by omega), if_neg (by omega)] at g2
        simp at g2
        simp only [lgL, Bool.and_eq_true] at g1
        obtain ⟨op', a', b', subs'⟩ := s
        obtain ⟨c, hc, e⟩ := tpC_ok h g1.1
        rw [e]
        have ho : op = 3 ∨ op = 4 ∨ op = 5 := by omega
        have : ∃ k, k < 8 ∧ Ex.mk op 0 0 [chr c] = tinyPart k := by
          rcases ho with rfl | rfl | rfl <;> rcases hc with rfl | rfl
          · exact ⟨2, by omega, rfl⟩
          · exact ⟨3, by omega, rfl⟩
          · exact ⟨4, by omega, rfl⟩
          · exact ⟨5, by omega, rfl⟩
          · exact ⟨6, by omega, rfl⟩
          · exact ⟨7, by omega, rfl⟩
        obtain ⟨k, hk, e2⟩ := this
        refine ⟨k, hk, fun r B => by rw [mk_op r op a b _ B ho, e2], ?_⟩
        rw [← e2]; simp [leE]
      · exact one h
    · exact one h

theorem mkRow_one {e t : Ex} (h : Alike e t) (r : Nat) (B : Bd) (at_ : Nat) : mkRow r [e] B at_ = mkRow r [t] B at_ := by
  simp only [mkRow]; rw [h r B]
theorem mkRow_two {e t e' t' : Ex} (h : Alike e t) (h' : Alike e' t') (r : Nat) (B : Bd) (at_ : Nat) : mkRow r [e, e'] B at_ = mkRow r [t, t'] B at_ := by
  simp only [mkRow]; rw [h r B, h' r]
theorem tinyE_ok : ∀ (e : Ex), tinyE e = true → GoodRule e → ∃ i ∈ codes, Alike e (ru i)
  | .mk op a b subs, h, g => by
    simp only [tinyE, Bool.and_eq_true, decide_eq_true_eq] at h
    obtain ⟨⟨⟨rfl, h1⟩, h2⟩, h3⟩ := h
    have g1 := g.good
    simp only [lgE] at g1
    split at g1
    · cases g1
    simp only [Bool.and_eq_true] at g1
    have g2 := g.some
    simp only [leE] at g2
    rw [codes_eq]
    match subs, h1, h2, h3, g1.1, g2 with
    | [s], _, _, h3, g3, g2 =>
      simp only [List.all_cons, Bool.and_eq_true] at h3
      simp only [lgL, Bool.and_eq_true] at g3
      obtain ⟨k, hk, ha, hl⟩ := tpE_ok s h3.1 g3.1
      have hr : ru k = .mk 1 0 0 [tinyPart k] := by unfold ru; rw [if_pos hk]
      refine ⟨k, List.mem_filter.2 ⟨List.mem_range.2 (by omega), ?_⟩, fun r B => ?_⟩
      · rw [hr]; simp [leE, leAll] at g2 ⊢; rw [← hl]; exact g2
      · rw [hr]; simp only [mkE]; rw [mkRow_one ha]; rfl
    | [s, t], _, _, h3, g3, g2 =>
      simp only [List.all_cons, Bool.and_eq_true] at h3
      simp only [lgL, Bool.and_eq_true] at g3
      obtain ⟨k, hk, ha, hl⟩ := tpE_ok s h3.1 g3.1
      obtain ⟨j, hj, hb, hm⟩ := tpE_ok t h3.2.1 g3.2.1
      have hr : ru (8 + (8 * k + j)) = .mk 1 0 0 [tinyPart k, tinyPart j] := by
        unfold ru
        rw [if_neg (by omega), show (8 + (8 * k + j) - 8) / 8 = k by omega, show (8 + (8 * k + j) - 8) % 8 = j by omega]
      refine ⟨8 + (8 * k + j), List.mem_filter.2 ⟨List.mem_range.2 (by omega), ?_⟩, fun r B => ?_⟩
      · rw [hr]; simp [leE, leAll] at g2 ⊢; rw [← hl, ← hm]; cases hh : leE s <;> simp_all
      · rw [hr]; simp only [mkE]; rw [mkRow_two ha hb]; rfl
theorem mkRule_alike {e t : Ex} (h : Alike e t) (i : Nat) (B : Bd) : mkRule i e B = mkRule i t B := by
  simp only [mkRule]; rw [h i]
theorem compile_one {e t : Ex} (h : Alike e t) : compile [e] = compile [t] := by
  simp only [compile, mkRules]; rw [mkRule_alike h]
theorem compile_two {e t e' t' : Ex} (h : Alike e t) (h' : Alike e' t') : compile [e, e'] = compile [t, t'] := by
  simp only [compile, mkRules]; rw [mkRule_alike h, mkRule_alike h']
theorem tiny_chk {es : List Ex} (g : GoodL es) (h : tinyL es = true) : chkT es = true := by
  simp only [tinyL, Bool.and_eq_true, decide_eq_true_eq] at h
  obtain ⟨h1, h2⟩ := h
  have hp := g.pos
  match es, g, h1, h2, hp with
  | [e], g, h1, _, _ =>
    simp only [List.all_cons, Bool.and_eq_true] at h1
    obtain ⟨i, hi, ha⟩ := tinyE_ok e h1.1 (g.each e (by simp))
    have := chk_one hi
    unfold chkT at this ⊢
    rw [compile_one ha]; exact this
  | [e, e'], g, h1, _, _ =>
    simp only [List.all_cons, Bool.and_eq_true] at h1
    obtain ⟨i, hi, ha⟩ := tinyE_ok e h1.1 (g.each e (by simp))
    obtain ⟨j, hj, hb⟩ := tinyE_ok e' h1.2.1 (g.each e' (by simp))
    have := chk_two hi hj
    unfold chkT at this ⊢
    rw [compile_two ha hb]; exact this

/-- Of good tiny rules: their states are few, no two sets have one hash. -/
theorem tiny_all {es : List Ex} (g : GoodL es) (h : tinyL es = true) {f : Nat} (hf : ∀ j, 1 ≤ j → j < (compile es).1.st.length → ∃ L, (compile es).1.cl f j = some L) :
    (∀ A, Met (compile es).1 f A → ∀ x ∈ A, V x) ∧ ∀ A B, Met (compile es).1 f A → Met (compile es).1 f B → dfaN (dd A) = dfaN (dd B) → dd A = dd B := by
  have h2 : es.length ≤ 2 := by
    simp only [tinyL, Bool.and_eq_true, decide_eq_true_eq] at h; exact h.2
  exact tinyHash g h2 (tiny_chk g h) hf
end Pl
end
