/- A part of the proof of the statement on the law FnStates, which the last text proves: part P5. -/
import Derived.Test.YtlceacefhnllbaaGreatDoorP4
set_option linter.all false
section
namespace Pl

/-! ### the check of a tiny network's hashes is sound -/
theorem dqR_eq : ∀ (A acc : List Nat), dqR A acc = dqR A acc := fun _ _ => rfl
theorem setR_nil (t : List Nat) (h : Nat) : setR t [] h = h := rfl
theorem setR_cons (t : List Nat) (x : Nat) (D : List Nat) (h : Nat) : setR t (x :: D) h = setR t D ((h * 31 + t.getD x 0) % 4294967296) := by
  show forceN ((h * 31 + nthR t x) % 4294967296) (setR t D) = _
  rw [forceN_eq, nthR_eq]
theorem stR_nil (eps : List (List Nat)) (i : Nat) : stR eps [] i = [] := rfl
theorem stR_cons (eps : List (List Nat)) (d : Nat) (ds : List Nat) (i : Nat) : stR eps (d :: ds) i = (clA eps 24 d).map (fun s => 2 * s + i) ++ stR eps ds (i + 1) := by
  show appR (mapR (fun s => 2 * s + i) (clA eps 24 d)) (stR eps ds (i + 1)) = _
  rw [appR_eq, mapR_eq]
theorem pairsR_cons (A : List Nat) (Q : List (List Nat)) : pairsR (A :: Q) = if (Q.all fun B => if Nat.beq (hd A) (hd B) then eqLR A B else true) then pairsR Q else false := by
  show ifB (allR (fun B => ifB (Nat.beq (hd A) (hd B)) (eqLR A B) true) Q) (pairsR Q) false = _
  rw [ifB_eq, allR_eq]
  simp only [ifB_eq]
theorem pairsR_ok : ∀ Q : List (List Nat), pairsR Q = true → ∀ A ∈ Q, ∀ B ∈ Q, hd A = hd B → A = B
  | [], _, A, hA, _, _, _ => by simp at hA
  | X :: Q, h, A, hA, B, hB, e => by
    rw [pairsR_cons] at h
    split at h
    · rename_i h1
      rw [List.all_eq_true] at h1
      have hX : ∀ Y ∈ Q, hd X = hd Y → X = Y := by
        intro Y hY e
        have := h1 Y hY
        rw [if_pos (beq_iff.2 e), eqLR_eq] at this
        simpa using this
      rcases List.mem_cons.1 hA with rfl | hA <;> rcases List.mem_cons.1 hB with rfl | hB
      · rfl
      · exact hX B hB e
      · exact (hX A (by assumption) e.symm).symm
      · exact pairsR_ok Q h A hA B hB e
    · cases h

def dfaN (D : List (Nat × Nat)) : Nat := mF (mU 7 (D.foldl (fun h x => (h * 31 + lh x.1 x.2) % 4294967296) 1)) 1
theorem setR_enc : ∀ (D : List (Nat × Nat)) (h : Nat), (∀ x ∈ D, V x) → setR tab (enc D) h = D.foldl (fun h x => (h * 31 + lh x.1 x.2) % 4294967296) h
  | [], h, _ => rfl
  | x :: D, h, hv => by
    show setR tab (enc1 x :: enc D) h = _
    rw [setR_cons, (hv x (by simp)).tab, setR_enc D _ (fun y hy => hv y (by simp [hy]))]
    rfl
theorem dfaR_enc {D : List (Nat × Nat)} (hv : ∀ x ∈ D, V x) : dfaR tab (enc D) = dfaN D := by
  unfold dfaR dfaN; rw [setR_enc D 1 hv]
theorem enc_inj : ∀ (D E : List (Nat × Nat)), (∀ x ∈ D, V x) → (∀ x ∈ E, V x) → enc D = enc E → D = E
  | [], [], _, _, _ => rfl
  | [], _ :: _, _, _, h => by simp [enc] at h
  | _ :: _, [], _, _, h => by simp [enc] at h
  | x :: D, y :: E, h1, h2, h => by
    simp only [enc, List.map_cons, List.cons.injEq] at h
    rw [(h1 x (by simp)).inj (h2 y (by simp)) h.1, enc_inj D E (fun z hz => h1 z (by simp [hz])) (fun z hz => h2 z (by simp [hz])) h.2]

/-- What the check shows. -/
structure ChkG (tb : List Nat) (N : Bd) (R : List (List Nat)) : Prop where
  kinds : ∀ e ∈ N.ed, e.kind ≠ 1 → e.kind = 5 ∧ (e.a1 = 97 ∨ e.a1 = 98)
  st : ∀ x ∈ stR (epsOf (N.ed.map encE)) (dstsOf (epsOf (N.ed.map encE)) 0) 0, x ≤ 79
  tr : ∀ e ∈ N.ed, e.kind ≠ 1 → ∀ x ∈ clA (epsOf (N.ed.map encE)) 24 e.dst, x ≤ 39
  r0 : dqR (stR (epsOf (N.ed.map encE)) (dstsOf (epsOf (N.ed.map encE)) 0) 0) [] ∈ R
  rn : [] ∈ R
  ra : ∀ D ∈ R, dqR (stepC ((chrOf (N.ed.map encE)).map (trR (epsOf (N.ed.map encE)))) D 97) [] ∈ R
  rb : ∀ D ∈ R, dqR (stepC ((chrOf (N.ed.map encE)).map (trR (epsOf (N.ed.map encE)))) D 98) [] ∈ R
  pr : ∀ D ∈ R, ∀ E ∈ R, dfaR tb D = dfaR tb E → D = E
abbrev ChkP (N : Bd) (R : List (List Nat)) : Prop := ChkG tab N R

theorem toNat_eq {a : Int} {n : Nat} (h : a.toNat = n + 1) : a = (n + 1 : Nat) := by omega

noncomputable def chkX (gr : List (List Nat) → List Nat → List (List Nat)) (tb : List Nat) (ed : List (List Nat)) : Bool :=
  forceLL (epsOf ed) fun eps => forceLL (chrOf ed) fun ch => 
    ifB (allR (fun e => ifB (Nat.beq (hd (tl (tl e))) 5) (ifB (Nat.beq (hd (tl (tl (tl e)))) 97) true (Nat.beq (hd (tl (tl (tl e)))) 98)) false) ch)
      (forceLL (mapR (trR eps) ch) fun tr => forceL (stR eps (dstsOf eps 0) 0) fun st =>
        ifB (allR (fun x => Nat.ble x 79) st) (ifB (allR (fun r => allR (fun x => Nat.ble x 39) (tl (tl r))) tr) (forceLL (gr tr st) fun R => chkR tb tr st R) false) false) false
theorem chkX_eq (ed : List (List Nat)) : chkE tab ed = chkX (fun tr st => grow tr 60 [dqR st [], []] []) tab ed := rfl
theorem if_t {b x : Bool} (h : (if b = true then x else false) = true) : b = true ∧ x = true := by
  cases b <;> simp at h <;> simp [h]
theorem trR_tl (eps : List (List Nat)) (e : LE) : tl (tl (trR eps (encE e))) = clA eps 24 e.dst := by
  unfold trR
  rw [tl_cons, tl_cons]
  unfold encE
  rw [tl_cons, hd_cons]
theorem chkX_ok (gr : List (List Nat) → List Nat → List (List Nat)) (tb : List Nat) {N : Bd} (h : chkX gr tb (N.ed.map encE) = true) : ∃ R, ChkG tb N R := by
  unfold chkX at h
  simp only [forceLL_eq, forceL_eq, ifB_eq, allR_eq, mapR_eq] at h
  obtain ⟨h1, h⟩ := if_t h
  obtain ⟨h2, h⟩ := if_t h
  obtain ⟨h3, h⟩ := if_t h
  generalize gr _ _ = R at h
  refine ⟨R, ?_⟩
  unfold chkR at h
  simp only [ifB_eq, allR_eq, anyR_eq, mapR_eq, forceLL_eq] at h
  obtain ⟨h4, h⟩ := if_t h
  obtain ⟨h5, h⟩ := if_t h
  obtain ⟨h6, h⟩ := if_t h
  obtain ⟨h7, h⟩ := if_t h
  rw [List.all_eq_true] at h1 h2 h3 h6
  have mem : ∀ {D : List Nat}, R.any (eqLR D) = true → D ∈ R := by
    intro D hD
    obtain ⟨E, hE, hE2⟩ := List.any_eq_true.1 hD
    rw [eqLR_eq] at hE2
    have : D = E := by simpa using hE2
    rw [this]; exact hE
  have cm : ∀ e ∈ N.ed, e.kind ≠ 1 → encE e ∈ chrOf (N.ed.map encE) := by
    intro e he hk
    rw [chrOf_map]
    exact List.mem_map.2 ⟨e, List.mem_filter.2 ⟨he, by simpa using hk⟩, rfl⟩
  refine ⟨fun e he hk => ?_, fun x hx => Nat.le_of_ble_eq_true (h2 x hx), fun e he hk x hx => ?_, mem h4, mem h5, fun D hD => ?_, fun D hD => ?_, fun D hD E hE e => ?_⟩
  · have h0 := h1 _ (cm e he hk)
    obtain ⟨h8, h9⟩ := if_t h0
    have e5 : e.kind = 5 := Nat.eq_of_beq_eq_true h8
    refine ⟨e5, ?_⟩
    by_cases h10 : Nat.beq (e.a1.toNat) 97 = true
    · have := Nat.eq_of_beq_eq_true h10
      exact .inl (by omega)
    · have h11 : (if Nat.beq (e.a1.toNat) 97 = true then true else Nat.beq (e.a1.toNat) 98) = true := h9
      rw [if_neg h10] at h11
      have := Nat.eq_of_beq_eq_true h11
      exact .inr (by omega)
  · have h0 := h3 _ (List.mem_map.2 ⟨_, cm e he hk, rfl⟩)
    rw [trR_tl] at h0
    exact Nat.le_of_ble_eq_true (List.all_eq_true.1 h0 x hx)
  · exact mem (if_t (h6 D hD)).1
  · exact mem (if_t (h6 D hD)).2
  · have := pairsR_ok _ h (dfaR tb D :: D) (List.mem_map.2 ⟨D, hD, rfl⟩) (dfaR tb E :: E) (List.mem_map.2 ⟨E, hE, rfl⟩) (by rw [hd_cons, hd_cons]; exact e)
    exact (List.cons.inj this).2
theorem chkP {N : Bd} (h : chkE tab (N.ed.map encE) = true) : ∃ R, ChkP N R := chkX_ok _ tab (by rw [← chkX_eq]; exact h)

variable {N : Bd} {ss : List Nat} {nr : Nat} {R : List (List Nat)}
theorem ChkP.cl (c : ChkP N R) (g : NetG N ss nr) {f d : Nat} {l : List Nat} (h1 : 1 ≤ d) (h2 : d < N.st.length) (hy : ∀ y ∈ clA (epsOf (N.ed.map encE)) 24 d, y < 1000) (h : N.cl f d = some l) : l = clA (epsOf (N.ed.map encE)) 24 d :=
  cl_det h (clA_cl g.ok 24 d h1 h2 hy)

theorem ChkP.start (c : ChkP N R) (g : NetG N ss nr) {f : Nat} : ∀ (es : List LE) (i : Nat) (A : List (Nat × Nat)), (∀ e ∈ es, 1 ≤ e.dst ∧ e.dst < N.st.length) → (∀ x ∈ stR (epsOf (N.ed.map encE)) (es.map (·.dst)) i, x ≤ 79) → startP N f es i = some A →
    enc A = stR (epsOf (N.ed.map encE)) (es.map (·.dst)) i ∧ ∀ x ∈ A, x.1 < 40 ∧ 1 ≤ x.2
  | [], i, A, _, _, h => by simp [startP] at h; subst h; exact ⟨rfl, by simp⟩
  | e :: es, i, A, hd, hx, h => by
    rw [List.map_cons, stR_cons] at hx ⊢
    simp only [startP] at h
    obtain ⟨l, h1, h2⟩ := Option.bind_eq_some_iff.1 h
    obtain ⟨r, h3, rfl⟩ := Option.map_eq_some_iff.1 h2
    obtain ⟨k1, k2⟩ := c.start g es (i + 1) r (fun e' he => hd e' (by simp [he])) (fun x hx' => hx x (List.mem_append.2 (.inr hx'))) h3
    have hl : ∀ y ∈ clA (epsOf (N.ed.map encE)) 24 e.dst, y < 40 := by
      intro y hy
      have := hx (2 * y + i) (List.mem_append.2 (.inl (List.mem_map.2 ⟨y, hy, rfl⟩)))
      omega
    obtain rfl := c.cl g (hd e (by simp)).1 (hd e (by simp)).2 (fun y hy => by have := hl y hy; omega) h1
    refine ⟨?_, fun x hx' => ?_⟩
    · rw [← k1]; simp [enc, enc1]
    · rcases List.mem_append.1 hx' with hx' | hx'
      · obtain ⟨s, hs, rfl⟩ := List.mem_map.1 hx'
        exact ⟨hl s hs, by simp⟩
      · exact k2 x hx'

theorem ChkP.edge (c : ChkP N R) (g : NetG N ss nr) {f s a : Nat} {ch : Int} (hc : ch = 97 ∨ ch = 98) (hs : s < 40) (ha1 : 1 ≤ a) (ha2 : a ≤ 2) : ∀ (es : List LE) (A : List (Nat × Nat)), (∀ e ∈ es, e ∈ N.ed) → edgeA N f ch a (es.filter fun e => e.src == s) = some A →
    enc A = (((es.filter fun e => !(e.kind == 1)).map encE).map (trR (epsOf (N.ed.map encE)))).flatMap (stepRow (2 * s + (a - 1)) ch.toNat) ∧ ∀ x ∈ A, V x
  | [], A, _, h => by simp [edgeA] at h; subst h; exact ⟨rfl, by simp⟩
  | e :: es, A, hm, h => by
    have he := hm e (by simp)
    have ih := fun A => c.edge g (f := f) hc hs ha1 ha2 es A (fun e' he' => hm e' (by simp [he']))
    have e1 : (2 * s + (a - 1)) / 2 = s := by omega
    have e2 : (2 * s + (a - 1)) % 2 = a - 1 := by omega
    by_cases hk : e.kind = 1
    · have : (!(e.kind == 1)) = false := by simp [hk]
      rw [List.filter_cons_of_neg (by simp [this])]
      by_cases hsrc : e.src = s
      · rw [List.filter_cons_of_pos (by simpa using hsrc)] at h
        have hh : hitE e ch = false := by simp [hitE, hk]
        rw [edgeA, hh] at h
        exact ih A (by simpa using h)
      · rw [List.filter_cons_of_neg (by simpa using hsrc)] at h
        exact ih A h
    · obtain ⟨k5, ka⟩ := c.kinds e he hk
      have : (!(e.kind == 1)) = true := by simp [hk]
      rw [List.filter_cons_of_pos (by simp [hk]), List.map_cons, List.map_cons, List.flatMap_cons]
      have row : stepRow (2 * s + (a - 1)) ch.toNat (trR (epsOf (N.ed.map encE)) (encE e)) = if e.src = s then if e.a1.toNat = ch.toNat then (clA (epsOf (N.ed.map encE)) 24 e.dst).map (fun t => 2 * t + (a - 1)) else [] else [] := by
        simp only [stepRow, trR, encE, hd_cons, tl_cons, ifB_eq, beq_dec, mapR_eq, e1, e2, decide_eq_true_eq]
      rw [row]
      by_cases hsrc : e.src = s
      · rw [List.filter_cons_of_pos (by simpa using hsrc)] at h
        rw [if_pos hsrc]
        by_cases hh : e.a1 = ch
        · have hh' : hitE e ch = true := by simp [hitE, k5, hh]
          rw [edgeA, if_pos hh'] at h
          obtain ⟨l, h1, h2⟩ := Option.bind_eq_some_iff.1 h
          obtain ⟨r, h3, rfl⟩ := Option.map_eq_some_iff.1 h2
          obtain ⟨i1, i2⟩ := ih r h3
          have hd := g.ok.dst e.src e (List.mem_filter.2 ⟨he, by simp⟩)
          have hl := c.tr e he hk
          obtain rfl := c.cl g (show 1 ≤ e.dst by omega) hd.1 (fun y hy => by have := hl y hy; omega) h1
          rw [if_pos (by rw [hh]), ← i1]
          refine ⟨by simp [enc, enc1], fun x hx => ?_⟩
          rcases List.mem_append.1 hx with hx | hx
          · obtain ⟨t, ht, rfl⟩ := List.mem_map.1 hx
            exact ⟨by have := hl t ht; simp; omega, ha1, ha2⟩
          · exact i2 x hx
        · have hh' : hitE e ch = false := by simp [hitE, k5, hh]
          rw [edgeA, hh'] at h
          obtain ⟨i1, i2⟩ := ih A (by simpa using h)
          rw [if_neg (by omega), ← i1]
          exact ⟨by simp, i2⟩
      · rw [List.filter_cons_of_neg (by simpa using hsrc)] at h
        rw [if_neg hsrc]
        obtain ⟨i1, i2⟩ := ih A h
        exact ⟨by simpa using i1, i2⟩
theorem ChkP.step (c : ChkP N R) (g : NetG N ss nr) {f : Nat} {ch : Int} (hc : ch = 97 ∨ ch = 98) : ∀ (xs A : List (Nat × Nat)), (∀ x ∈ xs, V x) → stepA N f ch xs = some A →
    enc A = stepC ((chrOf (N.ed.map encE)).map (trR (epsOf (N.ed.map encE)))) (enc xs) ch.toNat ∧ ∀ x ∈ A, V x
  | [], A, _, h => by
    simp [stepA] at h; subst h
    exact ⟨by simp [enc, stepC], by simp⟩
  | x :: xs, A, hv, h => by
    simp only [stepA] at h
    obtain ⟨l, h1, h2⟩ := Option.bind_eq_some_iff.1 h
    obtain ⟨r, h3, rfl⟩ := Option.map_eq_some_iff.1 h2
    obtain ⟨i1, i2⟩ := c.step g hc xs r (fun y hy => hv y (by simp [hy])) h3
    have hx := hv x (by simp)
    obtain ⟨j1, j2⟩ := c.edge g hc hx.1 hx.2.1 hx.2.2 N.ed l (fun e he => he) h1
    refine ⟨?_, fun y hy => (List.mem_append.1 hy).elim (j2 y) (i2 y)⟩
    have e : enc (l ++ r) = enc l ++ enc r := by simp [enc]
    rw [e, j1, i1, stepC, stepC, flatR_eq, flatR_eq]
    show _ = List.flatMap _ (enc1 x :: enc xs)
    rw [List.flatMap_cons, flatR_eq, chrOf_map]
    rfl
theorem ChkP.none (c : ChkP N R) {f a : Nat} {ch : Int} (h1 : ch ≠ 97) (h2 : ch ≠ 98) : ∀ (es : List LE), (∀ e ∈ es, e ∈ N.ed) → edgeA N f ch a es = some []
  | [], _ => rfl
  | e :: es, hm => by
    have hh : hitE e ch = false := by
      by_cases hk : e.kind = 1
      · simp [hitE, hk]
      · obtain ⟨k5, ka⟩ := c.kinds e (hm e (by simp)) hk
        simp only [hitE, k5, if_true]
        rcases ka with k | k <;> simp [k] <;> omega
    rw [edgeA, hh]
    simpa using c.none h1 h2 es (fun e' he => hm e' (by simp [he]))
theorem ChkP.none2 (c : ChkP N R) {f : Nat} {ch : Int} (h1 : ch ≠ 97) (h2 : ch ≠ 98) : ∀ xs : List (Nat × Nat), stepA N f ch xs = some []
  | [] => rfl
  | x :: xs => by rw [stepA, c.none h1 h2 (N.out x.1) (fun e he => (List.mem_filter.1 he).1), c.none2 h1 h2 xs]; rfl

theorem ChkP.met (c : ChkP N R) (g : NetG N ss nr) (hn : nr ≤ 2) {f : Nat} (hf : ∀ j, 1 ≤ j → j < N.st.length → ∃ L, N.cl f j = some L) {A : List (Nat × Nat)} (h : Met N f A) : (∀ x ∈ A, V x) ∧ enc (dd A) ∈ R := by
  induction h with
  | start A h1 =>
    have hd : dstsOf (epsOf (N.ed.map encE)) 0 = (N.out 0).map (·.dst) := by
      rw [dsts_out, List.filter_eq_self.2]
      intro e he; rw [g.out0] at he; obtain ⟨d, _, rfl⟩ := List.mem_map.1 he; rfl
    have hst := c.st
    have hr0 := c.r0
    rw [hd] at hst hr0
    obtain ⟨a, b⟩ := c.start g (N.out 0) 0 A (fun e he => by have := g.ok.dst 0 e he; omega) hst h1
    have hv : ∀ x ∈ A, V x := fun x hx => ⟨(b x hx).1, (b x hx).2, by have := (g.fineMet hf (.start A h1) x hx).2.2.2; omega⟩
    exact ⟨hv, by rw [dd_enc A hv, a]; exact hr0⟩
  | step A B ch h1 h2 ih =>
    have hv : ∀ x ∈ dd A, V x := fun x hx => ih.1 x (dd_mem hx)
    by_cases e1 : ch = 97
    · obtain ⟨a, b⟩ := c.step g (.inl e1) (dd A) B hv h2
      refine ⟨b, ?_⟩
      rw [dd_enc B b, a, e1]
      exact c.ra _ ih.2
    · by_cases e2 : ch = 98
      · obtain ⟨a, b⟩ := c.step g (.inr e2) (dd A) B hv h2
        refine ⟨b, ?_⟩
        rw [dd_enc B b, a, e2]
        exact c.rb _ ih.2
      · rw [c.none2 e1 e2] at h2
        cases h2
        exact ⟨by simp, c.rn⟩

/-- Of tiny rules that pass the check: their states are few, and no two sets have one hash. -/
theorem tinyHash {es : List Ex} (g : GoodL es) (hn : es.length ≤ 2) (h : chkT es = true) {f : Nat} (hf : ∀ j, 1 ≤ j → j < (compile es).1.st.length → ∃ L, (compile es).1.cl f j = some L) :
    (∀ A, Met (compile es).1 f A → ∀ x ∈ A, V x) ∧ ∀ A B, Met (compile es).1 f A → Met (compile es).1 f B → dfaN (dd A) = dfaN (dd B) → dd A = dd B := by
  unfold chkT at h
  rw [forceLL_eq, mapR_eq] at h
  obtain ⟨R, c⟩ := chkP h
  have G := netG g
  refine ⟨fun A hA => (c.met G hn hf hA).1, fun A B hA hB e => ?_⟩
  obtain ⟨a1, a2⟩ := c.met G hn hf hA
  obtain ⟨b1, b2⟩ := c.met G hn hf hB
  have va : ∀ x ∈ dd A, V x := fun x hx => a1 x (dd_mem hx)
  have vb : ∀ x ∈ dd B, V x := fun x hx => b1 x (dd_mem hx)
  exact enc_inj _ _ va vb (c.pr _ a2 _ b2 (by rw [dfaR_enc va, dfaR_enc vb]; exact e))

end Pl
end
section
namespace Pl

/-! ### all tiny rules -/
def ru (i : Nat) : Ex := if i < 8 then .mk 1 0 0 [tinyPart i] else .mk 1 0 0 [tinyPart ((i - 8) / 8), tinyPart ((i - 8) % 8)]
/-- The rules that cannot be nothing. -/
def codes : List Nat := [0, 1, 4, 5, 8, 9, 10, 11, 12, 13, 14, 15, 16, 17, 18, 19, 20, 21, 22, 23, 24, 25, 28, 29, 32, 33, 36, 37, 40, 41, 42, 43, 44, 45, 46, 47, 48, 49, 50, 51, 52, 53, 54, 55, 56, 57, 60, 61, 64, 65, 68, 69]
theorem codes_eq : codes = (List.range 72).filter fun i => !(leE (ru i)) := by decide +kernel
noncomputable def chk2 (l m : List Nat) : Bool := allR (fun i => allR (fun j => chkT [ru i, ru j]) m) l
noncomputable def chk1 (l : List Nat) : Bool := allR (fun i => chkT [ru i]) l
theorem chk1_all : chk1 codes = true := by decide +kernel
end Pl
end
