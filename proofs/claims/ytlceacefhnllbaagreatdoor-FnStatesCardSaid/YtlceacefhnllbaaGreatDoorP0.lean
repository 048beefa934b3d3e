/- A part of the proof of the statement on the law FnStates, which the last text proves: part P0. -/
set_option linter.all false
section
namespace Pl

/-- An expression, as data. -/
inductive Ex where
  | mk (op a b : Int) (subs : List Ex)

structure LS where
  kind : Nat
  rule : Nat
  arg : Nat
  deriving DecidableEq

structure LE where
  src : Nat
  dst : Nat
  kind : Nat
  a1 : Int
  a2 : Int
  deriving DecidableEq

structure Bd where
  st : List LS
  ed : List LE
  de : List Nat

def Bd.add (B : Bd) (r k : Nat) : Bd := { B with st := B.st ++ [⟨k, r, 0⟩] }
def Bd.eps (B : Bd) (f t : Nat) : Bd := { B with ed := B.ed ++ [⟨f, t, 1, 0, 0⟩] }
def Bd.chr (B : Bd) (f t : Nat) (a b : Int) : Bd := { B with ed := B.ed ++ [if a = b then ⟨f, t, 5, a, 0⟩ else ⟨f, t, 2, a, b⟩] }
def Bd.dec (B : Bd) (s : Nat) : Bd := { B with de := B.de ++ [s] }
def Bd.arg (B : Bd) (s e : Nat) : Bd := { B with st := B.st.modify s fun x => { x with arg := e } }

mutual
def mkE (r : Nat) : Ex → Bd → Bd × Nat × Nat
  | .mk op a b subs, B =>
    let n := B.st.length
    if op = 0 then (((B.add r 1).add r 1).chr n (n + 1) a b, n, n + 1)
    else if op = 1 then
      let p := mkRow r subs (B.add r 1) n
      ((p.1.add r 1).eps p.2 p.1.st.length, n, p.1.st.length)
    else if op = 2 then
      ((mkSubs r n (n + 1) subs (((B.add r 3).add r 8).arg n (n + 1))).dec n, n, n + 1)
    else if op = 5 then
      (((mkSubs r n (n + 1) subs (((B.add r 3).add r 8).arg n (n + 1))).eps n (n + 1)).dec n, n, n + 1)
    else if op = 3 then
      let B1 := (mkSubs r (n + 3) (n + 4) subs ((((((B.add r 12).add r 10).add r 9).add r 5).add r 8).arg (n + 3) (n + 4))).dec (n + 3)
      ((((((B1.eps (n + 1) (n + 3)).eps (n + 1) n).eps (n + 4) (n + 2)).eps (n + 2) (n + 1)).arg n (n + 2)).dec (n + 1), n + 1, n)
    else
      let B1 := (mkSubs r (n + 2) (n + 3) subs (((((B.add r 12).add r 11).add r 4).add r 8).arg (n + 2) (n + 3))).dec (n + 2)
      (((((B1.eps (n + 3) (n + 1)).eps (n + 1) (n + 2)).eps (n + 1) n).arg n (n + 1)).dec (n + 1), n + 2, n)
def mkRow (r : Nat) : List Ex → Bd → Nat → Bd × Nat
  | [], B, at_ => (B, at_)
  | e :: es, B, at_ =>
    let p := mkE r e B
    mkRow r es (p.1.eps at_ p.2.1) p.2.2
def mkSubs (r s t : Nat) : List Ex → Bd → Bd
  | [], B => B
  | e :: es, B =>
    let p := mkE r e B
    mkSubs r s t es ((p.1.eps s p.2.1).eps p.2.2 t)
end

/-- One rule. -/
def mkRule (i : Nat) (e : Ex) (B : Bd) : Bd :=
  let n := B.st.length
  let p := mkE i e ((B.add i 2).add i 7)
  ((p.1.eps 0 n).eps n p.2.1).eps p.2.2 (n + 1)

def mkRules : Nat → List Ex → Bd → List Nat → Bd × List Nat
  | _, [], B, ss => (B, ss)
  | i, e :: es, B, ss => mkRules (i + 1) es (mkRule i e B) (ss ++ [B.st.length])

def compile (es : List Ex) : Bd × List Nat := mkRules 0 es (((⟨[], [], []⟩ : Bd).add 0 6).dec 0) []

def Bd.out (N : Bd) (s : Nat) : List LE := N.ed.filter fun e => e.src == s
def Bd.kind (N : Bd) (s : Nat) : Nat := (N.st.getD s ⟨0, 0, 0⟩).kind
def Bd.leaf (N : Bd) (s : Nat) : Bool := N.kind s == 7 || (N.out s).any fun e => !(e.kind == 1)

/-- What the closure of a state adds, in order. -/
def Bd.cl (N : Bd) : Nat → Nat → Option (List Nat)
  | 0, _ => none
  | k + 1, s => if N.leaf s then some [s] else ((N.out s).map (·.dst)).foldr (fun t acc => (N.cl k t).bind fun l => acc.map (l ++ ·)) (some [])

def w32 (n : Nat) : Nat := n % 4294967296
def mU (h v : Nat) : Nat :=
  let k := w32 (w32 v * 3432918353)
  let k := Nat.lor (w32 (Nat.shiftLeft k 15)) (Nat.shiftRight k 17)
  let k := w32 (k * 461845907)
  let x := Nat.xor (w32 h) k
  let x := Nat.lor (w32 (Nat.shiftLeft x 13)) (Nat.shiftRight x 19)
  w32 (x * 5 + 3864292196)
def mF (h n : Nat) : Nat :=
  let x := Nat.xor (w32 h) (w32 (n * 4))
  let x := Nat.xor x (Nat.shiftRight x 16)
  let x := w32 (x * 2246822507)
  let x := Nat.xor x (Nat.shiftRight x 13)
  let x := w32 (x * 3266489909)
  Nat.xor x (Nat.shiftRight x 16)

def noneHash : Nat := mF (mU (mU (mU 0 18446744073709551615) 18446744073709551615) 0) 3
def lh (s alt : Nat) : Nat := mF (mU (mU (mU (mU (mU (mU 7 s) alt) 0) noneHash) 0) 61) 6

def dd (adds : List (Nat × Nat)) : List (Nat × Nat) :=
  adds.foldl (fun acc x => if acc.any (fun y => lh y.1 y.2 == lh x.1 x.2) then acc else acc ++ [x]) []

end Pl
end
section
namespace Pl

def epsE (f t : Nat) : LE := ⟨f, t, 1, 0, 0⟩
def chrE (f t : Nat) (a b : Int) : LE := if a = b then ⟨f, t, 5, a, 0⟩ else ⟨f, t, 2, a, b⟩
def outs (ed : List LE) (s : Nat) : List LE := ed.filter fun e => e.src == s

@[simp] theorem outs_nil (s : Nat) : outs [] s = [] := rfl
@[simp] theorem outs_append (a b : List LE) (s : Nat) : outs (a ++ b) s = outs a s ++ outs b s := by simp [outs]
@[simp] theorem outs_cons (x : LE) (b : List LE) (s : Nat) : outs (x :: b) s = if x.src = s then x :: outs b s else outs b s := by
  simp [outs, List.filter_cons]
theorem outs_none {ed : List LE} {s : Nat} (h : ∀ x ∈ ed, x.src ≠ s) : outs ed s = [] := by
  simp [outs, List.filter_eq_nil_iff]; exact h
@[simp] theorem epsE_src (f t : Nat) : (epsE f t).src = f := rfl
@[simp] theorem epsE_dst (f t : Nat) : (epsE f t).dst = t := rfl
@[simp] theorem epsE_kind (f t : Nat) : (epsE f t).kind = 1 := rfl
@[simp] theorem chrE_src (f t : Nat) (a b : Int) : (chrE f t a b).src = f := by unfold chrE; split <;> rfl
@[simp] theorem chrE_dst (f t : Nat) (a b : Int) : (chrE f t a b).dst = t := by unfold chrE; split <;> rfl

theorem outs_eps_ne {f t s : Nat} (h : f ≠ s) : outs [epsE f t] s = [] := outs_none (by simp; exact h)
@[simp] theorem outs_eps_self (f t : Nat) : outs [epsE f t] f = [epsE f t] := by simp [outs]
theorem outs_chr_ne {f t s : Nat} {a b : Int} (h : f ≠ s) : outs [chrE f t a b] s = [] := outs_none (by simp; exact h)
@[simp] theorem outs_chr_self (f t : Nat) (a b : Int) : outs [chrE f t a b] f = [chrE f t a b] := by simp [outs]

/-! ### the shape of a network -/

mutual
def FE (N : Bd) (r : Nat) : Ex → Nat → Nat → Nat → Nat → Prop
  | .mk op a b subs, lo, hi, f, t =>
    if op = 0 then f = lo ∧ t = lo + 1 ∧ hi = lo + 2 ∧ N.st[lo]? = some ⟨1, r, 0⟩ ∧ N.st[lo + 1]? = some ⟨1, r, 0⟩ ∧ N.out lo = [chrE lo (lo + 1) a b]
    else if op = 1 then f = lo ∧ hi = t + 1 ∧ N.st[lo]? = some ⟨1, r, 0⟩ ∧ N.st[t]? = some ⟨1, r, 0⟩ ∧ FRow N r subs (lo + 1) t lo
    else if op = 2 ∨ op = 5 then
      f = lo ∧ t = lo + 1 ∧ N.st[lo]? = some ⟨3, r, lo + 1⟩ ∧ N.st[lo + 1]? = some ⟨8, r, 0⟩ ∧
      ∃ fs, FSubs N r subs (lo + 2) hi (lo + 1) fs ∧ N.out lo = fs.map (epsE lo) ++ (if op = 5 then [epsE lo (lo + 1)] else [])
    else if op = 3 then
      f = lo + 1 ∧ t = lo ∧ N.st[lo]? = some ⟨12, r, lo + 2⟩ ∧ N.st[lo + 1]? = some ⟨10, r, 0⟩ ∧ N.st[lo + 2]? = some ⟨9, r, 0⟩ ∧
      N.st[lo + 3]? = some ⟨5, r, lo + 4⟩ ∧ N.st[lo + 4]? = some ⟨8, r, 0⟩ ∧
      (∃ fs, FSubs N r subs (lo + 5) hi (lo + 4) fs ∧ N.out (lo + 3) = fs.map (epsE (lo + 3))) ∧
      N.out (lo + 1) = [epsE (lo + 1) (lo + 3), epsE (lo + 1) lo] ∧ N.out (lo + 4) = [epsE (lo + 4) (lo + 2)] ∧ N.out (lo + 2) = [epsE (lo + 2) (lo + 1)]
    else
      f = lo + 2 ∧ t = lo ∧ N.st[lo]? = some ⟨12, r, lo + 1⟩ ∧ N.st[lo + 1]? = some ⟨11, r, 0⟩ ∧
      N.st[lo + 2]? = some ⟨4, r, lo + 3⟩ ∧ N.st[lo + 3]? = some ⟨8, r, 0⟩ ∧
      (∃ fs, FSubs N r subs (lo + 4) hi (lo + 3) fs ∧ N.out (lo + 2) = fs.map (epsE (lo + 2))) ∧
      N.out (lo + 3) = [epsE (lo + 3) (lo + 1)] ∧ N.out (lo + 1) = [epsE (lo + 1) (lo + 2), epsE (lo + 1) lo]
def FRow (N : Bd) (r : Nat) : List Ex → Nat → Nat → Nat → Prop
  | [], lo, hi, at_ => lo = hi ∧ N.out at_ = [epsE at_ hi]
  | e :: es, lo, hi, at_ => ∃ m f t, FE N r e lo m f t ∧ N.out at_ = [epsE at_ f] ∧ FRow N r es m hi t
def FSubs (N : Bd) (r : Nat) : List Ex → Nat → Nat → Nat → List Nat → Prop
  | [], lo, hi, _, fs => lo = hi ∧ fs = []
  | e :: es, lo, hi, en, fs => ∃ m f t fs', FE N r e lo m f t ∧ N.out t = [epsE t en] ∧ fs = f :: fs' ∧ FSubs N r es m hi en fs'
end

/-- What making a part adds. -/
def decK (k : Nat) : Prop := k = 3 ∨ k = 4 ∨ k = 5 ∨ k = 6 ∨ k = 10 ∨ k = 11

structure Adds (B B' : Bd) (S : List LS) (E : List LE) (D : List Nat) : Prop where
  st : B'.st = B.st ++ S
  ed : B'.ed = B.ed ++ E
  de : B'.de = B.de ++ D
  dst : ∀ x ∈ E, x.dst < B.st.length + S.length
  dec : ∀ d ∈ D, ∃ s, B.st.length ≤ d ∧ S[d - B.st.length]? = some s ∧ decK s.kind

def GoodE (r : Nat) (e : Ex) : Prop := ∀ B B' f t, mkE r e B = (B', f, t) → ∃ S E D, Adds B B' S E D ∧
  B.st.length ≤ f ∧ f < B.st.length + S.length ∧
  B.st.length ≤ t ∧ t < B.st.length + S.length ∧
  (∀ x ∈ E, B.st.length ≤ x.src ∧ x.src < B.st.length + S.length ∧ x.src ≠ t) ∧
  ∀ N : Bd, (∀ i, i < S.length → N.st[B.st.length + i]? = S[i]?) →
    (∀ i, B.st.length ≤ i → i < B.st.length + S.length → i ≠ t → N.out i = outs E i) →
    FE N r e B.st.length (B.st.length + S.length) f t

end Pl
end
section
namespace Pl

theorem modify_past {α : Type} (l s : List α) (k : Nat) (f : α → α) : (l ++ s).modify (l.length + k) f = l ++ s.modify k f := by
  induction l with
  | nil => simp
  | cons a l ih => simp [List.length_cons, Nat.succ_add, ih]

theorem Adds.refl (B : Bd) : Adds B B [] [] [] := ⟨by simp, by simp, by simp, by simp, by simp⟩

theorem Adds.len {B B' : Bd} {S E D} (h : Adds B B' S E D) : B'.st.length = B.st.length + S.length := by rw [h.st, List.length_append]

theorem Adds.trans {A B C : Bd} {S E D S' E' D'} (h : Adds A B S E D) (k : Adds B C S' E' D') : Adds A C (S ++ S') (E ++ E') (D ++ D') where
  st := by rw [k.st, h.st, List.append_assoc]
  ed := by rw [k.ed, h.ed, List.append_assoc]
  de := by rw [k.de, h.de, List.append_assoc]
  dst := by
    intro x hx
    have hl := h.len
    rcases List.mem_append.1 hx with hx | hx
    · have := h.dst x hx; simp; omega
    · have := k.dst x hx; simp; omega
  dec := by
    intro d hd
    have hl := h.len
    rcases List.mem_append.1 hd with hd | hd
    · obtain ⟨s, h1, h2, h3⟩ := h.dec d hd
      refine ⟨s, h1, ?_, h3⟩
      rw [List.getElem?_append_left (List.getElem?_eq_some_iff.1 h2).1]; exact h2
    · obtain ⟨s, h1, h2, h3⟩ := k.dec d hd
      refine ⟨s, by omega, ?_, h3⟩
      rw [List.getElem?_append_right (by omega)]
      rw [show d - A.st.length - S.length = d - B.st.length from by omega]; exact h2

/-- One edge more. -/
theorem Adds.edge {A B : Bd} {S E D} (h : Adds A B S E D) (x : LE) (hx : x.dst < A.st.length + S.length) : Adds A { B with ed := B.ed ++ [x] } S (E ++ [x]) D where
  st := h.st
  ed := by simp [h.ed]
  de := h.de
  dst := by
    intro y hy
    rcases List.mem_append.1 hy with hy | hy
    · exact h.dst y hy
    · simp at hy; subst hy; exact hx
  dec := h.dec

theorem Adds.decide {A B : Bd} {S E D} (h : Adds A B S E D) (d : Nat) (s : LS) (h1 : A.st.length ≤ d) (h2 : S[d - A.st.length]? = some s) (h3 : decK s.kind) : Adds A (B.dec d) S E (D ++ [d]) where
  st := h.st
  ed := h.ed
  de := by simp [Bd.dec, h.de]
  dst := h.dst
  dec := by
    intro y hy
    rcases List.mem_append.1 hy with hy | hy
    · exact h.dec y hy
    · simp at hy; subst hy; exact ⟨s, h1, h2, h3⟩

/-- The argument of a state that was added is set. -/
theorem Adds.arg {A B : Bd} {S E D} (h : Adds A B S E D) (k e : Nat) : Adds A (B.arg (A.st.length + k) e) (S.modify k fun x => { x with arg := e }) E D where
  st := by simp only [Bd.arg]; rw [h.st, modify_past]
  ed := h.ed
  de := h.de
  dst := by intro x hx; have := h.dst x hx; simpa using this
  dec := by
    intro d hd
    obtain ⟨s, h1, h2, h3⟩ := h.dec d hd
    refine ⟨if k = d - A.st.length then { s with arg := e } else s, h1, ?_, ?_⟩
    · rw [List.getElem?_modify, h2]; split <;> simp_all
    · split <;> exact h3

theorem Adds.add {A B : Bd} {S E D} (h : Adds A B S E D) (r k : Nat) : Adds A (B.add r k) (S ++ [⟨k, r, 0⟩]) E D where
  st := by simp [Bd.add, h.st]
  ed := h.ed
  de := h.de
  dst := by intro x hx; have := h.dst x hx; simp; omega
  dec := by
    intro d hd
    obtain ⟨s, h1, h2, h3⟩ := h.dec d hd
    exact ⟨s, h1, by rw [List.getElem?_append_left (List.getElem?_eq_some_iff.1 h2).1]; exact h2, h3⟩

theorem Bd.eps_eq (B : Bd) (f t : Nat) : B.eps f t = { B with ed := B.ed ++ [epsE f t] } := rfl
theorem Bd.chr_eq (B : Bd) (f t : Nat) (a b : Int) : B.chr f t a b = { B with ed := B.ed ++ [chrE f t a b] } := rfl

theorem Adds.eps {A B : Bd} {S E D} (h : Adds A B S E D) (f t : Nat) (ht : t < A.st.length + S.length) : Adds A (B.eps f t) S (E ++ [epsE f t]) D := h.edge _ ht
theorem Adds.chr {A B : Bd} {S E D} (h : Adds A B S E D) (f t : Nat) (a b : Int) (ht : t < A.st.length + S.length) : Adds A (B.chr f t a b) S (E ++ [chrE f t a b]) D := h.edge (chrE f t a b) (by simpa using ht)

def GoodRow (r : Nat) (es : List Ex) : Prop := ∀ B at_ B' fin, at_ < B.st.length → mkRow r es B at_ = (B', fin) → ∃ S E D, Adds B B' S E D ∧
  (fin = at_ ∧ S = [] ∨ B.st.length ≤ fin ∧ fin < B.st.length + S.length) ∧
  (∀ x ∈ E, (x.src = at_ ∨ B.st.length ≤ x.src ∧ x.src < B.st.length + S.length) ∧ x.src ≠ fin) ∧
  ∀ N : Bd, (∀ i, i < S.length → N.st[B.st.length + i]? = S[i]?) →
    (∀ i, (i = at_ ∨ B.st.length ≤ i ∧ i < B.st.length + S.length) → i ≠ fin → N.out i = outs E i) →
    N.out fin = [epsE fin (B.st.length + S.length)] →
    FRow N r es B.st.length (B.st.length + S.length) at_

def GoodSubs (r : Nat) (es : List Ex) : Prop := ∀ B s en, s < B.st.length → en < B.st.length → s ≠ en → ∃ S E D fs, Adds B (mkSubs r s en es B) S E D ∧
  (∀ x ∈ E, (x.src = s ∨ B.st.length ≤ x.src ∧ x.src < B.st.length + S.length)) ∧
  outs E s = fs.map (epsE s) ∧ (∀ f ∈ fs, f < B.st.length + S.length) ∧ fs.length = es.length ∧
  ∀ N : Bd, (∀ i, i < S.length → N.st[B.st.length + i]? = S[i]?) →
    (∀ i, B.st.length ≤ i → i < B.st.length + S.length → N.out i = outs E i) →
    FSubs N r es B.st.length (B.st.length + S.length) en fs

theorem goodRow_nil (r : Nat) : GoodRow r [] := by
  intro B at_ B' fin hat h
  simp only [mkRow, Prod.mk.injEq] at h
  obtain ⟨rfl, rfl⟩ := h
  refine ⟨[], [], [], Adds.refl B, Or.inl ⟨rfl, rfl⟩, by simp, ?_⟩
  intro N _ _ h
  simp only [FRow]
  exact ⟨by simp, by simpa using h⟩

theorem goodRow_cons (r : Nat) (e : Ex) (es : List Ex) (he : GoodE r e) (hes : GoodRow r es) : GoodRow r (e :: es) := by
  intro B at_ B' fin hat h
  simp only [mkRow] at h
  obtain ⟨B1, f, t, hp⟩ : ∃ B1 f t, mkE r e B = (B1, f, t) := ⟨_, _, _, rfl⟩
  rw [hp] at h
  simp only at h
  obtain ⟨S1, E1, D1, hA, hf1, hf2, ht1, ht2, hE, hN⟩ := he B B1 f t hp
  have hA2 := hA.eps at_ f (by omega)
  have hl2 : (B1.eps at_ f).st.length = B.st.length + S1.length := hA2.len
  obtain ⟨S2, E2, D2, kA, kfin, kE, kN⟩ := hes (B1.eps at_ f) t B' fin (by omega) h
  rw [hl2] at kfin kE kN
  refine ⟨S1 ++ S2, E1 ++ [epsE at_ f] ++ E2, D1 ++ D2, hA2.trans kA, Or.inr ?_, ?_, ?_⟩
  · simp only [List.length_append]; rcases kfin with ⟨h, h'⟩ | h <;> omega
  · intro x hx
    simp only [List.length_append]
    rcases List.mem_append.1 hx with hx | hx
    · rcases List.mem_append.1 hx with hx | hx
      · have := hE x hx
        rcases kfin with ⟨h, h'⟩ | h <;> omega
      · simp at hx; subst hx; simp only [epsE_src]
        exact ⟨Or.inl trivial, by rcases kfin with ⟨h, h'⟩ | h <;> omega⟩
    · have := kE x hx
      rcases kfin with ⟨h, h'⟩ | h <;> omega
  · intro N hst hout hfin
    simp only [List.length_append] at *
    simp only [FRow]
    refine ⟨B.st.length + S1.length, f, t, ?_, ?_, ?_⟩
    · refine hN N (fun i hi => ?_) (fun i h1 h2 h3 => ?_)
      · rw [hst i (by omega), List.getElem?_append_left hi]
      · rw [hout i (Or.inr ⟨h1, by omega⟩) (by rcases kfin with ⟨h, h'⟩ | h <;> omega)]
        simp only [outs_append]
        rw [outs_eps_ne (show at_ ≠ i by omega), outs_none (ed := E2) (fun x hx => by have := kE x hx; omega)]
        simp
    · rw [hout at_ (Or.inl rfl) (by rcases kfin with ⟨h, h'⟩ | h <;> omega)]
      simp only [outs_append, outs_eps_self]
      rw [outs_none (ed := E1) (fun x hx => by have := hE x hx; omega), outs_none (ed := E2) (fun x hx => by have := kE x hx; omega)]
      simp
    · have e1 : B.st.length + (S1.length + S2.length) = B.st.length + S1.length + S2.length := by omega
      rw [e1]
      refine kN N (fun i hi => ?_) (fun i h1 h2 => ?_) (by rw [hfin, e1])
      · rw [Nat.add_assoc, hst _ (by omega), List.getElem?_append_right (by omega)]
        congr 1; omega
      · rw [hout i (by omega) (by omega)]
        simp only [outs_append]
        rw [outs_eps_ne (show at_ ≠ i by omega), outs_none (ed := E1) (fun x hx => by have := hE x hx; omega)]
        simp

theorem goodSubs_nil (r : Nat) : GoodSubs r [] := by
  intro B s en _ _ _
  refine ⟨[], [], [], [], by simpa [mkSubs] using Adds.refl B, by simp, by simp, by simp, rfl, ?_⟩
  intro N _ _
  simp [FSubs]

theorem goodSubs_cons (r : Nat) (e : Ex) (es : List Ex) (he : GoodE r e) (hes : GoodSubs r es) : GoodSubs r (e :: es) := by
  intro B s en hs hen hne
  simp only [mkSubs]
  obtain ⟨B1, f, t, hp⟩ : ∃ B1 f t, mkE r e B = (B1, f, t) := ⟨_, _, _, rfl⟩
  rw [hp]
  simp only
  obtain ⟨S1, E1, D1, hA, hf1, hf2, ht1, ht2, hE, hN⟩ := he B B1 f t hp
  have hA2 := (hA.eps s f (by omega)).eps t en (by omega)
  have hl2 : ((B1.eps s f).eps t en).st.length = B.st.length + S1.length := hA2.len
  obtain ⟨S2, E2, D2, fs, kA, kE, kf, kfl, kl, kN⟩ := hes ((B1.eps s f).eps t en) s en (by omega) (by omega) hne
  rw [hl2] at kE kfl kN
  refine ⟨S1 ++ S2, E1 ++ [epsE s f] ++ [epsE t en] ++ E2, D1 ++ D2, f :: fs, hA2.trans kA, ?_, ?_, ?_, by simp [kl], ?_⟩
  · intro x hx
    simp only [List.length_append]
    simp only [List.mem_append, List.mem_singleton] at hx
    rcases hx with ((hx | hx) | hx) | hx
    · have := hE x hx; omega
    · subst hx; simp
    · subst hx; simp; omega
    · have := kE x hx; omega
  · simp only [outs_append, outs_eps_self]
    rw [outs_none (ed := E1) (fun x hx => by have := hE x hx; omega), outs_eps_ne (show t ≠ s by omega), kf]
    simp
  · intro y hy
    simp only [List.length_append]
    rcases List.mem_cons.1 hy with rfl | hy
    · omega
    · have := kfl y hy; omega
  · intro N hst hout
    simp only [List.length_append] at *
    simp only [FSubs]
    refine ⟨B.st.length + S1.length, f, t, fs, ?_, ?_, rfl, ?_⟩
    · refine hN N (fun i hi => ?_) (fun i h1 h2 h3 => ?_)
      · rw [hst i (by omega), List.getElem?_append_left hi]
      · rw [hout i h1 (by omega)]
        simp only [outs_append]
        rw [outs_eps_ne (show s ≠ i by omega), outs_eps_ne (show t ≠ i by omega), outs_none (ed := E2) (fun x hx => by have := kE x hx; omega)]
        simp
    · rw [hout t (by omega) (by omega)]
      simp only [outs_append, outs_eps_self]
      rw [outs_none (ed := E1) (fun x hx => by have := hE x hx; omega), outs_eps_ne (show s ≠ t by omega), outs_none (ed := E2) (fun x hx => by have := kE x hx; omega)]
      simp
    · have e1 : B.st.length + (S1.length + S2.length) = B.st.length + S1.length + S2.length := by omega
      rw [e1]
      refine kN N (fun i hi => ?_) (fun i h1 h2 => ?_)
      · rw [Nat.add_assoc, hst _ (by omega), List.getElem?_append_right (by omega)]
        congr 1; omega
      · rw [hout i (by omega) (by omega)]
        simp only [outs_append]
        rw [outs_eps_ne (show s ≠ i by omega), outs_eps_ne (show t ≠ i by omega), outs_none (ed := E1) (fun x hx => by have := hE x hx; omega)]
        simp

end Pl
end
section
namespace Pl

theorem Adds.add' {A B : Bd} {S E D} (h : Adds A B S E D) (r k : Nat) : Adds A (B.add r k) (S ++ [⟨k, r, 0⟩]) E D := h.add r k

theorem len_add (B : Bd) (r k : Nat) : (B.add r k).st.length = B.st.length + 1 := by simp [Bd.add]
theorem len_arg (B : Bd) (s e : Nat) : (B.arg s e).st.length = B.st.length := by simp [Bd.arg]

/-- The states of a block's start and end, and what is made within it. -/
theorem goodE_chars (r : Nat) (a b : Int) (subs : List Ex) : GoodE r (.mk 0 a b subs) := by
  intro B B' f t h
  simp only [mkE, if_true, Prod.mk.injEq] at h
  obtain ⟨rfl, rfl, rfl⟩ := h
  have hA := ((((Adds.refl B).add r 1).add r 1).chr B.st.length (B.st.length + 1) a b (by simp))
  refine ⟨_, _, _, hA, by omega, by simp, by omega, by simp, ?_, ?_⟩
  · intro x hx; simp at hx; subst hx; simp
  · intro N hst hout
    simp only [FE, if_true]
    refine ⟨trivial, trivial, by simp, by simpa using hst 0 (by simp), by simpa using hst 1 (by simp), ?_⟩
    rw [hout _ (Nat.le_refl _) (by simp) (by omega)]
    simp

theorem goodE_row (r : Nat) (a b : Int) (subs : List Ex) (hs : GoodRow r subs) : GoodE r (.mk 1 a b subs) := by
  intro B B' f t h
  obtain ⟨B1, fin, hp⟩ : ∃ B1 fin, mkRow r subs (B.add r 1) B.st.length = (B1, fin) := ⟨_, _, rfl⟩
  simp only [mkE, if_true, hp, Prod.mk.injEq, show (1 : Int) ≠ 0 by decide, if_false] at h
  obtain ⟨rfl, rfl, rfl⟩ := h
  have hl := len_add B r 1
  obtain ⟨S1, E1, D1, hA, hfin, hE, hN⟩ := hs (B.add r 1) B.st.length B1 fin (by omega) hp
  rw [hl] at hfin hE hN
  have h0 := ((Adds.refl B).add r 1).trans hA
  simp only [List.nil_append] at h0
  have hl1 : B1.st.length = B.st.length + 1 + S1.length := by rw [h0.len]; simp; omega
  have hA2 := (h0.add r 1).eps fin B1.st.length (by simp [hl1]; omega)
  refine ⟨_, _, _, hA2, by omega, by simp <;> omega, by omega, by simp [hl1]; omega, ?_, ?_⟩
  · intro x hx
    simp only [List.length_append, List.length_cons, List.length_nil]
    rcases List.mem_append.1 hx with hx | hx
    · have := hE x hx; omega
    · simp at hx; subst hx
      rcases hfin with ⟨h, h'⟩ | h <;> simp <;> omega
  · intro N hst hout
    simp only [List.length_append, List.length_cons, List.length_nil] at *
    simp only [FE, if_true, show (1 : Int) ≠ 0 by decide, if_false]
    refine ⟨trivial, by omega, by simpa using hst 0 (by omega), ?_, ?_⟩
    · have := hst (1 + S1.length) (by omega)
      rw [show B.st.length + (1 + S1.length) = B1.st.length by omega] at this
      rw [this, List.getElem?_append_right (by simp <;> omega)]
      simp [show 1 + S1.length - (S1.length + 1) = 0 by omega]
    · rw [hl1]
      refine hN N (fun i hi => ?_) (fun i h1 h2 => ?_) ?_
      · rw [Nat.add_assoc, hst _ (by omega), List.getElem?_append_left (by simp <;> omega), List.getElem?_append_right (by simp)]
        simp
      · rw [hout i (by omega) (by omega) (by omega)]
        simp only [outs_append]
        rw [outs_eps_ne (show fin ≠ i by omega)]; simp
      · rw [hout fin (by omega) (by omega) (by omega)]
        simp only [outs_append, outs_eps_self]
        rw [outs_none (ed := E1) (fun x hx => (hE x hx).2), hl1]; simp

theorem goodE_block (r : Nat) (op a b : Int) (hop : op = 2 ∨ op = 5) (subs : List Ex) (hs : GoodSubs r subs) : GoodE r (.mk op a b subs) := by
  intro B B' f t h
  have hB0 := ((((Adds.refl B).add r 3).add r 8).arg 0 (B.st.length + 1))
  simp only [List.nil_append, Nat.add_zero, List.cons_append, List.modify_zero_cons] at hB0
  have hl := hB0.len
  simp only [List.length_cons, List.length_nil] at hl
  obtain ⟨S1, E1, D1, fs, hA, hE, hf, hfl, _, hN⟩ := hs _ B.st.length (B.st.length + 1) (by rw [hl]; omega) (by rw [hl]; omega) (by omega)
  rw [hl] at hE hN hfl
  have h0 := hB0.trans hA
  simp only [List.nil_append, List.cons_append] at h0
  rcases hop with rfl | rfl
  · simp only [mkE, if_true, Prod.mk.injEq, show (2 : Int) ≠ 0 by decide, show (2 : Int) ≠ 1 by decide, if_false] at h
    obtain ⟨rfl, rfl, rfl⟩ := h
    have h1 := h0.decide B.st.length ⟨3, r, B.st.length + 1⟩ (Nat.le_refl _) (by simp) (Or.inl rfl)
    refine ⟨_, _, _, h1, by omega, by simp, by omega, by simp, ?_, ?_⟩
    · intro x hx
      simp only [List.length_cons]
      have := hE x hx; omega
    · intro N hst hout
      simp only [List.length_cons] at *
      simp only [FE, if_true, show (2 : Int) ≠ 0 by decide, show (2 : Int) ≠ 1 by decide, show (2 : Int) ≠ 5 by decide, if_false, true_or]
      refine ⟨trivial, trivial, by simpa using hst 0 (by omega), by simpa using hst 1 (by omega), fs, ?_, ?_⟩
      · rw [show B.st.length + (S1.length + 1 + 1) = B.st.length + 2 + S1.length by omega]
        refine hN N (fun i hi => ?_) (fun i h1 h2 => hout i (by omega) (by omega) (by omega))
        rw [show B.st.length + 2 + i = B.st.length + (i + 2) by omega, hst _ (by omega)]; simp
      · rw [hout _ (Nat.le_refl _) (by omega) (by omega), hf]; simp
  · simp only [mkE, if_true, Prod.mk.injEq, show (5 : Int) ≠ 0 by decide, show (5 : Int) ≠ 1 by decide, show (5 : Int) ≠ 2 by decide, if_false] at h
    obtain ⟨rfl, rfl, rfl⟩ := h
    have h1 := (h0.eps B.st.length (B.st.length + 1) (by simp)).decide B.st.length ⟨3, r, B.st.length + 1⟩ (Nat.le_refl _) (by simp) (Or.inl rfl)
    refine ⟨_, _, _, h1, by omega, by simp, by omega, by simp, ?_, ?_⟩
    · intro x hx
      simp only [List.length_cons]
      rcases List.mem_append.1 hx with hx | hx
      · have := hE x hx; omega
      · simp at hx; subst hx; simp
    · intro N hst hout
      simp only [List.length_cons] at *
      simp only [FE, if_true, show (5 : Int) ≠ 0 by decide, show (5 : Int) ≠ 1 by decide, if_false, or_true]
      refine ⟨trivial, trivial, by simpa using hst 0 (by omega), by simpa using hst 1 (by omega), fs, ?_, ?_⟩
      · rw [show B.st.length + (S1.length + 1 + 1) = B.st.length + 2 + S1.length by omega]
        refine hN N (fun i hi => ?_) (fun i h1 h2 => ?_)
        · rw [show B.st.length + 2 + i = B.st.length + (i + 2) by omega, hst _ (by omega)]; simp
        · rw [hout i (by omega) (by omega) (by omega)]
          simp only [outs_append]
          rw [outs_eps_ne (show B.st.length ≠ i by omega)]; simp
      · rw [hout _ (Nat.le_refl _) (by omega) (by omega)]
        simp only [outs_append, outs_eps_self]
        rw [hf]

theorem goodE_star (r : Nat) (a b : Int) (subs : List Ex) (hs : GoodSubs r subs) : GoodE r (.mk 3 a b subs) := by
  intro B B' f t h
  have hB0 := (((((((Adds.refl B).add r 12).add r 10).add r 9).add r 5).add r 8).arg 3 (B.st.length + 4))
  simp only [List.nil_append, List.cons_append, List.modify_zero_cons, List.modify_succ_cons] at hB0
  have hl := hB0.len
  simp only [List.length_cons, List.length_nil] at hl
  obtain ⟨S1, E1, D1, fs, hA, hE, hf, hfl, _, hN⟩ := hs _ (B.st.length + 3) (B.st.length + 4) (by rw [hl]; omega) (by rw [hl]; omega) (by omega)
  rw [hl] at hE hN hfl
  have h0 := hB0.trans hA
  simp only [List.nil_append, List.cons_append] at h0
  simp only [mkE, if_true, Prod.mk.injEq, show (3 : Int) ≠ 0 by decide, show (3 : Int) ≠ 1 by decide, show (3 : Int) ≠ 2 by decide, show (3 : Int) ≠ 5 by decide, if_false] at h
  obtain ⟨rfl, rfl, rfl⟩ := h
  have h1 := (h0.decide (B.st.length + 3) ⟨5, r, B.st.length + 4⟩ (by omega) (by simp) (by simp [decK])).eps (B.st.length + 1) (B.st.length + 3) (by simp <;> omega)
  have h2 := ((h1.eps (B.st.length + 1) B.st.length (by simp)).eps (B.st.length + 4) (B.st.length + 2) (by simp <;> omega)).eps (B.st.length + 2) (B.st.length + 1) (by simp <;> omega)
  have h3 := (h2.arg 0 (B.st.length + 2)).decide (B.st.length + 1) ⟨10, r, 0⟩ (by omega) (by simp) (by simp [decK])
  simp only [Nat.add_zero, List.modify_zero_cons] at h3
  refine ⟨_, _, _, h3, by omega, by simp <;> omega, by omega, by simp, ?_, ?_⟩
  · intro x hx
    simp only [List.length_cons]
    simp only [List.mem_append, List.mem_singleton] at hx
    rcases hx with (((hx | hx) | hx) | hx) | hx
    · have := hE x hx; omega
    all_goals (subst hx; simp <;> omega)
  · intro N hst hout
    simp only [List.length_cons] at *
    simp only [FE, if_true, show (3 : Int) ≠ 0 by decide, show (3 : Int) ≠ 1 by decide, show (3 : Int) ≠ 2 by decide, show (3 : Int) ≠ 5 by decide, if_false, or_self]
    refine ⟨trivial, trivial, by simpa using hst 0 (by omega), by simpa using hst 1 (by omega), by simpa using hst 2 (by omega), by simpa using hst 3 (by omega), by simpa using hst 4 (by omega), ⟨fs, ?_, ?_⟩, ?_, ?_, ?_⟩
    · rw [show B.st.length + (S1.length + 1 + 1 + 1 + 1 + 1) = B.st.length + 5 + S1.length by omega]
      refine hN N (fun i hi => ?_) (fun i h1 h2 => ?_)
      · rw [show B.st.length + 5 + i = B.st.length + (i + 5) by omega, hst _ (by omega)]; simp
      · rw [hout i (by omega) (by omega) (by omega)]
        simp only [outs_append]
        rw [outs_eps_ne (by omega), outs_eps_ne (by omega), outs_eps_ne (by omega), outs_eps_ne (by omega)]; simp
    · rw [hout _ (by omega) (by omega) (by omega)]
      simp only [outs_append]
      rw [hf, outs_eps_ne (by omega), outs_eps_ne (by omega), outs_eps_ne (by omega), outs_eps_ne (by omega)]; simp
    · rw [hout _ (by omega) (by omega) (by omega)]
      simp only [outs_append, outs_eps_self]
      rw [outs_none (ed := E1) (fun x hx => by have := hE x hx; omega), outs_eps_ne (show B.st.length + 4 ≠ _ by omega), outs_eps_ne (show B.st.length + 2 ≠ _ by omega)]; simp
    · rw [hout _ (by omega) (by omega) (by omega)]
      simp only [outs_append, outs_eps_self]
      rw [outs_none (ed := E1) (fun x hx => by have := hE x hx; omega), outs_eps_ne (show B.st.length + 1 ≠ _ by omega), outs_eps_ne (show B.st.length + 1 ≠ _ by omega), outs_eps_ne (show B.st.length + 2 ≠ _ by omega)]; simp
    · rw [hout _ (by omega) (by omega) (by omega)]
      simp only [outs_append, outs_eps_self]
      rw [outs_none (ed := E1) (fun x hx => by have := hE x hx; omega), outs_eps_ne (show B.st.length + 1 ≠ _ by omega), outs_eps_ne (show B.st.length + 1 ≠ _ by omega), outs_eps_ne (show B.st.length + 4 ≠ _ by omega)]; simp

theorem goodE_plus (r : Nat) (op a b : Int) (o0 : op ≠ 0) (o1 : op ≠ 1) (o2 : op ≠ 2) (o5 : op ≠ 5) (o3 : op ≠ 3) (subs : List Ex) (hs : GoodSubs r subs) : GoodE r (.mk op a b subs) := by
  intro B B' f t h
  have hB0 := ((((((Adds.refl B).add r 12).add r 11).add r 4).add r 8).arg 2 (B.st.length + 3))
  simp only [List.nil_append, List.cons_append, List.modify_zero_cons, List.modify_succ_cons] at hB0
  have hl := hB0.len
  simp only [List.length_cons, List.length_nil] at hl
  obtain ⟨S1, E1, D1, fs, hA, hE, hf, hfl, _, hN⟩ := hs _ (B.st.length + 2) (B.st.length + 3) (by rw [hl]; omega) (by rw [hl]; omega) (by omega)
  rw [hl] at hE hN hfl
  have h0 := hB0.trans hA
  simp only [List.nil_append, List.cons_append] at h0
  simp only [mkE, Prod.mk.injEq, o0, o1, o2, o5, o3, if_false] at h
  obtain ⟨rfl, rfl, rfl⟩ := h
  have h1 := (h0.decide (B.st.length + 2) ⟨4, r, B.st.length + 3⟩ (by omega) (by simp) (by simp [decK])).eps (B.st.length + 3) (B.st.length + 1) (by simp <;> omega)
  have h2 := (h1.eps (B.st.length + 1) (B.st.length + 2) (by simp <;> omega)).eps (B.st.length + 1) B.st.length (by simp)
  have h3 := (h2.arg 0 (B.st.length + 1)).decide (B.st.length + 1) ⟨11, r, 0⟩ (by omega) (by simp) (by simp [decK])
  simp only [Nat.add_zero, List.modify_zero_cons] at h3
  refine ⟨_, _, _, h3, by omega, by simp <;> omega, by omega, by simp, ?_, ?_⟩
  · intro x hx
    simp only [List.length_cons]
    simp only [List.mem_append, List.mem_singleton] at hx
    rcases hx with ((hx | hx) | hx) | hx
    · have := hE x hx; omega
    all_goals (subst hx; simp <;> omega)
  · intro N hst hout
    simp only [List.length_cons] at *
    simp only [FE, o0, o1, o2, o5, o3, if_false, or_self]
    refine ⟨trivial, trivial, by simpa using hst 0 (by omega), by simpa using hst 1 (by omega), by simpa using hst 2 (by omega), by simpa using hst 3 (by omega), ⟨fs, ?_, ?_⟩, ?_, ?_⟩
    · rw [show B.st.length + (S1.length + 1 + 1 + 1 + 1) = B.st.length + 4 + S1.length by omega]
      refine hN N (fun i hi => ?_) (fun i h1 h2 => ?_)
      · rw [show B.st.length + 4 + i = B.st.length + (i + 4) by omega, hst _ (by omega)]; simp
      · rw [hout i (by omega) (by omega) (by omega)]
        simp only [outs_append]
        rw [outs_eps_ne (by omega), outs_eps_ne (by omega), outs_eps_ne (by omega)]; simp
    · rw [hout _ (by omega) (by omega) (by omega)]
      simp only [outs_append]
      rw [hf, outs_eps_ne (by omega), outs_eps_ne (by omega), outs_eps_ne (by omega)]; simp
    · rw [hout _ (by omega) (by omega) (by omega)]
      simp only [outs_append, outs_eps_self]
      rw [outs_none (ed := E1) (fun x hx => by have := hE x hx; omega), outs_eps_ne (show B.st.length + 1 ≠ _ by omega), outs_eps_ne (show B.st.length + 1 ≠ _ by omega)]; simp
    · rw [hout _ (by omega) (by omega) (by omega)]
      simp only [outs_append, outs_eps_self]
      rw [outs_none (ed := E1) (fun x hx => by have := hE x hx; omega), outs_eps_ne (show B.st.length + 3 ≠ _ by omega)]; simp

mutual
theorem goodE (r : Nat) : ∀ e : Ex, GoodE r e
  | .mk op a b subs => by
    have hr := goodRow r subs
    have hs := goodSubs r subs
    by_cases o0 : op = 0
    · subst o0; exact goodE_chars r a b subs
    by_cases o1 : op = 1
    · subst o1; exact goodE_row r a b subs hr
    by_cases o2 : op = 2
    · exact goodE_block r op a b (Or.inl o2) subs hs
    by_cases o5 : op = 5
    · exact goodE_block r op a b (Or.inr o5) subs hs
    by_cases o3 : op = 3
    · subst o3; exact goodE_star r a b subs hs
    exact goodE_plus r op a b o0 o1 o2 o5 o3 subs hs
theorem goodRow (r : Nat) : ∀ es : List Ex, GoodRow r es
  | [] => goodRow_nil r
  | e :: es => goodRow_cons r e es (goodE r e) (goodRow r es)
theorem goodSubs (r : Nat) : ∀ es : List Ex, GoodSubs r es
  | [] => goodSubs_nil r
  | e :: es => goodSubs_cons r e es (goodE r e) (goodSubs r es)
end

end Pl
end
