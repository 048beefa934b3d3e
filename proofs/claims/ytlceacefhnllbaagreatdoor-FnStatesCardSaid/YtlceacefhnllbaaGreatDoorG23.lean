/- A part of the proof of the statement on the law FnStates, which the last text proves: part G23. -/
import Derived.Test.YtlceacefhnllbaaGreatDoorG22
set_option linter.all false
section
namespace Go.Proofs
open Go.RowKit
open Pl
def ruC (p : Nat × Nat) : List Value := [.int .i64 p.1, .int .i64 p.2]
def flR (l : List (Nat × Nat)) : List Value := l.flatMap ruC
def serS (s : LS) : List Int := [(s.kind : Int), (s.rule : Int)] ++ (if s.kind = 12 ∨ s.kind = 3 ∨ s.kind = 4 ∨ s.kind = 5 then [(s.arg : Int)] else [])
def serR (p : Nat × Nat) : List Int := [(p.1 : Int), (p.2 : Int)]
def serE (e : LE) : List Int := [(e.src : Int), (e.dst : Int), (e.kind : Int), e.a1, e.a2, 0]
def serN (l : List Nat) : List Int := l.map fun n : Nat => (n : Int)
/-- The numbers of a network. -/
def serL (N : Bd) (rs : List (Nat × Nat)) (mt : Int) : List Int :=
  (((((((((((([4, 0, mt, (N.st.length : Int)] ++ N.st.flatMap serS) ++ [0]) ++ [0]) ++ [(rs.length : Int)]) ++ rs.flatMap serR) ++ [1]) ++ [0]) ++ [0]) ++ [(N.ed.length : Int)]) ++ N.ed.flatMap serE) ++ [(N.de.length : Int)]) ++ serN N.de) ++ [0]
/-- The numbers put since a world. -/
def PB (base ob : Nat) (w0 : World) (v0 : Value) (w : World) (out : List Int) : Prop := ∃ v, SOb base w ob v out ∧ BFr I0 w0 ob #[v0] w #[v]
theorem PB.start {base ob : Nat} {w : World} {v : Value} {out : List Int} (h : SOb base w ob v out) : PB base ob w v w out := ⟨v, h, BFr.refl⟩
theorem PB.join {base ob : Nat} {w0 wr w1 w : World} {v0 v : Value} {out : List Int} (f : BFr I0 w0 ob #[v0] wr #[v]) (k : Kp (fun _ => True) wr w1) (h : PB base ob w1 v w out) : PB base ob w0 v0 w out := by
  obtain ⟨u, h1, h2⟩ := h
  exact ⟨u, h1, f.trans (BFr.pre k h2)⟩
theorem PB.alloc {base ob : Nat} {w0 w : World} {v0 : Value} {out : List Int} (h : PB base ob w0 v0 w out) (o : Obj) : PB base ob w0 v0 (w.alloc o) out := by
  obtain ⟨u, h1, h2⟩ := h
  exact ⟨u, h1.kept (Kp.alloc _ _), h2.trans ⟨⟨rfl, rfl⟩, by simp, fun j hj _ ho => ⟨(Kp.alloc (P := fun _ => True) w o).blk j hj trivial, ho⟩⟩⟩
theorem put_fresh {base ob : Nat} {w0 w : World} {v0 : Value} {out : List Int} (h : PB base ob w0 v0 w out) (hb : base ≤ w0.heap.size) (l : List Int) (hl : Rng l) (hm : out.length + l.length ≤ 1000000) :
    Calls Tryz.prog 45 #[.slice (some ⟨w.heap.size, 0, none⟩) l.length l.length, .pointer (some ⟨ob, 0, none⟩)] (w.alloc (.cells (flJ l).toArray 3)) fun e w' => e = .returned (.tuple #[]) ∧ PB base ob w0 v0 w' (out ++ l) := by
  obtain ⟨v, h1, h2⟩ := h
  have hne : w.heap.size ≠ ob := Nat.ne_of_gt h1.blk.lt
  have hno := RS.new h1 (Nat.le_refl w.heap.size)
  have hB := Blk.new w 3 (flJ l).toArray
  refine (put_any (RS.kept h1 (Kp.alloc _ _)) (Nat.le_trans (Nat.le_trans hb h2.size) (by simp)) (g := w.heap.size) (fun i u hu => by rw [hB.cell i]; simpa using hu) (Nat.le_refl _) hl hm ⟨hne, hno⟩).mono ?_
  rintro e w' ⟨he, v', h3, h4⟩
  exact ⟨he, v', h3, h2.trans (BFr.pre (Kp.alloc _ _) h4)⟩
theorem put_row {base ob : Nat} {w0 w : World} {v0 : Value} {out : List Int} (h : PB base ob w0 v0 w out) (hb : base ≤ w0.heap.size) {g c : Nat} (l : List Int) (hr : RowAt w g (flJ l)) (hc : l.length ≤ c) (hg : g ≠ ob ∧ g < base) (hl : Rng l) (hm : out.length + l.length ≤ 1000000) :
    Calls Tryz.prog 45 #[.slice (some ⟨g, 0, none⟩) l.length c, .pointer (some ⟨ob, 0, none⟩)] w fun e w' => e = .returned (.tuple #[]) ∧ PB base ob w0 v0 w' (out ++ l) := by
  obtain ⟨v, h1, h2⟩ := h
  refine (put_any h1 (Nat.le_trans hb h2.size) hr hc hl hm ⟨hg.1, RS.far h1 hg.2⟩).mono ?_
  rintro e w' ⟨he, v', h3, h4⟩
  exact ⟨he, v', h3, h2.trans h4⟩
set_option maxRecDepth 100000 in
set_option maxHeartbeats 1000000 in
theorem put_nil (ob : Nat) (w : World) : Calls Tryz.prog 45 #[.slice none 0 0, .pointer (some ⟨ob, 0, none⟩)] w fun e w' => e = .returned (.tuple #[]) ∧ w = w' := by
  go_enter Tryz.func45, Tryz.ntmps45
  go_wp2_with fail
  go_loopw [7] (fun t7 wr => t7 = .int .i64 0 ∧ wr = w) (fun _ _ => 0)
  case atStart => exact ⟨rfl, rfl⟩
  case round =>
    obtain ⟨rfl, rfl⟩ := hrel
    go_wp2_with fail
    go_end0
    exact ⟨rfl, rfl⟩
def SerRet (L : List Int) (w : World) (e : Ending) (w' : World) : Prop := ∃ g c, e = .returned (.slice (some ⟨g, 0, none⟩) L.length c) ∧ RowAt w' g (flI L) ∧ L.length ≤ c ∧ Kp (fun _ => True) w w'
/-- The grammar that is told in numbers. -/
structure GrM (w : World) (N : Bd) (rs : List (Nat × Nat)) (gS cS gR cR gM cM gE cE gD cD : Nat) : Prop where
  s : RowAt w gS (flS N.st) ∧ N.st.length ≤ cS
  r : RowAt w gR (flR rs) ∧ rs.length ≤ cR
  m : RowAt w gM (flJ [0]) ∧ 1 ≤ cM
  e : RowAt w gE (flE N.ed) ∧ N.ed.length ≤ cE
  d : RowAt w gD (flJ (serN N.de)) ∧ N.de.length ≤ cD ∧ gD < w.heap.size ∧ gM < w.heap.size
/-- All numbers are small. -/
structure Sml (N : Bd) (rs : List (Nat × Nat)) : Prop where
  s : ∀ x ∈ N.st, x.kind ≠ 0 ∧ x.kind < 2147483648 ∧ x.rule < 2147483648 ∧ x.arg < 2147483648
  r : ∀ x ∈ rs, x.1 < 2147483648 ∧ x.2 < 2147483648
  e : ∀ x ∈ N.ed, x.src < 2147483648 ∧ x.dst < 2147483648 ∧ x.kind < 2147483648 ∧ 0 ≤ x.a1 ∧ x.a1 < 2147483648 ∧ 0 ≤ x.a2 ∧ x.a2 < 2147483648
  d : ∀ x ∈ N.de, x < 2147483648
  t : tot N ≤ 1000
  n : rs.length ≤ 1000
theorem flatMap_take {α β : Type} (f : α → List β) (l : List α) (k : Nat) (x : α) (h : l[k]? = some x) : (l.take (k + 1)).flatMap f = (l.take k).flatMap f ++ f x := by
  rw [List.take_add_one, h]; simp
theorem flat_len {α : Type} (f : α → List Int) (c : Nat) (hf : ∀ x, (f x).length ≤ c) : ∀ l : List α, (l.flatMap f).length ≤ l.length * c
  | [] => by simp
  | x :: l => by
    have := flat_len f c hf l
    have := hf x
    simp only [List.flatMap_cons, List.length_append, List.length_cons, Nat.add_mul]
    omega
theorem flat_lenT {α : Type} (f : α → List Int) (c : Nat) (hf : ∀ x, (f x).length ≤ c) (l : List α) (k n : Nat) (hn : l.length ≤ n) : ((l.take k).flatMap f).length ≤ n * c := by
  have h1 := flat_len f c hf (l.take k)
  have h2 : (l.take k).length ≤ n := by rw [List.length_take]; omega
  exact Nat.le_trans h1 (Nat.mul_le_mul h2 (Nat.le_refl _))
theorem serS_len (x : LS) : (serS x).length ≤ 3 := by unfold serS; split <;> simp
theorem flR_at : ∀ (l : List (Nat × Nat)) (s : Nat) (x : Nat × Nat), l[s]? = some x → ∀ i, i < 2 → (flR l)[s * 2 + i]? = (ruC x)[i]?
  | [], _, _, h, _, _ => by simp at h
  | y :: l, 0, x, h, i, hi => by
    simp at h; subst h
    unfold flR
    rw [List.flatMap_cons, List.getElem?_append_left (by simp [ruC]; omega)]
    simp [ruC]
  | y :: l, s + 1, x, h, i, hi => by
    have := flR_at l s x (by simpa using h) i hi
    unfold flR at this ⊢
    have hl : (ruC y).length = 2 := rfl
    rw [List.flatMap_cons, List.getElem?_append_right (by rw [hl]; omega), hl, ← this]
    congr 1; omega

set_option maxRecDepth 100000 in
set_option maxHeartbeats 2000000 in
theorem ser_any {w : World} {N : Bd} {rs : List (Nat × Nat)} {mt : Nat} {gS cS gR cR gM cM gE cE gD cD : Nat} (hm : GrM w N rs gS cS gR cR gM cM gE cE gD cD) (sm : Sml N rs) (hmt : mt < 2147483648) :
    Calls Tryz.prog 31 #[.agg #[.bool true, .int .i64 mt, .slice (some ⟨gS, 0, none⟩) N.st.length cS, .slice none 0 0, .slice none 0 0, .slice (some ⟨gR, 0, none⟩) rs.length cR, .slice (some ⟨gM, 0, none⟩) 1 cM, .slice none 0 0, .slice (some ⟨gE, 0, none⟩) N.ed.length cE, .slice (some ⟨gD, 0, none⟩) N.de.length cD, .slice none 0 0]] w fun e w' => SerRet (serL N rs mt) w e w' := by
  have HM := Lib.hid hm
  have SM := Lib.hid sm
  have htS : N.st.length ≤ 1000 := by have := sm.t; unfold tot at this; omega
  have htE : N.ed.length ≤ 1000 := by have := sm.t; unfold tot at this; omega
  have htD : N.de.length ≤ 1000 := by have := sm.t; unfold tot at this; omega
  have htR := sm.n
  clear hm sm
  have hA : Kp (fun _ => True) w ((w.alloc (.cells #[.bool true, .int .i64 mt, .slice (some ⟨gS, 0, none⟩) N.st.length cS, .slice none 0 0, .slice none 0 0, .slice (some ⟨gR, 0, none⟩) rs.length cR, .slice (some ⟨gM, 0, none⟩) 1 cM, .slice none 0 0, .slice (some ⟨gE, 0, none⟩) N.ed.length cE, .slice (some ⟨gD, 0, none⟩) N.de.length cD, .slice none 0 0] 95)).alloc (.cells #[.slice none 0 0] 101)) := (Kp.alloc _ _).trans (Kp.alloc _ _)
  have bX : Blk ((w.alloc (.cells #[.bool true, .int .i64 mt, .slice (some ⟨gS, 0, none⟩) N.st.length cS, .slice none 0 0, .slice none 0 0, .slice (some ⟨gR, 0, none⟩) rs.length cR, .slice (some ⟨gM, 0, none⟩) 1 cM, .slice none 0 0, .slice (some ⟨gE, 0, none⟩) N.ed.length cE, .slice (some ⟨gD, 0, none⟩) N.de.length cD, .slice none 0 0] 95)).alloc (.cells #[.slice none 0 0] 101)) w.heap.size 95 #[.bool true, .int .i64 mt, .slice (some ⟨gS, 0, none⟩) N.st.length cS, .slice none 0 0, .slice none 0 0, .slice (some ⟨gR, 0, none⟩) rs.length cR, .slice (some ⟨gM, 0, none⟩) 1 cM, .slice none 0 0, .slice (some ⟨gE, 0, none⟩) N.ed.length cE, .slice (some ⟨gD, 0, none⟩) N.de.length cD, .slice none 0 0] := Blk.kept (Blk.new w 95 _) (Below.heap_alloc _ _ _ (by simp))
  have bO : Blk ((w.alloc (.cells #[.bool true, .int .i64 mt, .slice (some ⟨gS, 0, none⟩) N.st.length cS, .slice none 0 0, .slice none 0 0, .slice (some ⟨gR, 0, none⟩) rs.length cR, .slice (some ⟨gM, 0, none⟩) 1 cM, .slice none 0 0, .slice (some ⟨gE, 0, none⟩) N.ed.length cE, .slice (some ⟨gD, 0, none⟩) N.de.length cD, .slice none 0 0] 95)).alloc (.cells #[.slice none 0 0] 101)) (w.heap.size + 1) 101 #[.slice none 0 0] := heap_new2 w _ _
  go_enter Tryz.func31, Tryz.ntmps31
  go_upto_region 6 with fail
  obtain ⟨xb, hxb⟩ : ∃ xb, xb = w.heap.size := ⟨_, rfl⟩
  obtain ⟨ob, hob⟩ : ∃ ob, ob = w.heap.size + 1 := ⟨_, rfl⟩
  rw [← hob] at bO ⊢
  rw [← hxb] at bX ⊢
  generalize (w.alloc (.cells #[.bool true, .int .i64 mt, .slice (some ⟨gS, 0, none⟩) N.st.length cS, .slice none 0 0, .slice none 0 0, .slice (some ⟨gR, 0, none⟩) rs.length cR, .slice (some ⟨gM, 0, none⟩) 1 cM, .slice none 0 0, .slice (some ⟨gE, 0, none⟩) N.ed.length cE, .slice (some ⟨gD, 0, none⟩) N.de.length cD, .slice none 0 0] 95)).alloc (.cells #[.slice none 0 0] 101) = wA at hA bX bO ⊢
  obtain ⟨base, hbase⟩ : ∃ base, base = wA.heap.size := ⟨_, rfl⟩
  have so0 : SOb base wA ob (.slice none 0 0) [] := ⟨bO, fun i hi => by cases hi; exact ⟨_, rfl, ⟨rfl, .inl ⟨rfl, rfl⟩⟩⟩, fun i i' v v' j hi hi' hne => by cases hi; cases hi'; exact absurd rfl hne, by
    rintro ⟨i, v, hi, h1, h2⟩
    cases hi
    have : v = .slice none 0 0 := by simpa using h1.symm
    subst this; simp [Value.ownBlock] at h2⟩
  have lxb : xb < wA.heap.size := bX.lt
  have lob : ob < wA.heap.size := bO.lt
  have nxo : xb ≠ ob := by omega
  have nO : ∀ j, ¬ Own I0 #[.slice none 0 0] j := by
    rintro j ⟨i, v, hi, h1, h2⟩
    cases hi
    have : v = .slice none 0 0 := by simpa using h1.symm
    subst this; simp [Value.ownBlock] at h2
  have XB : Hid (∀ W out, PB base ob wA (.slice none 0 0) W out → W.cell? ⟨xb, 0, none⟩ = some (.bool true) ∧ W.cell? ⟨xb, 1, none⟩ = some (.int .i64 mt) ∧ W.cell? ⟨xb, 2, none⟩ = some (.slice (some ⟨gS, 0, none⟩) N.st.length cS) ∧ W.cell? ⟨xb, 3, none⟩ = some (.slice none 0 0) ∧ W.cell? ⟨xb, 4, none⟩ = some (.slice none 0 0) ∧ W.cell? ⟨xb, 5, none⟩ = some (.slice (some ⟨gR, 0, none⟩) rs.length cR) ∧ W.cell? ⟨xb, 6, none⟩ = some (.slice (some ⟨gM, 0, none⟩) 1 cM) ∧ W.cell? ⟨xb, 7, none⟩ = some (.slice none 0 0) ∧ W.cell? ⟨xb, 8, none⟩ = some (.slice (some ⟨gE, 0, none⟩) N.ed.length cE) ∧ W.cell? ⟨xb, 9, none⟩ = some (.slice (some ⟨gD, 0, none⟩) N.de.length cD) ∧ W.cell? ⟨xb, 10, none⟩ = some (.slice none 0 0)) := Lib.hid (fun W out h => by
    obtain ⟨v, h1, h2⟩ := h
    have b := (bX.kept (h2.far xb lxb nxo (nO _)).1).cell
    exact ⟨b 0, b 1, b 2, b 3, b 4, b 5, b 6, b 7, b 8, b 9, b 10⟩)
  have KW : Hid (∀ W out, PB base ob wA (.slice none 0 0) W out → Kp (fun _ => True) w W) := Lib.hid (fun W out h => by
    obtain ⟨v, h1, h2⟩ := h
    refine ⟨SO.trans (hA.so) (h2.so), Nat.le_trans hA.size h2.size, fun j hj _ => ?_⟩
    exact (h2.far j (Nat.lt_of_lt_of_le hj hA.size) (by omega) (nO _)).1.trans (hA.blk j hj trivial))
  have P0 := Lib.hid (PB.start so0)
  have HB : Hid (base ≤ wA.heap.size) := Lib.hid (by omega)
  have HWA : Hid (w.heap.size ≤ base) := Lib.hid (by have := hA.size; omega)
  have HOB : Hid (ob = w.heap.size + 1) := Lib.hid hob
  have ND : Hid (gD ≠ ob ∧ gD < base) := Lib.hid (by have := HM.out.d.2.2.1; have := HWA.out; omega)
  have NM : Hid (gM ≠ ob ∧ gM < base) := Lib.hid (by have := HM.out.d.2.2.2; have := HWA.out; omega)
  obtain ⟨x0, x1, x2, x3, x4, x5, x6, x7, x8, x9, x10⟩ := XB.out _ _ P0.out
  clear hA bX bO so0 nO hbase hob hxb
  go_upto_region 7 with (first | (go_at_call 45; refine (put_fresh P0.out HB.out [4, 0, (mt : Int), (N.st.length : Int)] (by intro y hy; simp at hy; omega) (by simp)).mono ?_; rintro e w1 ⟨rfl, pq⟩; clear x0 x1 x2 x3 x4 x5 x6 x7 x8 x9 x10; obtain ⟨x0, x1, x2, x3, x4, x5, x6, x7, x8, x9, x10⟩ := XB.out _ _ pq; have P1 := Lib.hid pq; clear pq))
  rw [List.nil_append] at P1
  obtain ⟨o1, ho1⟩ : ∃ o1, o1 = ([4, 0, (mt : Int), (N.st.length : Int)] : List Int) := ⟨_, rfl⟩
  have lo1 : o1.length ≤ 4 := by rw [ho1]; simp
  rw [← ho1] at P1
  have Ho1 := Lib.hid ho1
  clear ho1
  go_wp2_with fail
  clear x0 x1 x2 x3 x4 x5 x6 x7 x8 x9 x10
  go_loopw [34] (fun t34 wr => ∃ k : Nat, t34 = .int .i64 k ∧ k ≤ N.st.length ∧ PB base ob wA (.slice none 0 0) wr (o1 ++ (N.st.take k).flatMap serS)) (fun t34 _ => N.st.length - (intOf t34).toNat)
  case atStart => exact ⟨0, rfl, Nat.zero_le _, by simpa using P1.out⟩
  case round =>
    obtain ⟨k, rfl, hk, hp⟩ := hrel
    have hlk := flat_lenT serS 3 serS_len N.st k 1000 htS
    by_cases hkn : k < N.st.length
    · skip
      have hkn' : (k : Int) < (N.st.length : Int) := by omega
      obtain ⟨y, hx⟩ : ∃ y, N.st[k]? = some y := ⟨N.st[k]'hkn, by simp⟩
      have hra := HM.out.s.1.up (KW.out _ _ hp)
      have hcap := HM.out.s.2
      have e0 : wr.cell? ⟨gS, k * 3, none⟩ = some (.int .i64 y.kind) := hra (k * 3 + 0) _ (by rw [flS_at _ _ _ hx 0 (by omega)]; rfl)
      have e1 : wr.cell? ⟨gS, k * 3 + 1, none⟩ = some (.int .i64 y.rule) := hra (k * 3 + 1) _ (by rw [flS_at _ _ _ hx 1 (by omega)]; rfl)
      have e2 : wr.cell? ⟨gS, k * 3 + 2, none⟩ = some (.int .i64 y.arg) := hra (k * 3 + 2) _ (by rw [flS_at _ _ _ hx 2 (by omega)]; rfl)
      have hcc : (k : Int) ≤ (cS : Int) := by omega
      have HX := Lib.hid hx
      obtain ⟨oo, hoo⟩ : ∃ oo, oo = o1 ++ (N.st.take k).flatMap serS := ⟨_, rfl⟩
      have loo : oo.length ≤ 20000 := by rw [hoo, List.length_append]; omega
      rw [← hoo] at hp
      have HOO := Lib.hid hoo
      clear hoo
      have hy0 := SM.out.s y (List.mem_of_getElem? hx)
      obtain ⟨v, hv1, hv2⟩ := hp
      have HV1 := Lib.hid hv1
      have HV2 := Lib.hid hv2
      have sE := PB.start (RS.kept hv1 (Kp.alloc wr (.cells #[.int .i64 y.kind, .int .i64 y.rule, .int .i64 y.arg] 162)))
      have bE := Blk.new wr 162 #[.int .i64 y.kind, .int .i64 y.rule, .int .i64 y.arg]
      have nOE := RS.new hv1 (Nat.le_refl wr.heap.size)
      have nob : wr.heap.size ≠ ob := Nat.ne_of_gt hv1.blk.lt
      have hbE : base ≤ (wr.alloc (.cells #[.int .i64 y.kind, .int .i64 y.rule, .int .i64 y.arg] 162)).heap.size := Nat.le_trans HB.out (Nat.le_trans hv2.size (by simp))
      clear hra hx hcap hv1 hv2
      go_upto_region 10 with fail
      obtain ⟨eb, heb⟩ : ∃ eb, eb = wr.heap.size := ⟨_, rfl⟩
      have kE : Kp (fun _ => True) wr (wr.alloc (.cells #[.int .i64 y.kind, .int .i64 y.rule, .int .i64 y.arg] 162)) := Kp.alloc _ _
      rw [← heb] at bE nOE nob ⊢
      generalize wr.alloc (.cells #[.int .i64 y.kind, .int .i64 y.rule, .int .i64 y.arg] 162) = wE at bE sE hbE kE ⊢
      have EB : Hid (∀ W out, PB base ob wE v W out → W.cell? ⟨eb, 0, none⟩ = some (.int .i64 y.kind) ∧ W.cell? ⟨eb, 1, none⟩ = some (.int .i64 y.rule) ∧ W.cell? ⟨eb, 2, none⟩ = some (.int .i64 y.arg)) := Lib.hid (fun W out h => by
        obtain ⟨u, h1, h2⟩ := h
        have b := (bE.kept (h2.far eb bE.lt nob nOE).1).cell
        exact ⟨b 0, b 1, b 2⟩)
      have S0 := Lib.hid sE
      have KE := Lib.hid kE
      have HBE : Hid (base ≤ wE.heap.size) := Lib.hid hbE
      have XE : Hid (∀ W out, PB base ob wE v W out → W.cell? ⟨xb, 0, none⟩ = some (.bool true)) := Lib.hid (fun W out h => (XB.out W out (PB.join HV2.out KE.out h)).1)
      have hx0 := XE.out _ _ S0.out
      obtain ⟨b0, b1, b2⟩ := EB.out _ _ S0.out
      clear bE sE kE heb nOE nob hbE e0 e1 e2
      obtain ⟨hk0, hkb, hrb, hab⟩ := hy0
      have hk0' : ¬ (y.kind : Int) = 0 := by omega
      go_upto_region 14 with (first | (go_at_call 45; refine (put_fresh S1.out HBE.out [(y.rule : Int)] (by intro y hy; simp at hy; omega) (by simp; omega)).mono ?_; rintro e w3 ⟨rfl, pq⟩; clear hx0 b0 b1 b2; obtain ⟨b0, b1, b2⟩ := EB.out _ _ pq; have hx0 := XE.out _ _ pq; have S2 := Lib.hid pq; clear pq) | (go_at_call 45; refine (put_fresh S0.out HBE.out [(y.kind : Int)] (by intro y hy; simp at hy; omega) (by simp; omega)).mono ?_; rintro e w2 ⟨rfl, pq⟩; clear hx0 b0 b1 b2; obtain ⟨b0, b1, b2⟩ := EB.out _ _ pq; have hx0 := XE.out _ _ pq; have S1 := Lib.hid pq; clear pq))
      by_cases q12 : y.kind = 12
      · have q12' : (y.kind : Int) = 12 := by omega
        go_wp2_with (first | (go_at_call 45; refine (put_fresh S2.out HBE.out [(y.arg : Int)] (by intro y hy; simp at hy; omega) (by simp; omega)).mono ?_; rintro e w4 ⟨rfl, pq⟩; clear hx0 b0 b1 b2; obtain ⟨b0, b1, b2⟩ := EB.out _ _ pq; have hx0 := XE.out _ _ pq; have S3 := Lib.hid pq; clear pq))
        exact ⟨⟨k + 1, by simp, by omega, by rw [flatMap_take _ _ _ _ HX.out, ← List.append_assoc, ← HOO.out]; have := PB.join HV2.out KE.out S3.out; simpa [serS, q12] using this⟩, by simp [intOf]; omega⟩
      have q12' : ¬ (y.kind : Int) = 12 := by omega
      by_cases q3 : y.kind = 3
      · have q3' : (y.kind : Int) = 3 := by omega
        go_wp2_with (first | (go_at_call 45; refine (put_fresh S2.out HBE.out [(y.arg : Int)] (by intro y hy; simp at hy; omega) (by simp; omega)).mono ?_; rintro e w4 ⟨rfl, pq⟩; clear hx0 b0 b1 b2; obtain ⟨b0, b1, b2⟩ := EB.out _ _ pq; have hx0 := XE.out _ _ pq; have S3 := Lib.hid pq; clear pq))
        exact ⟨⟨k + 1, by simp, by omega, by rw [flatMap_take _ _ _ _ HX.out, ← List.append_assoc, ← HOO.out]; have := PB.join HV2.out KE.out S3.out; simpa [serS, q3] using this⟩, by simp [intOf]; omega⟩
      have q3' : ¬ (y.kind : Int) = 3 := by omega
      by_cases q4 : y.kind = 4
      · have q4' : (y.kind : Int) = 4 := by omega
        go_wp2_with (first | (go_at_call 45; refine (put_fresh S2.out HBE.out [(y.arg : Int)] (by intro y hy; simp at hy; omega) (by simp; omega)).mono ?_; rintro e w4 ⟨rfl, pq⟩; clear hx0 b0 b1 b2; obtain ⟨b0, b1, b2⟩ := EB.out _ _ pq; have hx0 := XE.out _ _ pq; have S3 := Lib.hid pq; clear pq))
        exact ⟨⟨k + 1, by simp, by omega, by rw [flatMap_take _ _ _ _ HX.out, ← List.append_assoc, ← HOO.out]; have := PB.join HV2.out KE.out S3.out; simpa [serS, q4] using this⟩, by simp [intOf]; omega⟩
      have q4' : ¬ (y.kind : Int) = 4 := by omega
      by_cases q5 : y.kind = 5
      · have q5' : (y.kind : Int) = 5 := by omega
        go_wp2_with (first | (go_at_call 45; refine (put_fresh S2.out HBE.out [(y.arg : Int)] (by intro y hy; simp at hy; omega) (by simp; omega)).mono ?_; rintro e w4 ⟨rfl, pq⟩; clear hx0 b0 b1 b2; obtain ⟨b0, b1, b2⟩ := EB.out _ _ pq; have hx0 := XE.out _ _ pq; have S3 := Lib.hid pq; clear pq))
        exact ⟨⟨k + 1, by simp, by omega, by rw [flatMap_take _ _ _ _ HX.out, ← List.append_assoc, ← HOO.out]; have := PB.join HV2.out KE.out S3.out; simpa [serS, q5] using this⟩, by simp [intOf]; omega⟩
      have q5' : ¬ (y.kind : Int) = 5 := by omega
      go_wp2_with fail
      exact ⟨⟨k + 1, by simp, by omega, by rw [flatMap_take _ _ _ _ HX.out, ← List.append_assoc, ← HOO.out]; have := PB.join HV2.out KE.out S2.out; simpa [serS, q12, q3, q4, q5] using this⟩, by simp [intOf]; omega⟩
    · have hkn' : ¬ (k : Int) < (N.st.length : Int) := by omega
      have hke : k = N.st.length := by omega
      subst hke
      rw [List.take_of_length_le (Nat.le_refl _)] at hp hlk
      have P2 := Lib.hid hp
      obtain ⟨o2, ho2⟩ : ∃ o2, o2 = o1 ++ N.st.flatMap serS := ⟨_, rfl⟩
      have lo2 : o2.length ≤ 3100 := by rw [ho2]; rw [List.length_append]; omega
      rw [← ho2] at P2
      have Ho2 := Lib.hid ho2
      clear ho2
      obtain ⟨x0, x1, x2, x3, x4, x5, x6, x7, x8, x9, x10⟩ := XB.out _ _ P2.out
      clear hp
      go_upto_region 21 with (first | (go_at_call 45; refine (put_fresh P2.out HB.out [0] (by intro y hy; simp at hy; omega) (by simp; omega)).mono ?_; rintro e w3 ⟨rfl, pq⟩; clear x0 x1 x2 x3 x4 x5 x6 x7 x8 x9 x10; obtain ⟨x0, x1, x2, x3, x4, x5, x6, x7, x8, x9, x10⟩ := XB.out _ _ pq; have P3 := Lib.hid pq; clear pq))
      go_upto_region 22 with (first | (go_at_call 45; refine (put_nil _ _).mono ?_; rintro e wx ⟨rfl, rfl⟩))
      go_upto_region 23 with (first | (go_at_call 45; refine (put_fresh P3.out HB.out [0] (by intro y hy; simp at hy; omega) (by simp; omega)).mono ?_; rintro e w4 ⟨rfl, pq⟩; clear x0 x1 x2 x3 x4 x5 x6 x7 x8 x9 x10; obtain ⟨x0, x1, x2, x3, x4, x5, x6, x7, x8, x9, x10⟩ := XB.out _ _ pq; have P4 := Lib.hid pq; clear pq))
      go_upto_region 24 with (first | (go_at_call 45; refine (put_nil _ _).mono ?_; rintro e wx ⟨rfl, rfl⟩))
      go_upto_region 25 with (first | (go_at_call 45; refine (put_fresh P4.out HB.out [(rs.length : Int)] (by intro y hy; simp at hy; omega) (by simp; omega)).mono ?_; rintro e w5 ⟨rfl, pq⟩; clear x0 x1 x2 x3 x4 x5 x6 x7 x8 x9 x10; obtain ⟨x0, x1, x2, x3, x4, x5, x6, x7, x8, x9, x10⟩ := XB.out _ _ pq; have P5 := Lib.hid pq; clear pq))
      obtain ⟨o3, ho3⟩ : ∃ o3, o3 = o2 ++ [0] ++ [0] ++ [(rs.length : Int)] := ⟨_, rfl⟩
      have lo3 : o3.length ≤ 3200 := by rw [ho3]; simp; omega
      rw [← ho3] at P5
      have Ho3 := Lib.hid ho3
      clear ho3
      go_wp2_with fail
      clear x0 x1 x2 x3 x4 x5 x6 x7 x8 x9 x10
      go_loopw [93] (fun t93 wr => ∃ k : Nat, t93 = .int .i64 k ∧ k ≤ rs.length ∧ PB base ob wA (.slice none 0 0) wr (o3 ++ (rs.take k).flatMap serR)) (fun t93 _ => rs.length - (intOf t93).toNat)
      case atStart => exact ⟨0, rfl, Nat.zero_le _, by simpa using P5.out⟩
      case round =>
        obtain ⟨k, rfl, hk, hp⟩ := hrel
        have hlk2 := flat_lenT serR 2 (fun x => by simp [serR]) rs k 1000 htR
        by_cases hkn : k < rs.length
        · skip
          have hkn' : (k : Int) < (rs.length : Int) := by omega
          obtain ⟨y, hx⟩ : ∃ y, rs[k]? = some y := ⟨rs[k]'hkn, by simp⟩
          have hra := HM.out.r.1.up (KW.out _ _ hp)
          have hcap := HM.out.r.2
          have e0 : wr.cell? ⟨gR, k * 2, none⟩ = some (.int .i64 y.1) := hra (k * 2 + 0) _ (by rw [flR_at _ _ _ hx 0 (by omega)]; rfl)
          have e1 : wr.cell? ⟨gR, k * 2 + 1, none⟩ = some (.int .i64 y.2) := hra (k * 2 + 1) _ (by rw [flR_at _ _ _ hx 1 (by omega)]; rfl)
          have hcc : (k : Int) ≤ (cR : Int) := by omega
          have HX := Lib.hid hx
          obtain ⟨oo, hoo⟩ : ∃ oo, oo = o3 ++ (rs.take k).flatMap serR := ⟨_, rfl⟩
          have loo : oo.length ≤ 20000 := by rw [hoo, List.length_append]; omega
          rw [← hoo] at hp
          have HOO := Lib.hid hoo
          clear hoo
          have hy0 := SM.out.r y (List.mem_of_getElem? hx)
          obtain ⟨v, hv1, hv2⟩ := hp
          have HV1 := Lib.hid hv1
          have HV2 := Lib.hid hv2
          have sE := PB.start (RS.kept hv1 (Kp.alloc wr (.cells #[.int .i64 y.1, .int .i64 y.2] 97)))
          have bE := Blk.new wr 97 #[.int .i64 y.1, .int .i64 y.2]
          have nOE := RS.new hv1 (Nat.le_refl wr.heap.size)
          have nob : wr.heap.size ≠ ob := Nat.ne_of_gt hv1.blk.lt
          have hbE : base ≤ (wr.alloc (.cells #[.int .i64 y.1, .int .i64 y.2] 97)).heap.size := Nat.le_trans HB.out (Nat.le_trans hv2.size (by simp))
          clear hra hx hcap hv1 hv2
          go_upto_region 28 with fail
          obtain ⟨eb, heb⟩ : ∃ eb, eb = wr.heap.size := ⟨_, rfl⟩
          have kE : Kp (fun _ => True) wr (wr.alloc (.cells #[.int .i64 y.1, .int .i64 y.2] 97)) := Kp.alloc _ _
          rw [← heb] at bE nOE nob ⊢
          generalize wr.alloc (.cells #[.int .i64 y.1, .int .i64 y.2] 97) = wE at bE sE hbE kE ⊢
          have EB : Hid (∀ W out, PB base ob wE v W out → W.cell? ⟨eb, 0, none⟩ = some (.int .i64 y.1) ∧ W.cell? ⟨eb, 1, none⟩ = some (.int .i64 y.2)) := Lib.hid (fun W out h => by
            obtain ⟨u, h1, h2⟩ := h
            have b := (bE.kept (h2.far eb bE.lt nob nOE).1).cell
            exact ⟨b 0, b 1⟩)
          have S0 := Lib.hid sE
          have KE := Lib.hid kE
          have HBE : Hid (base ≤ wE.heap.size) := Lib.hid hbE
          have XE : Hid (∀ W out, PB base ob wE v W out → W.cell? ⟨xb, 0, none⟩ = some (.bool true)) := Lib.hid (fun W out h => (XB.out W out (PB.join HV2.out KE.out h)).1)
          have hx0 := XE.out _ _ S0.out
          obtain ⟨b0, b1⟩ := EB.out _ _ S0.out
          clear bE sE kE heb nOE nob hbE e0 e1
          obtain ⟨hk0, hkb⟩ := hy0
          go_wp2_with (first | (go_at_call 45; refine (put_fresh S1.out HBE.out [(y.2 : Int)] (by intro y hy; simp at hy; omega) (by simp; omega)).mono ?_; rintro e w7 ⟨rfl, pq⟩; clear hx0 b0 b1; obtain ⟨b0, b1⟩ := EB.out _ _ pq; have hx0 := XE.out _ _ pq; have S2 := Lib.hid pq; clear pq) | (go_at_call 45; refine (put_fresh S0.out HBE.out [(y.1 : Int)] (by intro y hy; simp at hy; omega) (by simp; omega)).mono ?_; rintro e w6 ⟨rfl, pq⟩; clear hx0 b0 b1; obtain ⟨b0, b1⟩ := EB.out _ _ pq; have hx0 := XE.out _ _ pq; have S1 := Lib.hid pq; clear pq))
          exact ⟨⟨k + 1, by simp, by omega, by rw [flatMap_take _ _ _ _ HX.out, ← List.append_assoc, ← HOO.out]; have := PB.join HV2.out KE.out S2.out; simpa [serR] using this⟩, by simp [intOf]; omega⟩
        · have hkn' : ¬ (k : Int) < (rs.length : Int) := by omega
          have hke : k = rs.length := by omega
          subst hke
          rw [List.take_of_length_le (Nat.le_refl _)] at hp hlk2
          have P6 := Lib.hid hp
          obtain ⟨o4, ho4⟩ : ∃ o4, o4 = o3 ++ rs.flatMap serR := ⟨_, rfl⟩
          have lo4 : o4.length ≤ 5300 := by rw [ho4]; rw [List.length_append]; omega
          rw [← ho4] at P6
          have Ho4 := Lib.hid ho4
          clear ho4
          obtain ⟨x0, x1, x2, x3, x4, x5, x6, x7, x8, x9, x10⟩ := XB.out _ _ P6.out
          clear hp
          go_upto_region 33 with (first | (go_at_call 45; refine (put_fresh P6.out HB.out [1] (by intro y hy; simp at hy; omega) (by simp; omega)).mono ?_; rintro e w8 ⟨rfl, pq⟩; clear x0 x1 x2 x3 x4 x5 x6 x7 x8 x9 x10; obtain ⟨x0, x1, x2, x3, x4, x5, x6, x7, x8, x9, x10⟩ := XB.out _ _ pq; have P7 := Lib.hid pq; clear pq))
          go_upto_region 34 with (first | (go_at_call 45; refine (put_row P7.out HB.out [0] (HM.out.m.1.up (KW.out _ _ P7.out)) HM.out.m.2 NM.out (by intro y hy; simp at hy; omega) (by simp; omega)).mono ?_; rintro e w9 ⟨rfl, pq⟩; clear x0 x1 x2 x3 x4 x5 x6 x7 x8 x9 x10; obtain ⟨x0, x1, x2, x3, x4, x5, x6, x7, x8, x9, x10⟩ := XB.out _ _ pq; have P8 := Lib.hid pq; clear pq))
          go_upto_region 35 with (first | (go_at_call 45; refine (put_fresh P8.out HB.out [0] (by intro y hy; simp at hy; omega) (by simp; omega)).mono ?_; rintro e w10 ⟨rfl, pq⟩; clear x0 x1 x2 x3 x4 x5 x6 x7 x8 x9 x10; obtain ⟨x0, x1, x2, x3, x4, x5, x6, x7, x8, x9, x10⟩ := XB.out _ _ pq; have P9 := Lib.hid pq; clear pq))
          obtain ⟨o5, ho5⟩ : ∃ o5, o5 = o4 ++ [1] ++ [0] ++ [0] := ⟨_, rfl⟩
          have lo5 : o5.length ≤ 5400 := by rw [ho5]; simp; omega
          rw [← ho5] at P9
          have Ho5 := Lib.hid ho5
          clear ho5
          go_wp2_with fail
          go_loopw [129] (fun t129 wr => t129 = .int .i64 0 ∧ wr = w10) (fun _ _ => 0)
          case atStart => exact ⟨rfl, rfl⟩
          case round =>
            obtain ⟨rfl, rfl⟩ := hrel
            go_upto_region 49 with (first | (go_at_call 45; refine (put_fresh P9.out HB.out [(N.ed.length : Int)] (by intro y hy; simp at hy; omega) (by simp; omega)).mono ?_; rintro e w11 ⟨rfl, pq⟩; clear x0 x1 x2 x3 x4 x5 x6 x7 x8 x9 x10; obtain ⟨x0, x1, x2, x3, x4, x5, x6, x7, x8, x9, x10⟩ := XB.out _ _ pq; have P10 := Lib.hid pq; clear pq))
            obtain ⟨o6, ho6⟩ : ∃ o6, o6 = o5 ++ [(N.ed.length : Int)] := ⟨_, rfl⟩
            have lo6 : o6.length ≤ 5500 := by rw [ho6]; simp; omega
            rw [← ho6] at P10
            have Ho6 := Lib.hid ho6
            clear ho6
            go_wp2_with fail
            clear x0 x1 x2 x3 x4 x5 x6 x7 x8 x9 x10
            go_loopw [167] (fun t167 wr => ∃ k : Nat, t167 = .int .i64 k ∧ k ≤ N.ed.length ∧ PB base ob wA (.slice none 0 0) wr (o6 ++ (N.ed.take k).flatMap serE)) (fun t167 _ => N.ed.length - (intOf t167).toNat)
            case atStart => exact ⟨0, rfl, Nat.zero_le _, by simpa using P10.out⟩
            case round =>
              obtain ⟨k, rfl, hk, hp⟩ := hrel
              have hlk3 := flat_lenT serE 6 (fun x => by simp [serE]) N.ed k 1000 htE
              by_cases hkn : k < N.ed.length
              · skip
                have hkn' : (k : Int) < (N.ed.length : Int) := by omega
                obtain ⟨y, hx⟩ : ∃ y, N.ed[k]? = some y := ⟨N.ed[k]'hkn, by simp⟩
                have hra := HM.out.e.1.up (KW.out _ _ hp)
                have hcap := HM.out.e.2
                have e0 : wr.cell? ⟨gE, k * 6, none⟩ = some (.int .i64 y.src) := hra (k * 6 + 0) _ (by rw [flE_at _ _ _ hx 0 (by omega)]; rfl)
                have e1 : wr.cell? ⟨gE, k * 6 + 1, none⟩ = some (.int .i64 y.dst) := hra (k * 6 + 1) _ (by rw [flE_at _ _ _ hx 1 (by omega)]; rfl)
                have e2 : wr.cell? ⟨gE, k * 6 + 2, none⟩ = some (.int .i64 y.kind) := hra (k * 6 + 2) _ (by rw [flE_at _ _ _ hx 2 (by omega)]; rfl)
                have e3 : wr.cell? ⟨gE, k * 6 + 3, none⟩ = some (.int .i64 y.a1) := hra (k * 6 + 3) _ (by rw [flE_at _ _ _ hx 3 (by omega)]; rfl)
                have e4 : wr.cell? ⟨gE, k * 6 + 4, none⟩ = some (.int .i64 y.a2) := hra (k * 6 + 4) _ (by rw [flE_at _ _ _ hx 4 (by omega)]; rfl)
                have e5 : wr.cell? ⟨gE, k * 6 + 5, none⟩ = some (.int .i64 0) := hra (k * 6 + 5) _ (by rw [flE_at _ _ _ hx 5 (by omega)]; rfl)
                have hcc : (k : Int) ≤ (cE : Int) := by omega
                have HX := Lib.hid hx
                obtain ⟨oo, hoo⟩ : ∃ oo, oo = o6 ++ (N.ed.take k).flatMap serE := ⟨_, rfl⟩
                have loo : oo.length ≤ 20000 := by rw [hoo, List.length_append]; omega
                rw [← hoo] at hp
                have HOO := Lib.hid hoo
                clear hoo
                have hy0 := SM.out.e y (List.mem_of_getElem? hx)
                obtain ⟨v, hv1, hv2⟩ := hp
                have HV1 := Lib.hid hv1
                have HV2 := Lib.hid hv2
                have sE := PB.start (RS.kept hv1 (Kp.alloc wr (.cells #[.int .i64 y.src, .int .i64 y.dst, .int .i64 y.kind, .int .i64 y.a1, .int .i64 y.a2, .int .i64 0] 163)))
                have bE := Blk.new wr 163 #[.int .i64 y.src, .int .i64 y.dst, .int .i64 y.kind, .int .i64 y.a1, .int .i64 y.a2, .int .i64 0]
                have nOE := RS.new hv1 (Nat.le_refl wr.heap.size)
                have nob : wr.heap.size ≠ ob := Nat.ne_of_gt hv1.blk.lt
                have hbE : base ≤ (wr.alloc (.cells #[.int .i64 y.src, .int .i64 y.dst, .int .i64 y.kind, .int .i64 y.a1, .int .i64 y.a2, .int .i64 0] 163)).heap.size := Nat.le_trans HB.out (Nat.le_trans hv2.size (by simp))
                clear hra hx hcap hv1 hv2
                go_upto_region 52 with fail
                obtain ⟨eb, heb⟩ : ∃ eb, eb = wr.heap.size := ⟨_, rfl⟩
                have kE : Kp (fun _ => True) wr (wr.alloc (.cells #[.int .i64 y.src, .int .i64 y.dst, .int .i64 y.kind, .int .i64 y.a1, .int .i64 y.a2, .int .i64 0] 163)) := Kp.alloc _ _
                rw [← heb] at bE nOE nob ⊢
                generalize wr.alloc (.cells #[.int .i64 y.src, .int .i64 y.dst, .int .i64 y.kind, .int .i64 y.a1, .int .i64 y.a2, .int .i64 0] 163) = wE at bE sE hbE kE ⊢
                have EB : Hid (∀ W out, PB base ob wE v W out → W.cell? ⟨eb, 0, none⟩ = some (.int .i64 y.src) ∧ W.cell? ⟨eb, 1, none⟩ = some (.int .i64 y.dst) ∧ W.cell? ⟨eb, 2, none⟩ = some (.int .i64 y.kind) ∧ W.cell? ⟨eb, 3, none⟩ = some (.int .i64 y.a1) ∧ W.cell? ⟨eb, 4, none⟩ = some (.int .i64 y.a2) ∧ W.cell? ⟨eb, 5, none⟩ = some (.int .i64 0)) := Lib.hid (fun W out h => by
                  obtain ⟨u, h1, h2⟩ := h
                  have b := (bE.kept (h2.far eb bE.lt nob nOE).1).cell
                  exact ⟨b 0, b 1, b 2, b 3, b 4, b 5⟩)
                have S0 := Lib.hid sE
                have KE := Lib.hid kE
                have HBE : Hid (base ≤ wE.heap.size) := Lib.hid hbE
                have XE : Hid (∀ W out, PB base ob wE v W out → W.cell? ⟨xb, 0, none⟩ = some (.bool true)) := Lib.hid (fun W out h => (XB.out W out (PB.join HV2.out KE.out h)).1)
                have hx0 := XE.out _ _ S0.out
                obtain ⟨b0, b1, b2, b3, b4, b5⟩ := EB.out _ _ S0.out
                clear bE sE kE heb nOE nob hbE e0 e1 e2 e3 e4 e5
                obtain ⟨hk1, hk2, hk3, hk4, hk5, hk6, hk7⟩ := hy0
                go_wp2_with (first | (go_at_call 45; refine (put_fresh S0.out HBE.out [(y.src : Int), (y.dst : Int), (y.kind : Int), y.a1, y.a2, 0] (by intro y hy; simp at hy; omega) (by simp; omega)).mono ?_; rintro e w12 ⟨rfl, pq⟩; clear hx0 b0 b1 b2 b3 b4 b5; obtain ⟨b0, b1, b2, b3, b4, b5⟩ := EB.out _ _ pq; have hx0 := XE.out _ _ pq; have S1 := Lib.hid pq; clear pq))
                exact ⟨⟨k + 1, by simp, by omega, by rw [flatMap_take _ _ _ _ HX.out, ← List.append_assoc, ← HOO.out]; have := PB.join HV2.out KE.out S1.out; simpa [serE] using this⟩, by simp [intOf]; omega⟩
              · have hkn' : ¬ (k : Int) < (N.ed.length : Int) := by omega
                have hke : k = N.ed.length := by omega
                subst hke
                rw [List.take_of_length_le (Nat.le_refl _)] at hp hlk3
                have P11 := Lib.hid hp
                obtain ⟨o7, ho7⟩ : ∃ o7, o7 = o6 ++ N.ed.flatMap serE := ⟨_, rfl⟩
                have lo7 : o7.length ≤ 11600 := by rw [ho7]; rw [List.length_append]; omega
                rw [← ho7] at P11
                have Ho7 := Lib.hid ho7
                clear ho7
                obtain ⟨x0, x1, x2, x3, x4, x5, x6, x7, x8, x9, x10⟩ := XB.out _ _ P11.out
                clear hp
                go_upto_region 55 with (first | (go_at_call 45; refine (put_fresh P11.out HB.out [(N.de.length : Int)] (by intro y hy; simp at hy; omega) (by simp; omega)).mono ?_; rintro e w13 ⟨rfl, pq⟩; clear x0 x1 x2 x3 x4 x5 x6 x7 x8 x9 x10; obtain ⟨x0, x1, x2, x3, x4, x5, x6, x7, x8, x9, x10⟩ := XB.out _ _ pq; have P12 := Lib.hid pq; clear pq))
                have hdl : (serN N.de).length = N.de.length := by simp [serN]
                go_upto_region 57 with (first | (go_at_call 45; rw [← hdl]; refine (put_row P12.out HB.out (serN N.de) (HM.out.d.1.up (KW.out _ _ P12.out)) (by rw [hdl]; exact HM.out.d.2.1) ND.out (by intro y hy; simp [serN] at hy; obtain ⟨z, hz, rfl⟩ := hy; have := SM.out.d z hz; omega) (by simp [hdl]; omega)).mono ?_; rintro e w14 ⟨rfl, pq⟩; clear x0 x1 x2 x3 x4 x5 x6 x7 x8 x9 x10; obtain ⟨x0, x1, x2, x3, x4, x5, x6, x7, x8, x9, x10⟩ := XB.out _ _ pq; have P13 := Lib.hid pq; clear pq))
                go_upto_region 58 with (first | (go_at_call 45; refine (put_fresh P13.out HB.out [0] (by intro y hy; simp at hy; omega) (by simp [hdl]; omega)).mono ?_; rintro e w15 ⟨rfl, pq⟩; clear x0 x1 x2 x3 x4 x5 x6 x7 x8 x9 x10; obtain ⟨x0, x1, x2, x3, x4, x5, x6, x7, x8, x9, x10⟩ := XB.out _ _ pq; have P14 := Lib.hid pq; clear pq))
                have P15 : Hid (PB base ob wA (.slice none 0 0) w15 (serL N rs mt)) := by
                  have := P14.out
                  rw [Ho7.out, Ho6.out, Ho5.out, Ho4.out, Ho3.out, Ho2.out, Ho1.out] at this
                  exact Lib.hid this
                clear P14
                go_wp2_with fail
                go_loopw [208] (fun t208 wr => t208 = .int .i64 0 ∧ wr = w15) (fun _ _ => 0)
                case atStart => exact ⟨rfl, rfl⟩
                case round =>
                  obtain ⟨rfl, rfl⟩ := hrel
                  have kw := KW.out _ _ P15.out
                  obtain ⟨v, hv1, hv2⟩ := P15.out
                  obtain ⟨u, hu, ho⟩ := hv1.row 0 rfl
                  have huv : v = u := by simpa using hu
                  subst huv
                  have hpos : (serL N rs mt).length ≠ 0 := by simp [serL]
                  have ho' : wr.ownsRow base 21 1 v (serL N rs mt).length (flI (serL N rs mt)) := ho
                  obtain ⟨g, c, rfl, _⟩ := own_form ho' hpos
                  have y0 : wr.cell? ⟨ob, 0, none⟩ = some (.slice (some ⟨g, 0, none⟩) (serL N rs mt).length c) := hv1.blk.cell 0
                  have HO := Lib.hid ho'
                  have KWW := Lib.hid kw
                  obtain ⟨LL, hLL⟩ : ∃ LL, LL = serL N rs mt := ⟨_, rfl⟩
                  rw [← hLL] at y0 HO
                  have HLL := Lib.hid hLL
                  clear hLL
                  clear hv1 hv2 hu ho ho' kw hpos P15
                  go_wp2_with fail
                  go_ret
                  rw [← HLL.out]
                  exact ⟨g, c, rfl, RowAt.of HO.out, own_cap HO.out, KWW.out⟩
end Go.Proofs
end
