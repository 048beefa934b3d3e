/- A part of the proof of the statement on the law FnStates, which the last text proves: part G33. -/
import Derived.Test.YtlceacefhnllbaaGreatDoorG32
set_option linter.all false
section
namespace Go.Proofs
open Go.RowKit
open Pl
/-! ## the edges are read -/
theorem drop_serE (N : Bd) {m : Nat} (h : m < N.ed.length) : (N.ed.drop m).flatMap serE = ((edA N m).src : Int) :: ((edA N m).dst : Int) :: ((edA N m).kind : Int) :: (edA N m).a1 :: (edA N m).a2 :: 0 :: (N.ed.drop (m + 1)).flatMap serE := by
  rw [List.drop_eq_getElem_cons h, List.flatMap_cons]
  have e : N.ed[m] = edA N m := by have := edA_at h; rw [List.getElem?_eq_getElem h] at this; exact Option.some.inj this
  rw [e]; rfl
def LpEd (N : Bd) (ab : Nat) (a : Array Value) (k : DK) (R : List Int) (A : Nat → Nat) (vs : Value) (f0 : Nat → Array Value) (g0 : DG) (t : Value) (w : World) : Prop :=
  ∃ (m : Nat) (g : DG) (f : Nat → Array Value) (tA : Nat → Nat), t = .int .i64 m ∧ m ≤ N.ed.length ∧ DM k g w ((N.ed.drop m).flatMap serE ++ R) ∧ EdI N ab a A vs f0 g0 tA m g f
def S8p (N : Bd) (p : Nat) (s : Nat) : Prop := ∃ q, q < p ∧ isB N q = true ∧ (lsA N q).arg = s
def S4p (N : Bd) (p : Nat) (s : Nat) : Prop := ∃ q, q < p ∧ N.kind q = 11 ∧ ∃ x ∈ N.out q, x.dst = s
def S10p (N : Bd) (p : Nat) (s : Nat) : Prop := ∃ q, q < p ∧ N.kind q = 9 ∧ ∃ x ∈ N.out q, x.dst = s
def LpBk (N : Bd) (ab : Nat) (a : Array Value) (k : DK) (R : List Int) (A : Nat → Nat) (vs : Value) (f1 : Nat → Array Value) (g1 : DG) (t : Value) (w : World) : Prop :=
  ∃ (p : Nat) (g : DG) (f : Nat → Array Value), t = .int .i64 p ∧ p ≤ N.st.length ∧ DM k g w R ∧ BkI N ab a A vs f1 g1 (S8p N p) (S4p N p) (S10p N p) g f
/-- Within a state: the edges looked at so far. -/
def LpB4 (N : Bd) (ab : Nat) (a : Array Value) (k : DK) (R : List Int) (A : Nat → Nat) (vs : Value) (f1 : Nat → Array Value) (g1 : DG) (p : Nat) (t : Value) (w : World) : Prop :=
  ∃ (j : Nat) (g : DG) (f : Nat → Array Value), t = .int .i64 j ∧ j ≤ (N.out p).length ∧ DM k g w R ∧ BkI N ab a A vs f1 g1 (S8p N p) (fun s => S4p N p s ∨ ∃ x ∈ (N.out p).take j, x.dst = s) (S10p N p) g f
def LpB10 (N : Bd) (ab : Nat) (a : Array Value) (k : DK) (R : List Int) (A : Nat → Nat) (vs : Value) (f1 : Nat → Array Value) (g1 : DG) (p : Nat) (t : Value) (w : World) : Prop :=
  ∃ (j : Nat) (g : DG) (f : Nat → Array Value), t = .int .i64 j ∧ j ≤ (N.out p).length ∧ DM k g w R ∧ BkI N ab a A vs f1 g1 (S8p N p) (S4p N p) (fun s => S10p N p s ∨ ∃ x ∈ (N.out p).take j, x.dst = s) g f
def RdEd (N : Bd) (ab : Nat) (a : Array Value) (k : DK) (R : List Int) (A : Nat → Nat) (vs : Value) (f0 : Nat → Array Value) (g0 : DG) (e : Ending) (w' : World) : Prop :=
  e = .returned (.tuple #[]) ∧ ∃ g1 f1 tA g f, DM k g w' R ∧ EdI N ab a A vs f0 g0 tA N.ed.length g1 f1 ∧ BkI N ab a A vs f1 g1 (S8p N N.st.length) (S4p N N.st.length) (S10p N N.st.length) g f
theorem S8p_snoc (N : Bd) (p s : Nat) : S8p N (p + 1) s ↔ S8p N p s ∨ (isB N p = true ∧ (lsA N p).arg = s) := by
  unfold S8p
  constructor
  · rintro ⟨q, h1, h2, h3⟩
    rcases Nat.lt_succ_iff_lt_or_eq.1 h1 with h | rfl
    · exact .inl ⟨q, h, h2, h3⟩
    · exact .inr ⟨h2, h3⟩
  · rintro (⟨q, h1, h2, h3⟩ | ⟨h2, h3⟩)
    · exact ⟨q, by omega, h2, h3⟩
    · exact ⟨p, by omega, h2, h3⟩
theorem S4p_snoc (N : Bd) (p s : Nat) : S4p N (p + 1) s ↔ S4p N p s ∨ (N.kind p = 11 ∧ ∃ x ∈ N.out p, x.dst = s) := by
  unfold S4p
  constructor
  · rintro ⟨q, h1, h2, h3⟩
    rcases Nat.lt_succ_iff_lt_or_eq.1 h1 with h | rfl
    · exact .inl ⟨q, h, h2, h3⟩
    · exact .inr ⟨h2, h3⟩
  · rintro (⟨q, h1, h2, h3⟩ | ⟨h2, h3⟩)
    · exact ⟨q, by omega, h2, h3⟩
    · exact ⟨p, by omega, h2, h3⟩
theorem S10p_snoc (N : Bd) (p s : Nat) : S10p N (p + 1) s ↔ S10p N p s ∨ (N.kind p = 9 ∧ ∃ x ∈ N.out p, x.dst = s) := by
  unfold S10p
  constructor
  · rintro ⟨q, h1, h2, h3⟩
    rcases Nat.lt_succ_iff_lt_or_eq.1 h1 with h | rfl
    · exact .inl ⟨q, h, h2, h3⟩
    · exact .inr ⟨h2, h3⟩
  · rintro (⟨q, h1, h2, h3⟩ | ⟨h2, h3⟩)
    · exact ⟨q, by omega, h2, h3⟩
    · exact ⟨p, by omega, h2, h3⟩
theorem kTy_ne {k x : Nat} {T : TypeId} (h1 : 1 ≤ k) (h2 : k ≤ 12) (hx : (x = 11 ∧ T = 291) ∨ (x = 9 ∧ T = 301) ∨ (x = 4 ∧ T = 295) ∨ (x = 10 ∧ T = 173)) (h : k ≠ x) : kTy k ≠ T := by
  rcases hx with ⟨rfl, rfl⟩ | ⟨rfl, rfl⟩ | ⟨rfl, rfl⟩ | ⟨rfl, rfl⟩
  all_goals
    have hk : k = 1 ∨ k = 2 ∨ k = 3 ∨ k = 4 ∨ k = 5 ∨ k = 6 ∨ k = 7 ∨ k = 8 ∨ k = 9 ∨ k = 10 ∨ k = 11 ∨ k = 12 := by omega
    rcases hk with rfl | rfl | rfl | rfl | rfl | rfl | rfl | rfl | rfl | rfl | rfl | rfl <;> first | exact absurd rfl h | decide
/-- What is read of the state that is at hand, and its edges. -/
theorem EdI.edge {N : Bd} {ab : Nat} {a : Array Value} {A : Nat → Nat} {vs : Value} {f0 f1 : Nat → Array Value} {g0 g1 g : DG} {tA : Nat → Nat} (h : EdI N ab a A vs f0 g0 tA N.ed.length g1 f1) {k : DK} {w : World} {R : List Int} (hd : DM k g w R)
    (hbl : ∀ j, g.bl (2 * j + 2) = g1.bl (2 * j + 2)) (hrw : g.rw = g1.rw) {s : Nat} (hs : s < N.st.length) {v : Value} (hv : (f1 s)[6]? = some v) {j : Nat} (hj : j < (N.out s).length) :
    ∃ gq cq tb x, v = .slice (some ⟨gq, 0, none⟩) (N.out s).length cq ∧ (j : Int) ≤ (cq : Int) ∧ (N.out s)[j]? = some x ∧ w.cell? ⟨gq, j, none⟩ = some (.iface (trTy x.kind) (.pointer (some ⟨tb, 0, none⟩))) ∧ w.cell? ⟨tb, 0, none⟩ = some (ifA N A x.dst) := by
  obtain ⟨v', h1, h2⟩ := h.rows s hs
  rw [hv] at h1; cases h1
  have hl : (N.out s).length = (outI N N.ed.length s).length := by rw [out_map, List.length_map]
  have o := (hd.rw _ _ (by rw [hrw]; exact h2)).1
  simp only at o
  obtain ⟨gq, cq, e, _⟩ := own_form o (by omega)
  subst e
  obtain ⟨i, hi⟩ : ∃ i, (outI N N.ed.length s)[j]? = some i := ⟨(outI N N.ed.length s)[j]'(by omega), by simp⟩
  have him := outI_lt (List.mem_of_getElem? hi)
  obtain ⟨c, h3, h4⟩ := h.tr i him
  refine ⟨gq, cq, tA i, edA N i, by rw [hl], ?_, by rw [out_map, List.getElem?_map, hi]; rfl, ?_, ?_⟩
  · have := own_cap o; omega
  · exact own_cell o _ _ (by rw [List.getElem?_map, hi]; rfl)
  · exact ((hd.bl _ _ (by rw [hbl]; exact h3)).1.cell 0).trans h4.t
theorem EdI.row {N : Bd} {ab : Nat} {a : Array Value} {A : Nat → Nat} {vs : Value} {f0 f1 : Nat → Array Value} {g0 g1 : DG} {tA : Nat → Nat} (h : EdI N ab a A vs f0 g0 tA N.ed.length g1 f1) {k : DK} {g : DG} {w : World} {R : List Int} (hd : DM k g w R)
    (hrw : g.rw = g1.rw) {s : Nat} (hs : s < N.st.length) : ∃ va vc, (f1 s)[6]? = some (.slice va (N.out s).length vc) := by
  obtain ⟨v', h1, h2⟩ := h.rows s hs
  have o := (hd.rw _ _ (by rw [hrw]; exact h2)).1
  simp only at o
  obtain ⟨va, vc, rfl⟩ := own_slice o
  exact ⟨va, vc, by rw [h1, out_map, List.length_map]⟩
theorem naAdd {T : TypeId} (hT : T ∈ stTypes) (a : Addr) (w : World) : (nilAhead 715 T (.pointer (some a)) "AddTransition").run Tryz.prog w = .ok (some false) w := by
  unfold stTypes at hT
  simp only [List.mem_cons, List.not_mem_nil, or_false] at hT
  rcases hT with rfl | rfl | rfl | rfl | rfl | rfl | rfl | rfl | rfl | rfl | rfl | rfl
  all_goals kernel_rfl
theorem BkI.init {N : Bd} {ab : Nat} {a : Array Value} {A : Nat → Nat} {vs : Value} {f0 f1 : Nat → Array Value} {g0 g1 : DG} {tA : Nat → Nat} (h : EdI N ab a A vs f0 g0 tA N.ed.length g1 f1) (hn8 : ∀ s, s < N.st.length → N.kind s = 8 → (f0 s)[7]? = some .nilIface) :
    BkI N ab a A vs f1 g1 (S8p N 0) (S4p N 0) (S10p N 0) g1 f1 where
  ga := h.ga
  cs := h.cs
  bl := fun _ => rfl
  rw := rfl
  fo := fun _ _ _ _ _ => rfl
  e8 := fun s _ _ ⟨q, hq, _⟩ => by omega
  n8 := fun s hs hk _ => by rw [h.fo s 7 (by omega) (by omega)]; exact hn8 s hs hk
  e4 := fun s _ _ ⟨q, hq, _⟩ => by omega
  e10 := fun s _ _ ⟨q, hq, _⟩ => by omega
set_option maxRecDepth 100000 in
set_option maxHeartbeats 2000000 in
theorem rded_any {N : Bd} (ko : KOk N) (vo : VOk N) {k : DK} {g : DG} {w : World} {R : List Int} {ab : Nat} {a : Array Value} {A : Nat → Nat} {vs : Value} {f : Nat → Array Value} (h : DM k g w ((N.ed.length : Int) :: (N.ed.flatMap serE ++ R))) (ga : GA N ab a g A vs f) (cs : Cs N A f) (h26 : ∀ s, s < N.st.length → (f s)[2]? = some (.bool false) ∧ (f s)[6]? = some (.slice none 0 0)) (hn8 : ∀ s, s < N.st.length → N.kind s = 8 → (f s)[7]? = some .nilIface) (hfew : N.ed.length ≤ 1000) (hst : 0 < N.st.length) :
    Calls Tryz.prog 68 #[.pointer (some ⟨k.db, 0, none⟩), .pointer (some ⟨ab, 0, none⟩), .slice none 0 0] w fun e w' => RdEd N ab a k R A vs f g e w' := by
  have D := Lib.hid h
  have KO := Lib.hid ko
  have VO := Lib.hid vo
  have HN8 := Lib.hid hn8
  have hsf := ko.few
  have o0 := (h.rw 0 _ ga.a2).1
  simp only at o0
  obtain ⟨q0, c0, hq0, _⟩ := own_form o0 (by omega)
  subst hq0
  have hc0 : (N.st.length : Int) ≤ (c0 : Int) := by have := own_cap o0; omega
  have I0 := Lib.hid (EdI.init ga cs h26 (fun _ => 0))
  clear h ko vo hn8 ga cs h26 o0
  go_enter Tryz.func68, Tryz.ntmps68
  go_upto_region 2 with (first | (go_at_call 92; refine (rdd_any D.out).mono ?_; rintro e w1 ⟨rfl, hd⟩; replace D := Lib.hid hd; clear hd))
  go_loopw [7] (fun t7 wr => LpEd N ab a k R A (.slice (some ⟨q0, 0, none⟩) N.st.length c0) f g t7 wr) (fun t7 _ => N.ed.length - (intOf t7).toNat)
  case atStart => exact ⟨0, g.rows8, f, _, rfl, Nat.zero_le _, D.out.rows8, I0.out⟩
  case round =>
    clear D I0
    obtain ⟨m, gi, fi, tA, rfl, hm, hd, hI⟩ := hrel
    by_cases hml : m < N.ed.length
    · have hml' : (m : Int) < (N.ed.length : Int) := by omega
      obtain ⟨v1, v2, v3, _⟩ := VO.out.ed (edA N m) (List.mem_of_getElem? (edA_at hml))
      rw [drop_serE N hml] at hd
      have D : Hid (DM k gi wr (((edA N m).src : Int) :: ((edA N m).dst : Int) :: ((edA N m).kind : Int) :: (edA N m).a1 :: (edA N m).a2 :: 0 :: ((N.ed.drop (m + 1)).flatMap serE ++ R))) := Lib.hid hd
      have HI := Lib.hid hI
      obtain ⟨v, h6, hr⟩ := hI.rows _ v1
      have o1 := (hd.rw _ _ hr).1
      simp only at o1
      obtain ⟨va, vc, rfl⟩ := own_slice o1
      clear o1
      have hol := outI_len N m (edA N m).src
      have dA := fun a w => dAdd (kTy_mem (N.kind (edA N m).src)) a w
      have nA := fun a w => naAdd (kTy_mem (N.kind (edA N m).src)) a w
      have hsi : ((edA N m).src : Int) < (N.st.length : Int) := by omega
      have H6 := Lib.hid h6
      have HR := Lib.hid hr
      have V2 := Lib.hid v2
      have V3 := Lib.hid v3
      clear hd hI h6 hr v2 v3
      go_wp2_with (first | (go_at_call 92; refine (rdd_any D.out).mono ?_; rintro e wn ⟨rfl, hd⟩; replace D := Lib.hid hd; clear hd) | (go_at_call 100; refine (edf_any D.out HI.out.ga (2 * m + 2) (edA N m) V3.out V2.out _).mono ?_; rintro e w2 ⟨tb, ct, g2, rfl, hd2, hb2, hr2, tc⟩; replace D := Lib.hid hd2; have B2 := Lib.hid hb2; have R2 := Lib.hid hr2; have TC := Lib.hid tc; clear hd2 hb2 hr2 tc; have c9 : w2.cell? ⟨ab, 9, none⟩ = some (.slice (some ⟨q0, 0, none⟩) N.st.length c0) := ((D.out.bl 0 _ (by rw [B2.out, upO_ne _ _ (by omega)]; exact HI.out.ga.a1)).1.cell 9).trans HI.out.ga.a9; have cs : w2.cell? ⟨q0, (edA N m).src, none⟩ = some (ifA N A (edA N m).src) := own_cell (D.out.rw 0 _ (by rw [R2.out]; exact HI.out.ga.a2)).1 _ _ (by simp [v1]); unfold ifA at cs) | (go_at_call 103; refine (addT_any D.out (i := 2 * (edA N m).src + 1) (ri := 8 + (edA N m).src) (j := 2 * m + 2) (by rw [B2.out, upO_ne _ _ (by omega)]; exact HI.out.ga.st _ v1) H6.out (HI.out.eps _ v1) (by rw [R2.out]; exact HR.out) (trTy_mem _) (by rw [B2.out, upO_self]) TC.out.e (by omega)).mono ?_; rintro e w3 ⟨rfl, g3, c', gg, cap, hd3, hb3, hr3, h6', h2', hsz', ho'⟩; have HH := Lib.hid (show LpEd N ab a k R A (.slice (some ⟨q0, 0, none⟩) N.st.length c0) f g (.int .i64 ((m : Int) + 1)) w3 from ⟨m + 1, g3, _, _, by simp, by omega, hd3, HI.out.next rfl (by rw [hb3, B2.out]) TC.out (by rw [hr3, R2.out]) h6' h2' hsz' ho'⟩); clear hd3 hb3 hr3 h6' h2' hsz' ho' c9 cs))
      exact ⟨HH.out, by simp [intOf]; omega⟩
    · have hml' : ¬ (m : Int) < (N.ed.length : Int) := by omega
      have hme : m = N.ed.length := by omega
      subst hme
      have D := Lib.hid (show DM k gi wr R by simpa using hd)
      have HI := Lib.hid hI
      have c9 : wr.cell? ⟨ab, 9, none⟩ = some (.slice (some ⟨q0, 0, none⟩) N.st.length c0) := ((hd.bl 0 _ hI.ga.a1).1.cell 9).trans hI.ga.a9
      have OS : Hid (∀ i, i < N.st.length → wr.cell? ⟨q0, i, none⟩ = some (ifA N A i)) := Lib.hid (fun i hi => own_cell (hd.rw 0 _ hI.ga.a2).1 _ _ (by simp [hi]))
      clear hd hI hm hml
      obtain ⟨wE, rfl⟩ : ∃ wE, wE = wr := ⟨_, rfl⟩
      go_upto_region 14 with fail
      go_loopw [84] (fun t84 wq => ∃ i : Nat, t84 = .int .i64 i ∧ i ≤ N.st.length ∧ wq = wE) (fun t84 _ => N.st.length - (intOf t84).toNat)
      case atStart => exact ⟨0, rfl, Nat.zero_le _, rfl⟩
      case round =>
        obtain ⟨i, rfl, hi, rfl⟩ := hrel
        by_cases hil : i < N.st.length
        · have hil' : (i : Int) < (N.st.length : Int) := by omega
          have cs := OS.out i hil
          unfold ifA at cs
          obtain ⟨va, vc, h6⟩ := HI.out.row D.out rfl hil
          have c6 : wr.cell? ⟨A i, 6, none⟩ = some (.slice va (N.out i).length vc) := ((D.out.bl _ _ (HI.out.ga.st i hil)).1.cell 6).trans h6
          have dT := fun a w => dTrs (kTy_mem (N.kind i)) a w
          have hlo : (N.out i).length ≤ 1000 := Nat.le_trans (List.length_filter_le _ _) hfew
          have H6 := Lib.hid h6
          clear h6
          generalize hTT : kTy (N.kind i) = T at *
          go_upto_region 17 with (first | (go_at_call 104; refine (gTrs _ _ _ c6).mono ?_; rintro e w' ⟨rfl, rfl⟩))
          obtain ⟨wF, rfl⟩ : ∃ wF, wF = wr := ⟨_, rfl⟩
          go_loopw [91] (fun t91 wq => ∃ j : Nat, t91 = .int .i64 j ∧ j ≤ (N.out i).length ∧ wq = wF) (fun t91 _ => (N.out i).length - (intOf t91).toNat)
          case atStart => exact ⟨0, rfl, Nat.zero_le _, rfl⟩
          case round =>
            obtain ⟨j, rfl, hj, rfl⟩ := hrel
            by_cases hjl : j < (N.out i).length
            · have hjl' : (j : Int) < ((N.out i).length : Int) := by omega
              obtain ⟨gq, cq, tb, x, e, hcq, hx, ct, _⟩ := HI.out.edge D.out (fun _ => rfl) rfl hil H6.out hjl
              simp only [Value.slice.injEq, true_and] at e
              obtain ⟨rfl, rfl⟩ := e
              have ta := fun a w => taNoRT (trTy_mem x.kind) a w
              generalize trTy x.kind = TT at *
              clear c6 cs
              go_wp2_with fail
              exact ⟨⟨j + 1, by simp, by omega, by trivial⟩, by simp [intOf]; omega⟩
            · have hjl' : ¬ (j : Int) < ((N.out i).length : Int) := by omega
              go_wp2_with fail
              exact ⟨⟨i + 1, by simp, by omega, by trivial⟩, by simp [intOf]; omega⟩
        · have hil' : ¬ (i : Int) < (N.st.length : Int) := by omega
          have hie : i = N.st.length := by omega
          subst hie
          have HB0 := Lib.hid (BkI.init HI.out HN8.out)
          clear hi hil OS
          go_upto_region 30 with fail
          go_loopw [155] (fun t155 wq => LpBk N ab a k R A (.slice (some ⟨q0, 0, none⟩) N.st.length c0) fi gi t155 wq) (fun t155 _ => N.st.length - (intOf t155).toNat)
          case atStart => exact ⟨0, gi, fi, rfl, Nat.zero_le _, D.out, HB0.out⟩
          case round =>
            clear D HB0
            obtain ⟨p, gp, fp, rfl, hp, hd, hB⟩ := hrel
            by_cases hpl : p < N.st.length
            · have hpl' : (p : Int) < (N.st.length : Int) := by omega
              obtain ⟨k1, k12⟩ := KO.out.kd p hpl
              have cs : wr.cell? ⟨q0, p, none⟩ = some (ifA N A p) := own_cell (hd.rw 0 _ hB.ga.a2).1 _ _ (by simp [hpl])
              unfold ifA at cs
              have D := Lib.hid hd
              have HB := Lib.hid hB
              clear hd hB
              by_cases hBB : isB N p = true
              · obtain ⟨harg, hk8⟩ := KO.out.bs p hpl hBB
                have hT := isB_ty hBB
                have hkk : N.kind p = 3 ∨ N.kind p = 4 ∨ N.kind p = 5 := by
                  unfold isB at hBB; simpa [or_assoc] using hBB
                have t1 := fun a w => taB3 hT a w
                have t2 := fun a w => taNo291 (kTy_mem (N.kind p)) (kTy_ne k1 k12 (.inl ⟨rfl, rfl⟩) (by omega)) a w
                have t3 := fun a w => taNo301 (kTy_mem (N.kind p)) (kTy_ne k1 k12 (.inr (.inl ⟨rfl, rfl⟩)) (by omega)) a w
                have d1 := fun a w => dGetEnd hT a w
                have c9e : wr.cell? ⟨A p, 9, none⟩ = some (.pointer (some ⟨A (lsA N p).arg, 0, none⟩)) := ((D.out.bl _ _ (HB.out.ga.st p hpl)).1.cell 9).trans (HB.out.cs.b9 p hpl hBB)
                have be : Blk wr (A (lsA N p).arg) (bTy (N.kind (lsA N p).arg)) (fp (lsA N p).arg) := (D.out.bl _ _ (HB.out.ga.st _ harg)).1
                have c7e : wr.cell? ⟨A (lsA N p).arg, 7, none⟩ = some .nilIface := (be.cell 7).trans (HB.out.n8 _ harg hk8 (by
                  rintro ⟨q, hq, hqB, hqa⟩
                  have := VO.out.bi q p (by omega) hpl hqB hBB hqa
                  omega))
                have c7f : wr.frozen? ⟨A (lsA N p).arg, 7, none⟩ = false := be.free 7
                clear be
                have HH : Hid (LpBk N ab a k R A (.slice (some ⟨q0, 0, none⟩) N.st.length c0) fi gi (.int .i64 ((p : Int) + 1)) (wr.setCell ⟨A (lsA N p).arg, 7, none⟩ (.iface (kTy (N.kind p)) (.pointer (some ⟨A p, 0, none⟩))))) := Lib.hid (by
                  refine ⟨p + 1, _, _, by simp, by omega, D.out.set (HB.out.ga.st _ harg) 7 _, (HB.out.put harg hk8 (.inl ⟨rfl, rfl⟩) _ _).congr (fun s => ?_) (fun s hs => ?_) (fun s hs => ?_)⟩
                  · rw [S8p_snoc]; simp [hBB, eq_comm]
                  · rw [S4p_snoc] at hs; rcases hs with hs | ⟨h, _⟩
                    · exact .inl hs
                    · omega
                  · rw [S10p_snoc] at hs; rcases hs with hs | ⟨h, _⟩
                    · exact .inl hs
                    · omega)
                clear D HB
                generalize hTT : kTy (N.kind p) = T at *
                go_wp2_with (first | (go_at_call 305; refine (gEnd _ _ _ c9e).mono ?_; rintro e w' ⟨rfl, rfl⟩))
                exact ⟨HH.out, by simp [intOf]; omega⟩
              · have hB' : isB N p = false := by simpa using hBB
                have t1 := fun a w => taB0 (noB_ty k1 k12 hB') a w
                by_cases h11 : N.kind p = 11
                · have eT : kTy (N.kind p) = 291 := by rw [h11]; rfl
                  rw [eT] at cs t1
                  have t2 := fun a w => taYes291 a w
                  obtain ⟨va, vc, h6⟩ := HI.out.row D.out HB.out.rw hpl
                  have hlo : (N.out p).length ≤ 1000 := Nat.le_trans (List.length_filter_le _ _) hfew
                  have c6 : wr.cell? ⟨A p, 6, none⟩ = some (.slice va (N.out p).length vc) := ((D.out.bl _ _ (HB.out.ga.st p hpl)).1.cell 6).trans ((HB.out.fo p 6 (by omega) (by omega) (by omega)).trans h6)
                  have H6 := Lib.hid h6
                  clear h6
                  go_upto_region 42 with (first | (go_at_call 104; refine (gTrs _ _ _ c6).mono ?_; rintro e w' ⟨rfl, rfl⟩))
                  obtain ⟨wF, rfl⟩ : ∃ wF, wF = wr := ⟨_, rfl⟩
                  go_loopw [193] (fun t193 wq => LpB4 N ab a k R A (.slice (some ⟨q0, 0, none⟩) N.st.length c0) fi gi p t193 wq) (fun t193 _ => (N.out p).length - (intOf t193).toNat)
                  case atStart => exact ⟨0, gp, fp, rfl, Nat.zero_le _, D.out, HB.out.congr (fun _ => Iff.rfl) (fun s hs => by simpa using hs) (fun s hs => hs)⟩
                  case round =>
                    clear D HB c6 cs
                    obtain ⟨j, gj, fj, rfl, hj, hd, hB⟩ := hrel
                    by_cases hjl : j < (N.out p).length
                    · have hjl' : (j : Int) < ((N.out p).length : Int) := by omega
                      obtain ⟨gq, cq, tb, x, e, hcq, hx, ct, ctt⟩ := HI.out.edge hd hB.bl hB.rw hpl H6.out hjl
                      simp only [Value.slice.injEq, true_and] at e
                      obtain ⟨rfl, rfl⟩ := e
                      have hxm : x ∈ N.ed := (List.mem_filter.1 (List.mem_of_getElem? hx)).1
                      obtain ⟨_, hxd, _⟩ := VO.out.ed x hxm
                      have hxs := KO.out.kd x.dst hxd
                      have et : (N.out p).take (j + 1) = (N.out p).take j ++ [x] := by rw [List.take_add_one, hx]; rfl
                      have d1 := fun a w => dTgt (trTy_mem x.kind) a w
                      unfold ifA at ctt
                      generalize trTy x.kind = TT at *
                      by_cases hk : N.kind x.dst = 4
                      · have e4 : kTy (N.kind x.dst) = 295 := by rw [hk]; rfl
                        rw [e4] at ctt
                        have t4 := fun a w => taYes295 a w
                        have bx : Blk wr (A x.dst) (bTy (N.kind x.dst)) (fj x.dst) := (hd.bl _ _ (hB.ga.st _ hxd)).1
                        have z : (wr.cell? ⟨A x.dst, 10, none⟩).isSome = true := by
                          rw [bx.cell 10]
                          have := hB.cs.sz x.dst hxd
                          rw [hk] at this
                          rw [Array.getElem?_eq_getElem (by rw [this]; decide)]; rfl
                        obtain ⟨zu, zv⟩ := Option.isSome_iff_exists.1 z
                        have zf : wr.frozen? ⟨A x.dst, 10, none⟩ = false := bx.free 10
                        have HH : Hid (LpB4 N ab a k R A (.slice (some ⟨q0, 0, none⟩) N.st.length c0) fi gi p (.int .i64 ((j : Int) + 1)) (wr.setCell ⟨A x.dst, 10, none⟩ (.iface 291 (.pointer (some ⟨A p, 0, none⟩))))) := Lib.hid (by
                          refine ⟨j + 1, _, _, by simp, by omega, hd.set (hB.ga.st _ hxd) 10 _, (hB.put hxd hk (.inr (.inl ⟨rfl, rfl⟩)) _ _).congr (fun s => by simp) (fun s hs => ?_) (fun s hs => ?_)⟩
                          · rw [et] at hs; simp only [List.mem_append, List.mem_singleton] at hs
                            rcases hs with hs | ⟨y, hy | rfl, rfl⟩
                            · exact .inl (.inl hs)
                            · exact .inl (.inr ⟨y, hy, rfl⟩)
                            · exact .inr ⟨rfl, rfl⟩
                          · exact .inl hs
                          )
                        clear hd hB bx z
                        go_wp2_with (first | (go_at_call 101; refine (gTgt _ _ _ ctt).mono ?_; rintro e w' ⟨rfl, rfl⟩))
                        exact ⟨HH.out, by simp [intOf]; omega⟩
                      · have t4 := fun a w => taNo295 (kTy_mem (N.kind x.dst)) (kTy_ne hxs.1 hxs.2 (.inr (.inr (.inl ⟨rfl, rfl⟩))) hk) a w
                        have HH : Hid (LpB4 N ab a k R A (.slice (some ⟨q0, 0, none⟩) N.st.length c0) fi gi p (.int .i64 ((j : Int) + 1)) wr) := Lib.hid (by
                          refine ⟨j + 1, gj, fj, by simp, by omega, hd, ⟨hB.ga, hB.cs, hB.bl, hB.rw, hB.fo, hB.e8, hB.n8, fun s hs hks ht => ?_, fun s hs hks ht => ?_⟩⟩
                          · rw [et] at ht; simp only [List.mem_append, List.mem_singleton] at ht
                            rcases ht with ht | ⟨y, hy | rfl, rfl⟩
                            · exact hB.e4 _ hs hks (.inl ht)
                            · exact hB.e4 _ hs hks (.inr ⟨y, hy, rfl⟩)
                            · exact absurd hks hk
                          · exact hB.e10 s hs hks ht
                          )
                        generalize kTy (N.kind x.dst) = TX at *
                        clear hd hB
                        go_wp2_with (first | (go_at_call 101; refine (gTgt _ _ _ ctt).mono ?_; rintro e w' ⟨rfl, rfl⟩))
                        exact ⟨HH.out, by simp [intOf]; omega⟩
                    · have hjl' : ¬ (j : Int) < ((N.out p).length : Int) := by omega
                      have hje : j = (N.out p).length := by omega
                      subst hje
                      have HH : Hid (LpBk N ab a k R A (.slice (some ⟨q0, 0, none⟩) N.st.length c0) fi gi (.int .i64 ((p : Int) + 1)) wr) := Lib.hid (by
                        rw [List.take_of_length_le (Nat.le_refl _)] at hB
                        refine ⟨p + 1, gj, fj, by simp, by omega, hd, hB.congr (fun s => ?_) (fun s hs => ?_) (fun s hs => ?_)⟩
                        · rw [S8p_snoc]; simp [hBB]
                        · rw [S4p_snoc] at hs
                          rcases hs with hs | ⟨_, hs⟩
                          · exact .inl hs
                          · exact .inr hs
                        · rw [S10p_snoc] at hs
                          rcases hs with hs | ⟨h, _⟩
                          · exact hs
                          · omega
                        )
                      clear hd hB
                      go_wp2_with fail
                      exact ⟨HH.out, by simp [intOf]; omega⟩
                · by_cases h9 : N.kind p = 9
                  · have eT : kTy (N.kind p) = 301 := by rw [h9]; rfl
                    rw [eT] at cs t1
                    have t3 := fun a w => taNo291 (kTy_mem (N.kind p)) (kTy_ne k1 k12 (.inl ⟨rfl, rfl⟩) h11) a w
                    rw [eT] at t3
                    have t2 := fun a w => taYes301 a w
                    obtain ⟨va, vc, h6⟩ := HI.out.row D.out HB.out.rw hpl
                    have hlo : (N.out p).length ≤ 1000 := Nat.le_trans (List.length_filter_le _ _) hfew
                    have c6 : wr.cell? ⟨A p, 6, none⟩ = some (.slice va (N.out p).length vc) := ((D.out.bl _ _ (HB.out.ga.st p hpl)).1.cell 6).trans ((HB.out.fo p 6 (by omega) (by omega) (by omega)).trans h6)
                    have H6 := Lib.hid h6
                    clear h6
                    go_upto_region 51 with (first | (go_at_call 104; refine (gTrs _ _ _ c6).mono ?_; rintro e w' ⟨rfl, rfl⟩))
                    obtain ⟨wF, rfl⟩ : ∃ wF, wF = wr := ⟨_, rfl⟩
                    go_loopw [220] (fun t220 wq => LpB10 N ab a k R A (.slice (some ⟨q0, 0, none⟩) N.st.length c0) fi gi p t220 wq) (fun t220 _ => (N.out p).length - (intOf t220).toNat)
                    case atStart => exact ⟨0, gp, fp, rfl, Nat.zero_le _, D.out, HB.out.congr (fun _ => Iff.rfl) (fun s hs => hs) (fun s hs => by simpa using hs)⟩
                    case round =>
                      clear D HB c6 cs
                      obtain ⟨j, gj, fj, rfl, hj, hd, hB⟩ := hrel
                      by_cases hjl : j < (N.out p).length
                      · have hjl' : (j : Int) < ((N.out p).length : Int) := by omega
                        obtain ⟨gq, cq, tb, x, e, hcq, hx, ct, ctt⟩ := HI.out.edge hd hB.bl hB.rw hpl H6.out hjl
                        simp only [Value.slice.injEq, true_and] at e
                        obtain ⟨rfl, rfl⟩ := e
                        have hxm : x ∈ N.ed := (List.mem_filter.1 (List.mem_of_getElem? hx)).1
                        obtain ⟨_, hxd, _⟩ := VO.out.ed x hxm
                        have hxs := KO.out.kd x.dst hxd
                        have et : (N.out p).take (j + 1) = (N.out p).take j ++ [x] := by rw [List.take_add_one, hx]; rfl
                        have d1 := fun a w => dTgt (trTy_mem x.kind) a w
                        unfold ifA at ctt
                        generalize trTy x.kind = TT at *
                        by_cases hk : N.kind x.dst = 10
                        · have e4 : kTy (N.kind x.dst) = 173 := by rw [hk]; rfl
                          rw [e4] at ctt
                          have t4 := fun a w => taYes173 a w
                          have bx : Blk wr (A x.dst) (bTy (N.kind x.dst)) (fj x.dst) := (hd.bl _ _ (hB.ga.st _ hxd)).1
                          have z : (wr.cell? ⟨A x.dst, 9, none⟩).isSome = true := by
                            rw [bx.cell 9]
                            have := hB.cs.sz x.dst hxd
                            rw [hk] at this
                            rw [Array.getElem?_eq_getElem (by rw [this]; decide)]; rfl
                          obtain ⟨zu, zv⟩ := Option.isSome_iff_exists.1 z
                          have zf : wr.frozen? ⟨A x.dst, 9, none⟩ = false := bx.free 9
                          have HH : Hid (LpB10 N ab a k R A (.slice (some ⟨q0, 0, none⟩) N.st.length c0) fi gi p (.int .i64 ((j : Int) + 1)) (wr.setCell ⟨A x.dst, 9, none⟩ (.iface 301 (.pointer (some ⟨A p, 0, none⟩))))) := Lib.hid (by
                            refine ⟨j + 1, _, _, by simp, by omega, hd.set (hB.ga.st _ hxd) 9 _, (hB.put hxd hk (.inr (.inr ⟨rfl, rfl⟩)) _ _).congr (fun s => by simp) (fun s hs => ?_) (fun s hs => ?_)⟩
                            · exact .inl hs
                            · rw [et] at hs; simp only [List.mem_append, List.mem_singleton] at hs
                              rcases hs with hs | ⟨y, hy | rfl, rfl⟩
                              · exact .inl (.inl hs)
                              · exact .inl (.inr ⟨y, hy, rfl⟩)
                              · exact .inr ⟨rfl, rfl⟩
                            )
                          clear hd hB bx z
                          go_wp2_with (first | (go_at_call 101; refine (gTgt _ _ _ ctt).mono ?_; rintro e w' ⟨rfl, rfl⟩))
                          exact ⟨HH.out, by simp [intOf]; omega⟩
                        · have t4 := fun a w => taNo173 (kTy_mem (N.kind x.dst)) (kTy_ne hxs.1 hxs.2 (.inr (.inr (.inr ⟨rfl, rfl⟩))) hk) a w
                          have HH : Hid (LpB10 N ab a k R A (.slice (some ⟨q0, 0, none⟩) N.st.length c0) fi gi p (.int .i64 ((j : Int) + 1)) wr) := Lib.hid (by
                            refine ⟨j + 1, gj, fj, by simp, by omega, hd, ⟨hB.ga, hB.cs, hB.bl, hB.rw, hB.fo, hB.e8, hB.n8, fun s hs hks ht => ?_, fun s hs hks ht => ?_⟩⟩
                            · exact hB.e4 s hs hks ht
                            · rw [et] at ht; simp only [List.mem_append, List.mem_singleton] at ht
                              rcases ht with ht | ⟨y, hy | rfl, rfl⟩
                              · exact hB.e10 _ hs hks (.inl ht)
                              · exact hB.e10 _ hs hks (.inr ⟨y, hy, rfl⟩)
                              · exact absurd hks hk
                            )
                          generalize kTy (N.kind x.dst) = TX at *
                          clear hd hB
                          go_wp2_with (first | (go_at_call 101; refine (gTgt _ _ _ ctt).mono ?_; rintro e w' ⟨rfl, rfl⟩))
                          exact ⟨HH.out, by simp [intOf]; omega⟩
                      · have hjl' : ¬ (j : Int) < ((N.out p).length : Int) := by omega
                        have hje : j = (N.out p).length := by omega
                        subst hje
                        have HH : Hid (LpBk N ab a k R A (.slice (some ⟨q0, 0, none⟩) N.st.length c0) fi gi (.int .i64 ((p : Int) + 1)) wr) := Lib.hid (by
                          rw [List.take_of_length_le (Nat.le_refl _)] at hB
                          refine ⟨p + 1, gj, fj, by simp, by omega, hd, hB.congr (fun s => ?_) (fun s hs => ?_) (fun s hs => ?_)⟩
                          · rw [S8p_snoc]; simp [hBB]
                          · rw [S4p_snoc] at hs
                            rcases hs with hs | ⟨h, _⟩
                            · exact hs
                            · omega
                          · rw [S10p_snoc] at hs
                            rcases hs with hs | ⟨_, hs⟩
                            · exact .inl hs
                            · exact .inr hs
                          )
                        clear hd hB
                        go_wp2_with fail
                        exact ⟨HH.out, by simp [intOf]; omega⟩
                  · have t2 := fun a w => taNo291 (kTy_mem (N.kind p)) (kTy_ne k1 k12 (.inl ⟨rfl, rfl⟩) h11) a w
                    have t3 := fun a w => taNo301 (kTy_mem (N.kind p)) (kTy_ne k1 k12 (.inr (.inl ⟨rfl, rfl⟩)) h9) a w
                    have HH : Hid (LpBk N ab a k R A (.slice (some ⟨q0, 0, none⟩) N.st.length c0) fi gi (.int .i64 ((p : Int) + 1)) wr) := Lib.hid (by
                      refine ⟨p + 1, gp, fp, by simp, by omega, D.out, HB.out.congr (fun s => ?_) (fun s hs => ?_) (fun s hs => ?_)⟩
                      · rw [S8p_snoc]; simp [hBB]
                      · rw [S4p_snoc] at hs
                        rcases hs with hs | ⟨h, _⟩
                        · exact hs
                        · omega
                      · rw [S10p_snoc] at hs
                        rcases hs with hs | ⟨h, _⟩
                        · exact hs
                        · omega)
                    clear D HB
                    generalize kTy (N.kind p) = T at *
                    go_wp2_with fail
                    exact ⟨HH.out, by simp [intOf]; omega⟩
            · have hpl' : ¬ (p : Int) < (N.st.length : Int) := by omega
              have hpe : p = N.st.length := by omega
              subst hpe
              have HH := Lib.hid (show RdEd N ab a k R A (.slice (some ⟨q0, 0, none⟩) N.st.length c0) f g (.returned (.tuple #[])) wr from ⟨rfl, gi, fi, tA, gp, fp, hd, HI.out, hB⟩)
              clear hd hB
              go_wp2_with fail
              go_end0
              exact HH.out
end Go.Proofs
end
section
namespace Go.Proofs
open Go.RowKit
open Pl
/-! ## the network that was read -/
structure FinI (N : Bd) (rs : List (Nat × Nat)) (ab : Nat) (A tA : Nat → Nat) (vs : Value) (g : DG) (a : Array Value) (f : Nat → Array Value) : Prop where
  ga : GA N ab a g A vs f
  cs : Cs N A f
  d7 : D7 N f
  tr : ∀ j, j < N.ed.length → ∃ c, g.bl (2 * j + 2) = some ⟨tA j, trB (edA N j).kind, c⟩ ∧ TrC N A (edA N j) c
  rows : ∀ s, s < N.st.length → ∃ v, (f s)[6]? = some v ∧ g.rw (8 + s) = some ⟨275, 1, v, (N.out s).length, (outI N N.ed.length s).map (ifT N tA)⟩
  eps : ∀ s, s < N.st.length → (f s)[2]? = some (.bool (epv N N.ed.length s))
  e8 : ∀ s, s < N.st.length → N.kind s = 8 → ∃ T u, (f s)[7]? = some (.iface T (.pointer (some u)))
  e4 : ∀ s, s < N.st.length → N.kind s = 4 → ∃ T u, (f s)[10]? = some (.iface T (.pointer (some u)))
  e10 : ∀ s, s < N.st.length → N.kind s = 10 → ∃ T u, (f s)[9]? = some (.iface T (.pointer (some u)))
  e2 : ∀ s, s < N.st.length → N.kind s = 2 → ∃ T u, (f s)[7]? = some (.iface T (.pointer (some u)))
  st : RowIs g a 6 2 268 rs.length (P2 A rs rs.length)
theorem FinI.edge {N : Bd} {rs : List (Nat × Nat)} {ab : Nat} {A tA : Nat → Nat} {vs : Value} {g : DG} {a : Array Value} {f : Nat → Array Value} (h : FinI N rs ab A tA vs g a f) {k : DK} {w : World} {R : List Int} (hd : DM k g w R)
    {s : Nat} (hs : s < N.st.length) {v : Value} (hv : (f s)[6]? = some v) {j : Nat} (hj : j < (N.out s).length) :
    ∃ gq cq tb x, v = .slice (some ⟨gq, 0, none⟩) (N.out s).length cq ∧ (j : Int) ≤ (cq : Int) ∧ (N.out s)[j]? = some x ∧ w.cell? ⟨gq, j, none⟩ = some (.iface (trTy x.kind) (.pointer (some ⟨tb, 0, none⟩))) ∧ w.cell? ⟨tb, 0, none⟩ = some (ifA N A x.dst) := by
  obtain ⟨v', h1, h2⟩ := h.rows s hs
  rw [hv] at h1; cases h1
  have hl : (N.out s).length = (outI N N.ed.length s).length := by rw [out_map, List.length_map]
  have o := (hd.rw _ _ h2).1
  simp only at o
  obtain ⟨gq, cq, e, _⟩ := own_form o (by omega)
  subst e
  obtain ⟨i, hi⟩ : ∃ i, (outI N N.ed.length s)[j]? = some i := ⟨(outI N N.ed.length s)[j]'(by omega), by simp⟩
  have him := outI_lt (List.mem_of_getElem? hi)
  obtain ⟨c, h3, h4⟩ := h.tr i him
  refine ⟨gq, cq, tA i, edA N i, rfl, ?_, by rw [out_map, List.getElem?_map, hi]; rfl, ?_, ?_⟩
  · have := own_cap o; omega
  · exact own_cell o _ _ (by rw [List.getElem?_map, hi]; rfl)
  · exact ((hd.bl _ _ h3).1.cell 0).trans h4.t
theorem FinI.row {N : Bd} {rs : List (Nat × Nat)} {ab : Nat} {A tA : Nat → Nat} {vs : Value} {g : DG} {a : Array Value} {f : Nat → Array Value} (h : FinI N rs ab A tA vs g a f) {k : DK} {w : World} {R : List Int} (hd : DM k g w R)
    {s : Nat} (hs : s < N.st.length) : ∃ va vc, (f s)[6]? = some (.slice va (N.out s).length vc) := by
  obtain ⟨v', h1, h2⟩ := h.rows s hs
  have o := (hd.rw _ _ h2).1
  simp only at o
  obtain ⟨va, vc, rfl⟩ := own_slice o
  exact ⟨va, vc, h1⟩
theorem epv_all {N : Bd} {s : Nat} (h : ∀ x ∈ N.out s, x.kind = 1) (hne : N.out s ≠ []) : epv N N.ed.length s = true := by
  rw [out_map] at h hne
  unfold epv
  rw [Bool.and_eq_true]
  constructor
  · cases e : outI N N.ed.length s with
    | nil => rw [e] at hne; simp at hne
    | cons _ _ => rfl
  · rw [List.all_eq_true]
    intro j hj
    simpa using h _ (List.mem_map_of_mem hj)
theorem out_le {N : Bd} (s : Nat) : (N.out s).length ≤ N.ed.length := List.length_filter_le _ _
theorem out_mem {N : Bd} {s j : Nat} {x : LE} (h : (N.out s)[j]? = some x) : x ∈ N.ed := (List.mem_filter.1 (List.mem_of_getElem? h)).1
theorem kTy_inj {k x : Nat} (h1 : 1 ≤ k) (h2 : k ≤ 12) (x1 : 1 ≤ x) (x2 : x ≤ 12) (h : kTy k = kTy x) : k = x := by
  revert h
  refine kd_cases (P := fun k => kTy k = kTy x → k = x) h1 h2 ?_
  refine kd_cases (P := fun x => (kTy 1 = kTy x → 1 = x) ∧ (kTy 2 = kTy x → 2 = x) ∧ (kTy 3 = kTy x → 3 = x) ∧ (kTy 4 = kTy x → 4 = x) ∧ (kTy 5 = kTy x → 5 = x) ∧ (kTy 6 = kTy x → 6 = x) ∧ (kTy 7 = kTy x → 7 = x) ∧ (kTy 8 = kTy x → 8 = x) ∧ (kTy 9 = kTy x → 9 = x) ∧ (kTy 10 = kTy x → 10 = x) ∧ (kTy 11 = kTy x → 11 = x) ∧ (kTy 12 = kTy x → 12 = x)) x1 x2 ?_
  refine ⟨?_, ?_, ?_, ?_, ?_, ?_, ?_, ?_, ?_, ?_, ?_, ?_⟩ <;> decide
theorem kTy_no {k x : Nat} {T : TypeId} (h1 : 1 ≤ k) (h2 : k ≤ 12) (x1 : 1 ≤ x) (x2 : x ≤ 12) (h : k ≠ x) (hT : kTy x = T) : kTy k ≠ T := fun e => h (kTy_inj h1 h2 x1 x2 (e.trans hT.symm))
end Go.Proofs
end
