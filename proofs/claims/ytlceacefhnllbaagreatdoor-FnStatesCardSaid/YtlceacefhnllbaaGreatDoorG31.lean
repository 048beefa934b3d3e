/- A part of the proof of the statement on the law FnStates, which the last text proves: part G31. -/
import Derived.Test.YtlceacefhnllbaaGreatDoorG30
set_option linter.all false
section
namespace Go.Proofs
open Go.RowKit
open Pl
/-! ## edges are laid into the network -/
theorem DM.adopt {k : DK} {g : DG} {w w' : World} {rest : List Int} (h : DM k g w rest) (kk : Kp (fun _ => True) w w') {tb : Nat} {T : TypeId} {c : Array Value} (hn : w.heap.size ≤ tb) (hb : Blk w' tb T c) (i : Nat) :
    DM k ((g.tag tb (.bl i)).setB i ⟨tb, T, c⟩) w' rest := by
  have hx := upT_ext h hn (.bl i)
  have ha := h.keep (kk.weak (fun _ _ => trivial))
  refine ⟨fun j hj => ?_, ?_, ?_, ha.kp, ha.rd, ?_, h.dg, ha.bs⟩
  · simp only [DG.setB_tg, DG.tag_tg] at hj
    by_cases e : j = tb
    · subst e
      exact ⟨Nat.le_trans h.bs hn, hb.lt⟩
    · refine ⟨(ha.lo j ?_).1, (ha.lo j ?_).2⟩ <;> simpa [upT, e] using hj
  · intro i' b hb'
    simp only [DG.setB_bl, DG.setB_tg, DG.tag_tg, DG.tag_bl] at hb' ⊢
    by_cases e : i' = i
    · subst e
      rw [upO_self] at hb'
      cases hb'
      exact ⟨hb, by simp [upT]⟩
    · rw [upO_ne _ _ e] at hb'
      obtain ⟨h1, h2⟩ := ha.bl i' b hb'
      exact ⟨h1, by rw [hx _ (by rw [h2]; nofun), h2]⟩
  · intro i' r hr
    obtain ⟨h1, h2⟩ := ha.rw i' r hr
    exact ⟨h1, fun j hj => by
      have := h2 j hj
      show upT g.tg _ _ j = _
      rw [hx _ (by rw [this]; nofun), this]⟩
  · show upT g.tg _ _ k.db = _
    rw [hx _ (by rw [h.ds]; nofun), h.ds]
/-- The states' rows of edges: empty, all of them. -/
def DG.rows8 (g : DG) : DG := { g with rw := fun i => if 8 ≤ i then some ⟨275, 1, .slice none 0 0, 0, []⟩ else g.rw i }
theorem DM.rows8 {k : DK} {g : DG} {w : World} {rest : List Int} (h : DM k g w rest) : DM k g.rows8 w rest where
  lo := h.lo
  bl := h.bl
  rw := fun i' r hr => by
    simp only [DG.rows8] at hr ⊢
    split at hr
    · cases hr
      exact ⟨⟨by simp, .inl ⟨rfl, rfl⟩⟩, fun j hj => by cases hj⟩
    · exact h.rw i' r hr
  kp := h.kp
  rd := h.rd
  ds := h.ds
  dg := h.dg
  bs := h.bs
def trB (k : Nat) : TypeId := if k = 1 then 369 else if k = 2 then 415 else 422
structure TrC (N : Bd) (A : Nat → Nat) (x : LE) (c : Array Value) : Prop where
  t : c[0]? = some (ifA N A x.dst)
  e : c[1]? = some (.bool (decide (x.kind = 1)))
  s : c[4]? = some (.int .i64 x.kind)
  a : x.kind = 5 → c[2]? = some (.int .i64 x.a1)
  r : x.kind = 2 → c[5]? = some (.int .i64 x.a1) ∧ c[6]? = some (.int .i64 x.a2)
def EfRet (N : Bd) (A : Nat → Nat) (k : DK) (R : List Int) (g : DG) (i : Nat) (x : LE) (e : Ending) (w' : World) : Prop :=
  ∃ tb c g', e = .returned (.iface (trTy x.kind) (.pointer (some ⟨tb, 0, none⟩))) ∧ DM k g' w' R ∧ g'.bl = upO g.bl i ⟨tb, trB x.kind, c⟩ ∧ g'.rw = g.rw ∧ TrC N A x c
theorem EfRet.of {N : Bd} {A : Nat → Nat} {k : DK} {R : List Int} {g : DG} {i : Nat} {x : LE} {w w' : World} (h : DM k g w R) (kk : Kp (fun _ => True) w w') {tb : Nat} {T : TypeId} {c : Array Value} (hn : w.heap.size ≤ tb) (hb : Blk w' tb T c) {e : Ending}
    (he : e = .returned (.iface (trTy x.kind) (.pointer (some ⟨tb, 0, none⟩)))) (hT : T = trB x.kind) (hc : TrC N A x c) : EfRet N A k R g i x e w' := by
  subst hT
  exact ⟨tb, c, _, he, h.adopt kk hn hb i, rfl, rfl, hc⟩
set_option maxRecDepth 100000 in
set_option maxHeartbeats 1000000 in
theorem edf_any {N : Bd} {k : DK} {g : DG} {w : World} {R : List Int} {ab : Nat} {a : Array Value} {A : Nat → Nat} {vs : Value} {f : Nat → Array Value} (h : DM k g w R) (ga : GA N ab a g A vs f) (i : Nat) (x : LE) (hk : x.kind = 1 ∨ x.kind = 2 ∨ x.kind = 5) (hd : x.dst < N.st.length) (src : Int) :
    Calls Tryz.prog 100 #[.pointer (some ⟨k.db, 0, none⟩), .pointer (some ⟨ab, 0, none⟩), .int .i64 x.kind, .int .i64 src, .int .i64 x.dst, .int .i64 x.a1, .int .i64 x.a2, .int .i64 0, .slice none 0 0] w fun e w' => EfRet N A k R g i x e w' := by
  have D := Lib.hid h
  have o0 := (h.rw 0 _ ga.a2).1
  simp only at o0
  obtain ⟨q0, c0, hq0, _⟩ := own_form o0 (by omega)
  subst hq0
  have hc0 : (N.st.length : Int) ≤ (c0 : Int) := by have := own_cap o0; omega
  have hdi : (x.dst : Int) < (N.st.length : Int) := by omega
  have c9 : w.cell? ⟨ab, 9, none⟩ = some (.slice (some ⟨q0, 0, none⟩) N.st.length c0) := ((h.bl 0 _ ga.a1).1.cell 9).trans ga.a9
  have cs : w.cell? ⟨q0, x.dst, none⟩ = some (ifA N A x.dst) := own_cell o0 _ _ (by simp [hd])
  obtain ⟨y, hy⟩ : ∃ y, ifA N A x.dst = .iface (kTy (N.kind x.dst)) (.pointer (some y)) := ⟨_, rfl⟩
  have HY := Lib.hid hy
  rw [hy] at cs
  obtain ⟨xs, xd, xk, xa, xb⟩ := x
  simp only at *
  clear h ga o0 hy
  rcases hk with rfl | rfl | rfl
  · go_enter Tryz.func100, Tryz.ntmps100
    go_wp2_with (first | (go_at_call 102; refine (newEp_any _ _ _ _).mono ?_; rintro e w2 ⟨rfl, hw⟩; have HW := Lib.hid hw; clear hw))
    go_ret
    exact EfRet.of D.out (by rw [HW.out]; exact Kp.alloc _ _) (Nat.le_refl _) (by rw [HW.out]; exact Blk.new _ _ _) rfl rfl ⟨by rw [HY.out]; rfl, rfl, rfl, fun h => (by cases h), fun h => (by cases h)⟩
  · go_enter Tryz.func100, Tryz.ntmps100
    go_wp2_with (first | (go_at_call 142; refine (newRa_any _ _ _ _ _).mono ?_; rintro e w2 ⟨tb, iv, rfl, ht1, ht2, ht3⟩; have T1 := Lib.hid ht1; have T2 := Lib.hid ht2; have T3 := Lib.hid ht3; clear ht1 ht2 ht3))
    go_ret
    exact EfRet.of D.out T3.out T1.out T2.out rfl rfl ⟨by rw [HY.out]; rfl, rfl, rfl, fun h => (by cases h), fun _ => ⟨rfl, rfl⟩⟩
  · go_enter Tryz.func100, Tryz.ntmps100
    go_wp2_with (first | (go_at_call 146; refine (newAt_any _ _ _ _).mono ?_; rintro e w2 ⟨tb, iv, rfl, ht1, ht2, ht3⟩; have T1 := Lib.hid ht1; have T2 := Lib.hid ht2; have T3 := Lib.hid ht3; clear ht1 ht2 ht3))
    go_ret
    exact EfRet.of D.out T3.out T1.out T2.out rfl rfl ⟨by rw [HY.out]; rfl, rfl, rfl, fun _ => rfl, fun h => (by cases h)⟩
theorem info275 : (Tryz.prog.info? 275).map (fun i => (i.zero, i.size, i.bytes)) = some (some .nilIface, 1, 16) := by kernel_rfl
/-- What a state's edge leaves. -/
def AtRet (k : DK) (R : List Int) (g : DG) (i ri sb : Nat) (T : TypeId) (c : Array Value) (n : Nat) (xs : List Value) (u : Value) (ep b : Bool) (e : Ending) (w' : World) : Prop :=
  e = .returned (.tuple #[]) ∧ ∃ g' c' gg cap, DM k g' w' R ∧ g'.bl = upO g.bl i ⟨sb, T, c'⟩ ∧ g'.rw = upO g.rw ri ⟨275, 1, .slice (some ⟨gg, 0, none⟩) (n + 1) cap, n + 1, xs ++ [u]⟩ ∧
    c'[6]? = some (.slice (some ⟨gg, 0, none⟩) (n + 1) cap) ∧ c'[2]? = some (.bool (if n = 0 then b else ep && b)) ∧ c'.size = c.size ∧ ∀ j, j ≠ 2 → j ≠ 6 → c'[j]? = c[j]?
structure AtMid (k : DK) (R : List Int) (g : DG) (i sb : Nat) (T : TypeId) (c : Array Value) (v : Value) (eb : Bool) (w : World) (g1 : DG) (c1 : Array Value) : Prop where
  d : DM k g1 w R
  b : g1.bl = upO g.bl i ⟨sb, T, c1⟩
  r : g1.rw = g.rw
  c6 : c1[6]? = some v
  c2 : c1[2]? = some (.bool eb)
  sz : c1.size = c.size
  o : ∀ j, j ≠ 2 → j ≠ 6 → c1[j]? = c[j]?
theorem AtMid.set {k : DK} {R : List Int} {g : DG} {i sb : Nat} {T : TypeId} {c : Array Value} {v : Value} {w : World} (h : DM k g w R) (hb : g.bl i = some ⟨sb, T, c⟩) (h6 : c[6]? = some v) (eb : Bool) (h2 : (c[2]?).isSome = true) :
    ∃ g1 c1, AtMid k R g i sb T c v eb (w.setCell ⟨sb, 2, none⟩ (.bool eb)) g1 c1 := by
  have hl : 2 < c.size := by
    obtain ⟨u, hu⟩ := Option.isSome_iff_exists.1 h2
    exact (Array.getElem?_eq_some_iff.1 hu).1
  refine ⟨_, _, h.set hb 2 (.bool eb), rfl, rfl, ?_, ?_, by simp, fun j h2 _ => Array.getElem?_setIfInBounds_ne (fun e => h2 e.symm)⟩
  · rw [Array.getElem?_setIfInBounds_ne (by omega)]; exact h6
  · rw [Array.getElem?_setIfInBounds_self_of_lt hl]
theorem AtMid.keep {k : DK} {R : List Int} {g : DG} {i sb : Nat} {T : TypeId} {c : Array Value} {v : Value} {w : World} (h : DM k g w R) (hb : g.bl i = some ⟨sb, T, c⟩) (h6 : c[6]? = some v) {eb : Bool} (h2 : c[2]? = some (.bool eb)) :
    ∃ g1 c1, AtMid k R g i sb T c v eb w g1 c1 := by
  refine ⟨g, c, h, ?_, rfl, h6, h2, rfl, fun _ _ _ => rfl⟩
  funext j
  by_cases e : j = i
  · subst e; rw [upO_self, hb]
  · rw [upO_ne _ _ e]
theorem AtRet.of {k : DK} {R : List Int} {g : DG} {i ri sb n gg cap : Nat} {T : TypeId} {c : Array Value} {v : Value} {eb : Bool} {W1 w3 : World} {g1 : DG} {c1 : Array Value} {xs ys : List Value} {u : Value} {e : Ending} (hm : AtMid k R g i sb T c v eb W1 g1 c1)
    (hd : DM k ((g1.tag gg (.row ri)).setR ri ⟨275, 1, .slice (some ⟨gg, 0, none⟩) (n + 1) cap, n + 1, ys⟩) w3 R) (he : e = .returned (.tuple #[])) (hy : ys = xs ++ [u]) :
    e = .returned (.tuple #[]) ∧ ∃ g' c' gg' cap', DM k g' (w3.setCell ⟨sb, 6, none⟩ (.slice (some ⟨gg, 0, none⟩) (n + 1) cap)) R ∧ g'.bl = upO g.bl i ⟨sb, T, c'⟩ ∧ g'.rw = upO g.rw ri ⟨275, 1, .slice (some ⟨gg', 0, none⟩) (n + 1) cap', n + 1, xs ++ [u]⟩ ∧
    c'[6]? = some (.slice (some ⟨gg', 0, none⟩) (n + 1) cap') ∧ c'[2]? = some (.bool eb) ∧ c'.size = c.size ∧ ∀ j, j ≠ 2 → j ≠ 6 → c'[j]? = c[j]? := by
  subst hy
  have hb3 : ((g1.tag gg (.row ri)).setR ri ⟨275, 1, .slice (some ⟨gg, 0, none⟩) (n + 1) cap, n + 1, xs ++ [u]⟩).bl i = some ⟨sb, T, c1⟩ := by
    rw [DG.setR_bl, DG.tag_bl, hm.b, upO_self]
  refine ⟨he, _, c1.setIfInBounds 6 (.slice (some ⟨gg, 0, none⟩) (n + 1) cap), gg, cap, hd.set hb3 6 (.slice (some ⟨gg, 0, none⟩) (n + 1) cap), ?_, ?_, ?_, ?_, ?_, fun j h2 h6 => ?_⟩
  · simp only [DG.setB_bl, DG.setR_bl, DG.tag_bl, hm.b, upO2]
  · simp only [DG.setB_rw, DG.setR_rw, DG.tag_rw, hm.r]
  · rw [Array.getElem?_setIfInBounds_self_of_lt (Array.getElem?_eq_some_iff.1 hm.c6).1]
  · rw [Array.getElem?_setIfInBounds_ne (by omega)]; exact hm.c2
  · simp [hm.sz]
  · rw [Array.getElem?_setIfInBounds_ne (fun e => h6 e.symm)]; exact hm.o j h2 h6
set_option maxRecDepth 100000 in
set_option maxHeartbeats 1000000 in
theorem addT_any {k : DK} {g : DG} {w : World} {R : List Int} (h : DM k g w R) {i ri sb n j tb : Nat} {T TT tT : TypeId} {c tc : Array Value} {va : Option Addr} {vc : Nat} {xs : List Value} {ep b : Bool}
    (hb : g.bl i = some ⟨sb, T, c⟩) (h6 : c[6]? = some (.slice va n vc)) (h2 : c[2]? = some (.bool ep)) (hr : g.rw ri = some ⟨275, 1, .slice va n vc, n, xs⟩) (hT : TT ∈ trTypes)
    (ht : g.bl j = some ⟨tb, tT, tc⟩) (ht1 : tc[1]? = some (.bool b)) (hn : n ≤ 1000000) :
    Calls Tryz.prog 103 #[.pointer (some ⟨sb, 0, none⟩), .iface TT (.pointer (some ⟨tb, 0, none⟩)), .int .i64 (-1)] w fun e w' => AtRet k R g i ri sb T c n xs (.iface TT (.pointer (some ⟨tb, 0, none⟩))) ep b e w' := by
  have D := Lib.hid h
  have HB := Lib.hid hb
  have HR := Lib.hid hr
  have d1 := fun a w => dIsE hT a w
  have b1 := (h.bl _ _ hb).1
  have c6 : w.cell? ⟨sb, 6, none⟩ = some (.slice va n vc) := (b1.cell 6).trans h6
  have c2 : w.cell? ⟨sb, 2, none⟩ = some (.bool ep) := (b1.cell 2).trans h2
  have c2f : w.frozen? ⟨sb, 2, none⟩ = false := b1.free 2
  have t1 : w.cell? ⟨tb, 1, none⟩ = some (.bool b) := ((h.bl _ _ ht).1.cell 1).trans ht1
  have H6 := Lib.hid h6
  have H2 := Lib.hid h2
  clear h hb hr b1 ht ht1 h6 h2
  obtain ⟨i2, hi2, hy0, hy1, hy2⟩ := info_parts info275
  have fin : ∀ W g1 c1, AtMid k R g i sb T c (.slice va n vc) (if n = 0 then b else ep && b) W g1 c1 → W.cell? ⟨sb, 6, none⟩ = some (.slice va n vc) ∧ W.ownsRow k.base 275 1 (.slice va n vc) n xs := by
    intro W g1 c1 hm
    exact ⟨((hm.d.bl i _ (by rw [hm.b, upO_self])).1.cell 6).trans hm.c6, (hm.d.rw ri _ (by rw [hm.r]; exact HR.out)).1⟩
  have FN := Lib.hid fin
  clear fin
  by_cases hn0 : n = 0
  · obtain ⟨g1, c1, hm⟩ := AtMid.set D.out HB.out H6.out (if n = 0 then b else ep && b) (by rw [H2.out]; rfl)
    have HM := Lib.hid hm
    rw [if_pos hn0] at HM
    have FN : Hid (∀ W g1 c1, AtMid k R g i sb T c (.slice va n vc) b W g1 c1 → W.cell? ⟨sb, 6, none⟩ = some (.slice va n vc) ∧ W.ownsRow k.base 275 1 (.slice va n vc) n xs) := by rw [if_pos hn0] at FN; exact FN
    have AR : (if n = 0 then b else ep && b) = b := if_pos hn0
    clear hm
    have hni : (n : Int) = 0 := by omega
    have HN := Lib.hid hn0
    clear hn0
    unfold AtRet
    rw [AR]
    clear AR
    go_enter Tryz.func103, Tryz.ntmps103
    go_upto_region 4 with (first | (go_at_call 299; refine (gIsE _ _ _ t1).mono ?_; rintro e w1 ⟨rfl, rfl⟩))
    generalize w.setCell ⟨sb, 2, none⟩ (.bool b) = W1 at HM ⊢
    have cw6 := (FN.out _ _ _ HM.out).1
    have OW := Lib.hid (FN.out _ _ _ HM.out).2
    clear c6 c2 c2f t1
    go_wp2_with (first | (at_builtin; refine wpList_append_lies _ rfl _ _ 176 rfl k.base 275 i2 _ 1 16 Tryz.underlying176 hi2 hy0 hy1 hy2 rfl (by omega) (.slice va n vc) n xs rfl (OW.out.alloc _) ⟨W1.heap.size, 0, none⟩ 1 1 [.iface TT (.pointer (some ⟨tb, 0, none⟩))] rfl rfl (World.news_of_block (cs := #[.iface TT (.pointer (some ⟨tb, 0, none⟩))]) (t := 275) (fr := (0, 0)) (heap_alloc_new W1 _)) (by simp [Value.oneCell']) (by omega) (by simp [maxLen]; omega) (by omega) (by simp; exact Nat.le_succ_of_le HM.out.d.bs) (W1.heap.size + 1) (by simp) ?_; intro gg cap w3 hown hgrow hat hlt; have k3 : Kp (fun q => some q ≠ (Value.slice va n vc).ownBlock) W1 w3 := (Kp.alloc _ _).trans (Kp.grown hgrow (fun q hq => hq)); have D3 := Lib.hid (HM.out.d.putR (i := ri) hown k3 (HM.out.d.rw ri _ (by rw [HM.out.r]; exact HR.out)).2 (hat.imp id (fun e => by omega))); clear hown hgrow hat hlt k3; have a3 : Blk w3 sb T c1 := (D3.out.bl i _ (by rw [DG.setR_bl, DG.tag_bl, HM.out.b, upO_self])).1; have a6 : w3.cell? ⟨sb, 6, none⟩ = some (.slice va n vc) := (a3.cell 6).trans HM.out.c6; have a6f : w3.frozen? ⟨sb, 6, none⟩ = false := a3.free 6; clear a3))
    go_end0
    exact AtRet.of HM.out D3.out rfl rfl
  · have hni : ¬ (n : Int) = 0 := by omega
    have AR : (if n = 0 then b else ep && b) = (ep && b) := if_neg hn0
    have FN : Hid (∀ W g1 c1, AtMid k R g i sb T c (.slice va n vc) (ep && b) W g1 c1 → W.cell? ⟨sb, 6, none⟩ = some (.slice va n vc) ∧ W.ownsRow k.base 275 1 (.slice va n vc) n xs) := by rw [AR] at FN; exact FN
    unfold AtRet
    rw [AR]
    clear AR
    by_cases hb : ep = b
    · subst hb
      go_enter Tryz.func103, Tryz.ntmps103
      go_upto_region 2 with fail
      go_quiet ((go_at_call 299; exact Calls.quietS (gIsE _ _ _ (show World.cell? (World.drewN _ _) _ = _ from t1))))
      go_upto_region 4 with fail
      obtain ⟨g1, c1, hm⟩ := AtMid.keep (D.out.drewN nq) HB.out H6.out (eb := ep && ep) (by rw [H2.out]; simp)
      have HM := Lib.hid hm
      clear hm
      generalize w.drewN nq = W1 at HM ⊢
      have cw6 := (FN.out _ _ _ HM.out).1
      have OW := Lib.hid (FN.out _ _ _ HM.out).2
      clear c6 c2 c2f t1
      go_wp2_with (first | (at_builtin; refine wpList_append_lies _ rfl _ _ 176 rfl k.base 275 i2 _ 1 16 Tryz.underlying176 hi2 hy0 hy1 hy2 rfl (by omega) (.slice va n vc) n xs rfl (OW.out.alloc _) ⟨W1.heap.size, 0, none⟩ 1 1 [.iface TT (.pointer (some ⟨tb, 0, none⟩))] rfl rfl (World.news_of_block (cs := #[.iface TT (.pointer (some ⟨tb, 0, none⟩))]) (t := 275) (fr := (0, 0)) (heap_alloc_new W1 _)) (by simp [Value.oneCell']) (by omega) (by simp [maxLen]; omega) (by omega) (by simp; exact Nat.le_succ_of_le HM.out.d.bs) (W1.heap.size + 1) (by simp) ?_; intro gg cap w3 hown hgrow hat hlt; have k3 : Kp (fun q => some q ≠ (Value.slice va n vc).ownBlock) W1 w3 := (Kp.alloc _ _).trans (Kp.grown hgrow (fun q hq => hq)); have D3 := Lib.hid (HM.out.d.putR (i := ri) hown k3 (HM.out.d.rw ri _ (by rw [HM.out.r]; exact HR.out)).2 (hat.imp id (fun e => by omega))); clear hown hgrow hat hlt k3; have a3 : Blk w3 sb T c1 := (D3.out.bl i _ (by rw [DG.setR_bl, DG.tag_bl, HM.out.b, upO_self])).1; have a6 : w3.cell? ⟨sb, 6, none⟩ = some (.slice va n vc) := (a3.cell 6).trans HM.out.c6; have a6f : w3.frozen? ⟨sb, 6, none⟩ = false := a3.free 6; clear a3))
      go_end0
      exact AtRet.of HM.out D3.out rfl rfl
    · have hbn : (ep && b) = false := by cases ep <;> cases b <;> simp_all
      have hx : (!(ep == b)) = true := by cases ep <;> cases b <;> simp_all
      rw [hbn]
      have FN : Hid (∀ W g1 c1, AtMid k R g i sb T c (.slice va n vc) false W g1 c1 → W.cell? ⟨sb, 6, none⟩ = some (.slice va n vc) ∧ W.ownsRow k.base 275 1 (.slice va n vc) n xs) := by rw [hbn] at FN; exact FN
      go_enter Tryz.func103, Tryz.ntmps103
      go_upto_region 2 with fail
      go_quiet ((go_at_call 299; exact Calls.quietS (gIsE _ _ _ (show World.cell? (World.drewN _ _) _ = _ from t1))))
      have c2' : (w.drewN nq).cell? ⟨sb, 2, none⟩ = some (.bool ep) := c2
      have c2f' : (w.drewN nq).frozen? ⟨sb, 2, none⟩ = false := c2f
      go_upto_region 4 with fail
      obtain ⟨g1, c1, hm⟩ := AtMid.set (D.out.drewN nq) HB.out H6.out false (by rw [H2.out]; rfl)
      have HM := Lib.hid hm
      clear hm c2' c2f'
      generalize (w.drewN nq).setCell ⟨sb, 2, none⟩ (.bool false) = W1 at HM ⊢
      have cw6 := (FN.out _ _ _ HM.out).1
      have OW := Lib.hid (FN.out _ _ _ HM.out).2
      clear c6 c2 c2f t1
      go_wp2_with (first | (at_builtin; refine wpList_append_lies _ rfl _ _ 176 rfl k.base 275 i2 _ 1 16 Tryz.underlying176 hi2 hy0 hy1 hy2 rfl (by omega) (.slice va n vc) n xs rfl (OW.out.alloc _) ⟨W1.heap.size, 0, none⟩ 1 1 [.iface TT (.pointer (some ⟨tb, 0, none⟩))] rfl rfl (World.news_of_block (cs := #[.iface TT (.pointer (some ⟨tb, 0, none⟩))]) (t := 275) (fr := (0, 0)) (heap_alloc_new W1 _)) (by simp [Value.oneCell']) (by omega) (by simp [maxLen]; omega) (by omega) (by simp; exact Nat.le_succ_of_le HM.out.d.bs) (W1.heap.size + 1) (by simp) ?_; intro gg cap w3 hown hgrow hat hlt; have k3 : Kp (fun q => some q ≠ (Value.slice va n vc).ownBlock) W1 w3 := (Kp.alloc _ _).trans (Kp.grown hgrow (fun q hq => hq)); have D3 := Lib.hid (HM.out.d.putR (i := ri) hown k3 (HM.out.d.rw ri _ (by rw [HM.out.r]; exact HR.out)).2 (hat.imp id (fun e => by omega))); clear hown hgrow hat hlt k3; have a3 : Blk w3 sb T c1 := (D3.out.bl i _ (by rw [DG.setR_bl, DG.tag_bl, HM.out.b, upO_self])).1; have a6 : w3.cell? ⟨sb, 6, none⟩ = some (.slice va n vc) := (a3.cell 6).trans HM.out.c6; have a6f : w3.frozen? ⟨sb, 6, none⟩ = false := a3.free 6; clear a3))
      go_end0
      exact AtRet.of HM.out D3.out rfl rfl
end Go.Proofs
end
section
namespace Go.Proofs
open Go.RowKit
open Pl
/-! ## what is known of the networks of good rules, as reading wants it -/
structure VOk (N : Bd) : Prop where
  ed : ∀ x ∈ N.ed, x.src < N.st.length ∧ x.dst < N.st.length ∧ (x.kind = 1 ∨ x.kind = 2 ∨ x.kind = 5) ∧ (x.kind ≠ 1 → 0 ≤ x.a1)
  v1 : ∀ s, s < N.st.length → (∀ x ∈ N.out s, x.kind = 1) ∨ (N.out s).length ≤ 1
  v9 : ∀ s, s < N.st.length → N.kind s ≠ 7 → N.out s ≠ []
  pb : ∀ s, s < N.st.length → N.kind s = 4 → ∃ p, p < N.st.length ∧ N.kind p = 11 ∧ ∃ x ∈ N.out p, x.dst = s
  se : ∀ s, s < N.st.length → N.kind s = 10 → ∃ e1 e2, N.out s = [e1, e2] ∧ N.kind e1.dst = 5 ∧ N.kind e2.dst = 12
  sb : ∀ s, s < N.st.length → N.kind s = 10 → ∃ p, p < N.st.length ∧ N.kind p = 9 ∧ ∃ x ∈ N.out p, x.dst = s
  bk : ∀ s, s < N.st.length → N.kind s = 9 → ∃ e, N.out s = [e] ∧ N.kind e.dst = 10
  be : ∀ s, s < N.st.length → N.kind s = 8 → ∃ p, p < N.st.length ∧ isB N p = true ∧ (lsA N p).arg = s
  bi : ∀ p q, p < N.st.length → q < N.st.length → isB N p = true → isB N q = true → (lsA N p).arg = (lsA N q).arg → p = q
  on : ∀ s, s < N.st.length → N.kind s = 1 → (N.out s).length ≤ 1
theorem lsA_of {N : Bd} {s : Nat} {x : LS} (h : N.st[s]? = some x) : lsA N s = x := by simp [lsA, List.getD, h]
theorem kind_of {N : Bd} {s : Nat} {x : LS} (h : N.st[s]? = some x) : N.kind s = x.kind := by simp [Bd.kind, List.getD, h]
theorem mem_out {N : Bd} {x : LE} (h : x ∈ N.ed) : x ∈ N.out x.src := by simp [Bd.out, h]
/-- Of each state but the first: what it is. -/
theorem NetG.at {N : Bd} {ss : List Nat} {nr : Nat} (g : NetG N ss nr) {s : Nat} (h1 : 1 ≤ s) (h2 : s < N.st.length) : ∃ x, N.st[s]? = some x ∧ OkS N nr s x := g.ok.ok s h1 h2
theorem kok {es : List Ex} (gl : GoodL es) : KOk (compile es).1 := by
  have g := netG gl
  have hf := tot_compile gl
  unfold tot at hf
  refine ⟨fun s hs => ?_, fun s hs hk => ?_, fun s hs hk => ?_, by omega⟩
  · by_cases h0 : s = 0
    · subst h0; rw [kind_of g.first]; decide
    · obtain ⟨x, hx, ho⟩ := NetG.at g (by omega) hs
      rw [kind_of hx]
      cases ho with
      | block r k ds h1 hk => simp only; omega
      | _ => simp
  · have h0 : s ≠ 0 := by rintro rfl; rw [kind_of g.first] at hk; cases hk
    obtain ⟨x, hx, ho⟩ := NetG.at g (by omega) hs
    rw [kind_of hx] at hk
    rw [lsA_of hx]
    cases ho with
    | loopEnd r a d h1 h2 => exact h2
    | block r k ds h1 hk' => simp only at hk; omega
    | _ => simp at hk
  · have h0 : s ≠ 0 := by rintro rfl; unfold isB at hk; rw [kind_of g.first] at hk; simp at hk
    obtain ⟨x, hx, ho⟩ := NetG.at g (by omega) hs
    unfold isB at hk
    rw [kind_of hx] at hk
    rw [lsA_of hx]
    cases ho with
    | block r k ds h1 hk' h3 => exact ⟨st_lt h3, kind_of h3⟩
    | plusBlock r j ds h1 h3 => exact ⟨st_lt h3, kind_of h3⟩
    | _ => simp at hk
theorem isB_at {es : List Ex} (gl : GoodL es) {s : Nat} (hs : s < (compile es).1.st.length) (hk : isB (compile es).1 s = true) : (lsA (compile es).1 s).arg = s + 1 := by
  have g := netG gl
  have h0 : s ≠ 0 := by rintro rfl; unfold isB at hk; rw [kind_of g.first] at hk; simp at hk
  obtain ⟨x, hx, ho⟩ := NetG.at g (by omega) hs
  unfold isB at hk
  rw [kind_of hx] at hk
  rw [lsA_of hx]
  cases ho with
  | block r k ds h1 hk' h3 => rfl
  | plusBlock r j ds h1 h3 => rfl
  | _ => simp at hk
theorem vok {es : List Ex} (gl : GoodL es) : VOk (compile es).1 := by
  have g := netG gl
  have h0k : (compile es).1.kind 0 = 6 := kind_of g.first
  have ne0 : ∀ {s k : Nat}, (compile es).1.kind s = k → k ≠ 6 → 1 ≤ s := by
    intro s k h h1
    rcases Nat.eq_zero_or_pos s with rfl | h2
    · omega
    · exact h2
  refine ⟨fun x hx => ?_, fun s hs => ?_, fun s hs hk => ?_, fun s hs hk => ?_, fun s hs hk => ?_, fun s hs hk => ?_, fun s hs hk => ?_, fun s hs hk => ?_, fun p q hp hq h1 h2 h3 => ?_, fun s hs hk => ?_⟩
  · have hsrc := g.src x hx
    have hm := mem_out hx
    refine ⟨hsrc, (g.ok.dst _ x hm).1, ?_⟩
    by_cases h0 : x.src = 0
    · rw [h0, g.out0] at hm
      obtain ⟨d, _, e⟩ := List.mem_map.1 hm
      rw [← e]; simp
    · obtain ⟨y, hy, ho⟩ := NetG.at g (s := x.src) (by omega) hsrc
      have one : ∀ {i d : Nat}, x = epsE i d → (x.kind = 1 ∨ x.kind = 2 ∨ x.kind = 5) ∧ (x.kind ≠ 1 → 0 ≤ x.a1) := by rintro i d rfl; simp
      generalize x.src = i at *
      cases ho with
      | chars r d a b h1 h2 h3 h4 h5 h6 =>
        rw [h2] at hm; simp at hm; rw [hm]; unfold chrE; split <;> simp <;> omega
      | basic r d h1 h2 => rw [h2] at hm; simp at hm; exact one hm
      | ruleStart r d h1 h2 => rw [h2] at hm; simp at hm; exact one hm
      | block r k ds h1 h2 h3 h4 => rw [h4] at hm; obtain ⟨d, _, e⟩ := List.mem_map.1 hm; exact one e.symm
      | plusBlock r j ds h1 h2 h3 => rw [h3] at hm; obtain ⟨d, _, e⟩ := List.mem_map.1 hm; exact one e.symm
      | ruleStop r j h1 h2 => rw [h2] at hm; simp at hm
      | blockEnd r j k d h1 h2 => rw [h2] at hm; simp at hm; exact one hm
      | starBack r j h1 h2 h3 => rw [h3] at hm; simp at hm; exact one hm
      | starEntry r j h1 h2 h3 => rw [h3] at hm; simp at hm; rcases hm with hm | hm <;> exact one hm
      | plusBack r j a h1 h2 h3 => rw [h3] at hm; simp at hm; rcases hm with hm | hm <;> exact one hm
      | loopEnd r a d h1 h2 h3 => rw [h3] at hm; simp at hm; exact one hm
  · by_cases h0 : s = 0
    · subst h0
      left; intro x hx; rw [g.out0] at hx; obtain ⟨d, _, rfl⟩ := List.mem_map.1 hx; rfl
    · obtain ⟨y, hy, ho⟩ := NetG.at g (s := s) (by omega) hs
      cases ho with
      | chars r d a b h1 h2 => right; rw [h2]; simp
      | basic r d h1 h2 => right; rw [h2]; simp
      | ruleStart r d h1 h2 => right; rw [h2]; simp
      | block r k ds h1 h2 h3 h4 => left; intro x hx; rw [h4] at hx; obtain ⟨d, _, rfl⟩ := List.mem_map.1 hx; rfl
      | plusBlock r j ds h1 h2 h3 => left; intro x hx; rw [h3] at hx; obtain ⟨d, _, rfl⟩ := List.mem_map.1 hx; rfl
      | ruleStop r j h1 h2 => right; rw [h2]; simp
      | blockEnd r j k d h1 h2 => right; rw [h2]; simp
      | starBack r j h1 h2 h3 => right; rw [h3]; simp
      | starEntry r j h1 h2 h3 => left; intro x hx; rw [h3] at hx; simp at hx; rcases hx with rfl | rfl <;> rfl
      | plusBack r j a h1 h2 h3 => left; intro x hx; rw [h3] at hx; simp at hx; rcases hx with rfl | rfl <;> rfl
      | loopEnd r a d h1 h2 h3 => right; rw [h3]; simp
  · by_cases h0 : s = 0
    · subst h0
      rw [g.out0]
      intro e
      have h1 := g.len
      have h2 := gl.pos
      simp at e
      rw [e] at h1; simp at h1; omega
    · obtain ⟨y, hy, ho⟩ := NetG.at g (s := s) (by omega) hs
      rw [kind_of hy] at hk
      cases ho with
      | chars r d a b h1 h2 => rw [h2]; simp
      | basic r d h1 h2 => rw [h2]; simp
      | ruleStart r d h1 h2 => rw [h2]; simp
      | block r k ds h1 h2 h3 h4 h5 => rw [h4]; simpa using h5
      | plusBlock r j ds h1 h2 h3 h5 => rw [h3]; simpa using h5
      | ruleStop r j h1 h2 => simp at hk
      | blockEnd r j k d h1 h2 => rw [h2]; simp
      | starBack r j h1 h2 h3 => rw [h3]; simp
      | starEntry r j h1 h2 h3 => rw [h3]; simp
      | plusBack r j a h1 h2 h3 => rw [h3]; simp
      | loopEnd r a d h1 h2 h3 => rw [h3]; simp
  · obtain ⟨y, hy, ho⟩ := NetG.at g (s := s) (ne0 hk (by omega)) hs
    rw [kind_of hy] at hk
    cases ho with
    | plusBlock r j ds h1 h2 h3 h4 h5 h6 h7 h8 => exact ⟨j + 1, st_lt h7, kind_of h7, epsE (j + 1) s, by rw [h8]; simp, rfl⟩
    | block r k ds h1 h2 => simp at hk; omega
    | _ => simp at hk
  · obtain ⟨y, hy, ho⟩ := NetG.at g (s := s) (ne0 hk (by omega)) hs
    rw [kind_of hy] at hk
    cases ho with
    | starEntry r j h1 h2 h3 h4 h5 h6 h7 => exact ⟨_, _, h3, kind_of h4, kind_of h5⟩
    | block r k ds h1 h2 => simp at hk; omega
    | _ => simp at hk
  · obtain ⟨y, hy, ho⟩ := NetG.at g (s := s) (ne0 hk (by omega)) hs
    rw [kind_of hy] at hk
    cases ho with
    | starEntry r j h1 h2 h3 h4 h5 h6 h7 => exact ⟨s + 1, st_lt h6, kind_of h6, epsE (s + 1) s, by rw [h7]; simp, rfl⟩
    | block r k ds h1 h2 => simp at hk; omega
    | _ => simp at hk
  · obtain ⟨y, hy, ho⟩ := NetG.at g (s := s) (ne0 hk (by omega)) hs
    rw [kind_of hy] at hk
    cases ho with
    | starBack r j h1 h2 h3 h4 => exact ⟨_, h3, kind_of h4⟩
    | block r k ds h1 h2 => simp at hk; omega
    | _ => simp at hk
  · obtain ⟨y, hy, ho⟩ := NetG.at g (s := s) (ne0 hk (by omega)) hs
    rw [kind_of hy] at hk
    cases ho with
    | blockEnd r j k d h1 h2 h3 h4 h5 h6 => exact ⟨j, st_lt h5, by unfold isB; rw [kind_of h5]; simpa [or_assoc] using h6, by rw [lsA_of h5]⟩
    | block r k ds h1 h2 => simp at hk; omega
    | _ => simp at hk
  · rw [isB_at gl hp h1, isB_at gl hq h2] at h3; omega
  · obtain ⟨y, hy, ho⟩ := NetG.at g (s := s) (ne0 hk (by omega)) hs
    rw [kind_of hy] at hk
    cases ho with
    | basic r d h1 h2 => rw [h2]; simp
    | chars r d a b h1 h2 => rw [h2]; simp
    | block r k ds h1 h2 => simp at hk; omega
    | _ => simp at hk
theorem rok {es : List Ex} (gl : GoodL es) {ks : List Nat} (hk : ks.length = (compile es).2.length) : ROk (compile es).1 ((compile es).2.zip ks) := by
  have g := netG gl
  have hl : ((compile es).2.zip ks).length = es.length := by rw [List.length_zip, hk, Nat.min_self, g.len]
  refine ⟨fun j x hx => ?_, fun s hs => ?_, fun s hs hk2 => ?_, by rw [hl]; have := gl.few; omega⟩
  · have h1 : (compile es).2[j]? = some x.1 := by
      rw [List.getElem?_zip_eq_some] at hx; exact hx.1
    have := g.start j x.1 h1
    exact ⟨st_lt this, kind_of this⟩
  · rw [hl]
    by_cases h0 : s = 0
    · subst h0; rw [lsA_of g.first]; have := gl.pos; show 0 < es.length; omega
    · exact (g.rule s (by omega) hs).1
  · have h0 : s ≠ 0 := by rintro rfl; rw [kind_of g.first] at hk2; cases hk2
    obtain ⟨y, hy, ho⟩ := NetG.at g (s := s) (by omega) hs
    rw [kind_of hy] at hk2
    cases ho with
    | ruleStart r d h1 h2 h3 h4 =>
      have h5 := g.isStart s _ (by omega) hy rfl
      simp only at h5
      have h6 : r < ks.length := by rw [hk]; exact (List.getElem?_eq_some_iff.1 h5).1
      refine ⟨s + 1, st_lt h4, kind_of h4, (s, ks[r]'h6), ?_, rfl⟩
      rw [lsA_of h4, List.getElem?_zip_eq_some]
      exact ⟨h5, by simp [h6]⟩
    | block r k ds h1 h2 => simp at hk2; omega
    | _ => simp at hk2
theorem deok {es : List Ex} : ∀ d ∈ (compile es).1.de, d < (compile es).1.st.length ∧ kTy ((compile es).1.kind d) ∈ dcTypes := by
  intro d hd
  obtain ⟨s, h1, h2⟩ := (compile_shape es).2.2.2.2 d hd
  refine ⟨st_lt h1, ?_⟩
  rw [kind_of h1]
  unfold decK at h2
  rcases h2 with h | h | h | h | h | h <;> rw [h] <;> decide
theorem vok7 {es : List Ex} (gl : GoodL es) : ∀ s, s < (compile es).1.st.length → (compile es).1.kind s = 7 → (compile es).1.out s = [] := by
  intro s hs hk
  have g := netG gl
  have h0 : s ≠ 0 := by rintro rfl; rw [kind_of g.first] at hk; cases hk
  obtain ⟨y, hy, ho⟩ := NetG.at g (s := s) (by omega) hs
  rw [kind_of hy] at hk
  cases ho with
  | ruleStop r j h1 h2 => exact h2
  | block r k ds h1 h2 => simp at hk; omega
  | _ => simp at hk
theorem vokE {es : List Ex} (gl : GoodL es) : ∀ s, s < (compile es).1.st.length → (compile es).1.kind s ≠ 1 → ∀ x ∈ (compile es).1.out s, x.kind = 1 := by
  intro s hs hk x hx
  have g := netG gl
  by_cases h0 : s = 0
  · subst h0
    rw [g.out0] at hx; obtain ⟨d, _, rfl⟩ := List.mem_map.1 hx; rfl
  obtain ⟨y, hy, ho⟩ := NetG.at g (s := s) (by omega) hs
  rw [kind_of hy] at hk
  cases ho with
  | chars r d a b h1 h2 => exact absurd rfl hk
  | basic r d h1 h2 => exact absurd rfl hk
  | ruleStart r d h1 h2 => rw [h2] at hx; simp at hx; rw [hx]; rfl
  | block r k ds h1 h2 h3 h4 => rw [h4] at hx; obtain ⟨d, _, rfl⟩ := List.mem_map.1 hx; rfl
  | plusBlock r j ds h1 h2 h3 => rw [h3] at hx; obtain ⟨d, _, rfl⟩ := List.mem_map.1 hx; rfl
  | ruleStop r j h1 h2 => rw [h2] at hx; simp at hx
  | blockEnd r j k d h1 h2 => rw [h2] at hx; simp at hx; rw [hx]; rfl
  | starBack r j h1 h2 h3 => rw [h3] at hx; simp at hx; rw [hx]; rfl
  | starEntry r j h1 h2 h3 => rw [h3] at hx; simp at hx; rcases hx with rfl | rfl <;> rfl
  | plusBack r j a h1 h2 h3 => rw [h3] at hx; simp at hx; rcases hx with rfl | rfl <;> rfl
  | loopEnd r a d h1 h2 h3 => rw [h3] at hx; simp at hx; rw [hx]; rfl
end Go.Proofs
end
