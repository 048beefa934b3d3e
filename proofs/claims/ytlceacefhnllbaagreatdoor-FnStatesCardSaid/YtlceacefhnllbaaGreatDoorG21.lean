/- A part of the proof of the statement on the law FnStates, which the last text proves: part G21. -/
import Derived.Test.YtlceacefhnllbaaGreatDoorG20
set_option linter.all false
section
namespace Go.Proofs
open Go.RowKit
open Pl
theorem mkRules_snoc (e : Ex) : ∀ (l : List Ex) (i : Nat) (B : Bd) (ss : List Nat), mkRules i (l ++ [e]) B ss = (mkRule (i + l.length) e (mkRules i l B ss).1, (mkRules i l B ss).2 ++ [(mkRules i l B ss).1.st.length])
  | [], i, B, ss => by simp [mkRules]
  | x :: l, i, B, ss => by
    simp only [List.cons_append, mkRules, List.length_cons]
    rw [mkRules_snoc e l, show i + 1 + l.length = i + (l.length + 1) by omega]
theorem mkRules_len : ∀ (l : List Ex) (i : Nat) (B : Bd) (ss : List Nat), (mkRules i l B ss).2.length = ss.length + l.length
  | [], i, B, ss => by simp [mkRules]
  | x :: l, i, B, ss => by simp only [mkRules]; rw [mkRules_len l]; simp; omega
def Bd0 : Bd := ((⟨[], [], []⟩ : Bd).add 0 6).dec 0
def kds (k : Nat) : List Nat := (List.range k).map (· + 1)
theorem kds_succ (k : Nat) : kds (k + 1) = kds k ++ [k + 1] := by simp [kds, List.range_succ]
variable {base : Nat} {w0 : World} {bb : Nat} {c0 : Array Value} {r : Nat} {ss ks : List Nat} {w : World} {B : Bd}
theorem At.rule (h : At base w0 bb c0 r ss ks w B) (k : Nat) : At base w0 bb c0 k ss ks (w.setCell ⟨bb, 5, none⟩ (.int .i64 k)) B := by
  obtain ⟨a, h1, h2⟩ := h.bs
  obtain ⟨p1, p2⟩ := RS.setCell h1 (i := 5) (by simp [I5]) (.int .i64 k)
  exact ⟨⟨a, p1, h2.trans p2⟩, h.le, h.lb, h.lo⟩
theorem At.rcell (h : At base w0 bb c0 r ss ks w B) : w.cell? ⟨bb, 5, none⟩ = some (.int .i64 r) ∧ w.frozen? ⟨bb, 5, none⟩ = false := by
  obtain ⟨a, h1, h2⟩ := h.bs
  exact ⟨h1.blk.cell 5, h1.blk.free 5⟩
/-- A row of the builder, ready for an append. -/
structure RowF (base : Nat) (w : World) (bb i : Nat) (a : Nat → Value) (r : Nat) (B : Bd) (ss ks : List Nat) : Prop where
  bs : BS base w bb a r B ss ks
  cl : w.cell? ⟨bb, i, none⟩ = some (a i)
  fr : w.frozen? ⟨bb, i, none⟩ = false
  ow : w.ownsRow base (tyB i) (szB i) (a i) (BB B ss ks i).1 (BB B ss ks i).2
  lt : bb < w.heap.size
theorem At.rowF (h : At base w0 bb c0 r ss ks w B) (i : Nat) (hi : i < 5) : ∃ a, RowF base w bb i a r B ss ks ∧ BFr I5 w0 bb c0 w (cB a r) := by
  obtain ⟨a, h1, h2⟩ := h.bs
  obtain ⟨v, hv, ho⟩ := h1.row i hi
  have e : v = a i := by
    match i, hi with
    | 0, _ | 1, _ | 2, _ | 3, _ | 4, _ => simpa using hv.symm
  subst e
  have hc : w.cell? ⟨bb, i, none⟩ = some (a i) := by rw [h1.blk.cell i]; exact hv
  exact ⟨a, ⟨h1, hc, h1.blk.free i, ho, h1.blk.lt⟩, h2⟩
theorem RowF.put {a : Nat → Value} {i : Nat} (h : RowF base w bb i a r B ss ks) (hi : i < 5) (f : BFr I5 w0 bb c0 w (cB a r)) (hle : base ≤ w0.heap.size) (hlb : base ≤ bb) (hlo : bb < w0.heap.size) {w1 : World} {gg n cap : Nat} {xs : List Value} {B' : Bd} {ss' ks' : List Nat}
    (own1 : w1.ownsRow base (tyB i) (szB i) (.slice (some ⟨gg, 0, none⟩) n cap) n xs) (k1 : Kp (fun k => some k ≠ (a i).ownBlock) w w1) (hat : (a i).ownBlock = some gg ∨ w.heap.size ≤ gg)
    (hg : ∀ j, j < 5 → updG (BB B ss ks) i (n, xs) j = BB B' ss' ks' j) : At base w0 bb c0 r ss' ks' (w1.setCell ⟨bb, i, none⟩ (.slice (some ⟨gg, 0, none⟩) n cap)) B' := by
  obtain ⟨p1, p2⟩ := RS.put h.bs (i := i) hi (v := a i) (by match i, hi with | 0, _ | 1, _ | 2, _ | 3, _ | 4, _ => simp) own1 k1 hat
  refine ⟨⟨upA a i (.slice (some ⟨gg, 0, none⟩) n cap), ?_, f.trans ?_⟩, hle, hlb, hlo⟩
  · refine p1.congr ?_ hg
    match i, hi with
    | 0, _ | 1, _ | 2, _ | 3, _ | 4, _ => simp [upA]
  · have e : (#[a 0, a 1, a 2, a 3, a 4, .int .i64 r] : Array Value).setIfInBounds i (.slice (some ⟨gg, 0, none⟩) n cap) = cB (upA a i (.slice (some ⟨gg, 0, none⟩) n cap)) r := by
      match i, hi with
      | 0, _ | 1, _ | 2, _ | 3, _ | 4, _ => simp [upA, cB]
    rw [← e]; exact p2
theorem RowF.far {a : Nat → Value} {i : Nat} (h : RowF base w bb i a r B ss ks) (hi : i < 5) {w1 : World} (k1 : Kp (fun k => some k ≠ (a i).ownBlock) w w1) : w1.cell? ⟨bb, i, none⟩ = some (a i) ∧ w1.frozen? ⟨bb, i, none⟩ = false := by
  have hb : Blk w1 bb 78 (cB a r) := h.bs.blk.kept (k1.blk bb h.lt (fun e => h.bs.nb ⟨i, a i, hi, by match i, hi with | 0, _ | 1, _ | 2, _ | 3, _ | 4, _ => simp, e.symm⟩))
  refine ⟨?_, hb.free i⟩
  rw [hb.cell i]
  match i, hi with
  | 0, _ | 1, _ | 2, _ | 3, _ | 4, _ => rfl
/-- What a list of rules is turned into. -/
def CmpRet (es : List Ex) (w : World) (e : Ending) (w' : World) : Prop := ∃ (q c : Nat → Nat), e = .returned (.agg #[.slice (some ⟨q 0, 0, none⟩) (BB (compile es).1 (compile es).2 (kds es.length) 0).1 (c 0), .slice (some ⟨q 1, 0, none⟩) (BB (compile es).1 (compile es).2 (kds es.length) 1).1 (c 1), .slice (some ⟨q 2, 0, none⟩) (BB (compile es).1 (compile es).2 (kds es.length) 2).1 (c 2), .slice (some ⟨q 3, 0, none⟩) (BB (compile es).1 (compile es).2 (kds es.length) 3).1 (c 3), .slice (some ⟨q 4, 0, none⟩) (BB (compile es).1 (compile es).2 (kds es.length) 4).1 (c 4)]) ∧
  (∀ i, i < 5 → w'.ownsRow w.heap.size (tyB i) (szB i) (.slice (some ⟨q i, 0, none⟩) (BB (compile es).1 (compile es).2 (kds es.length) i).1 (c i)) (BB (compile es).1 (compile es).2 (kds es.length) i).1 (BB (compile es).1 (compile es).2 (kds es.length) i).2) ∧ Kp (fun _ => True) w w'
theorem rs0 (w : World) : RS tyB szB I5 w.heap.size ((w.alloc (.cells #[.slice none 0 0, .slice none 0 0, .slice none 0 0, .slice none 0 0, .slice none 0 0] 56)).alloc (.cells #[.slice none 0 0, .slice none 0 0, .slice none 0 0, .slice none 0 0, .slice none 0 0, .int .i64 0] 78)) (w.heap.size + 1) 78 (cB (fun _ => .slice none 0 0) 0) (BB ⟨[], [], []⟩ [] []) where
  blk := heap_new2 w _ _
  row := fun i hi => by
    match i, hi with
    | 0, _ | 1, _ | 2, _ | 3, _ | 4, _ => exact ⟨_, rfl, ⟨rfl, .inl ⟨rfl, rfl⟩⟩⟩
  ne := fun i i' v v' j hi _ _ h1 _ h2 => by
    have : v = .slice none 0 0 := by
      match i, hi with
      | 0, _ | 1, _ | 2, _ | 3, _ | 4, _ => simpa [cB] using h1.symm
    subst this; simp [Value.ownBlock] at h2
  nb := by
    rintro ⟨i, v, hi, h1, h2⟩
    have : v = .slice none 0 0 := by
      match i, hi with
      | 0, _ | 1, _ | 2, _ | 3, _ | 4, _ => simpa [cB] using h1.symm
    subst this; simp [Value.ownBlock] at h2
theorem own0 (j : Nat) : ¬ Own I5 (cB (fun _ => .slice none 0 0) 0) j := by
  rintro ⟨i, v, hi, h1, h2⟩
  have : v = .slice none 0 0 := by
    match i, hi with
    | 0, _ | 1, _ | 2, _ | 3, _ | 4, _ => simpa [cB] using h1.symm
  subst this; simp [Value.ownBlock] at h2

mutual
theorem ExE.toQ {w : World} : ∀ (e : Ex) (g o : Nat), ExE w g o e → ExQ (fun j => j < w.heap.size) w g o e
  | .mk op a b subs, g, o, h => by
    simp only [ExQ, ExE] at h ⊢
    obtain ⟨h1, h2, h3, h4⟩ := h
    refine ⟨cell_lt h1, h1, h2, h3, ?_⟩
    rcases h4 with ⟨q, c, h5, h6⟩ | ⟨g', o', c, h5, h6, h7⟩
    · exact .inl ⟨q, c, h5, h6⟩
    · exact .inr ⟨g', o', c, h5, h6, ExR.toQ subs g' o' h7⟩
theorem ExR.toQ {w : World} : ∀ (es : List Ex) (g o : Nat), ExR w g o es → ExRQ (fun j => j < w.heap.size) w g o es
  | [], _, _, _ => by simp [ExRQ]
  | e :: es, g, o, h => by
    simp only [ExRQ, ExR] at h ⊢
    exact ⟨ExE.toQ e g o h.1, ExR.toQ es g (o + 4) h.2⟩
end
theorem SlE.toQ {w : World} {sl : Value} {es : List Ex} (h : SlE w sl es) : SlQ (fun j => j < w.heap.size) w sl es := by
  rcases h with h | ⟨g, o, c, h1, h2, h3⟩
  · exact .inl h
  · exact .inr ⟨g, o, c, h1, h2, ExR.toQ es g o h3⟩
def cz : Array Value := cB (fun _ => .slice none 0 0) 0
theorem compile_de (es : List Ex) : 1 ≤ (compile es).1.de.length := by
  obtain ⟨S, E, D, ss, hA, _⟩ := goodRules es 0 Bd0 [] (by simp [Bd0, Bd.add, Bd.dec])
  have e : mkRules 0 es Bd0 [] = compile es := rfl
  rw [e] at hA
  rw [hA.de]; simp [Bd0, Bd.dec]; omega
theorem compile_len (es : List Ex) : (compile es).2.length = es.length := by
  have := mkRules_len es 0 Bd0 []
  have e : mkRules 0 es Bd0 [] = compile es := rfl
  rw [e] at this; simpa using this
theorem compile_ed {es : List Ex} (g : GoodL es) : 1 ≤ (compile es).1.ed.length := by
  obtain ⟨f, _, h⟩ := netP g
  have := h.ne0
  cases he : (compile es).1.ed with
  | nil => exact absurd (by simp [Bd.out, he]) this
  | cons x l => simp
theorem BB_pos {es : List Ex} (g : GoodL es) (i : Nat) : (BB (compile es).1 (compile es).2 (kds es.length) i).1 ≠ 0 := by
  have h1 := g.pos
  have h2 := compile_len es
  have h3 := compile_ed g
  have h4 := compile_de es
  obtain ⟨f, _, h⟩ := netP g
  have h5 := h.pos
  match i with
  | 0 => show (compile es).1.st.length ≠ 0; omega
  | 1 => show (compile es).2.length ≠ 0; omega
  | 2 => show (kds es.length).length ≠ 0; rw [kds, List.length_map, List.length_range]; omega
  | 3 => show (compile es).1.ed.length ≠ 0; omega
  | n + 4 => show (compile es).1.de.length ≠ 0; omega
def pick5 (a b c d e : Nat) : Nat → Nat | 0 => a | 1 => b | 2 => c | 3 => d | _ => e
def LpC2 (wA : World) (base bb : Nat) (es : List Ex) (t18 : Value) (wr : World) : Prop := ∃ k r : Nat, t18 = .int .i64 k ∧ k ≤ es.length ∧ At base wA bb cz r (mkRules 0 (es.take k) Bd0 []).2 (kds k) wr (mkRules 0 (es.take k) Bd0 []).1
theorem At.join {w1 wZ : World} {a : Nat → Value} {r' : Nat} {ss' ks' : List Nat} {B' : Bd} {wr : World} (hf : BFr I5 w0 bb c0 wr (cB a r)) (hle : base ≤ w0.heap.size) (hlb : base ≤ bb) (hlo : bb < w0.heap.size) (k : Kp (fun _ => True) wr w1) (h : At base w1 bb (cB a r) r' ss' ks' wZ B') : At base w0 bb c0 r' ss' ks' wZ B' := by
  obtain ⟨a', h1, h2⟩ := h.bs
  exact ⟨⟨a', h1, hf.trans (BFr.pre k h2)⟩, hle, hlb, hlo⟩

set_option maxRecDepth 100000 in
set_option maxHeartbeats 1000000 in
theorem compile_any {w : World} {es : List Ex} {sl : Value} (g : GoodL es) (hs : SlE w sl es) :
    Calls Tryz.prog 17 #[sl] w fun e w' => CmpRet es w e w' := by
  have HS := Lib.hid hs
  obtain ⟨sq, sc, rfl⟩ := hs.form
  have hl4 := g.few
  have HG := Lib.hid g
  clear hs g
  have hR := rs0 w
  have a0 := At.start (w := ((w.alloc (.cells #[.slice none 0 0, .slice none 0 0, .slice none 0 0, .slice none 0 0, .slice none 0 0] 56)).alloc (.cells #[.slice none 0 0, .slice none 0 0, .slice none 0 0, .slice none 0 0, .slice none 0 0, .int .i64 0] 78))) (a := fun _ => .slice none 0 0) (r := 0) (B := ⟨[], [], []⟩) (ss := []) (ks := []) (base := w.heap.size) (bb := w.heap.size + 1) hR (by simp; omega) (by omega)
  have kA : Kp (fun _ => True) w ((w.alloc (.cells #[.slice none 0 0, .slice none 0 0, .slice none 0 0, .slice none 0 0, .slice none 0 0] 56)).alloc (.cells #[.slice none 0 0, .slice none 0 0, .slice none 0 0, .slice none 0 0, .slice none 0 0, .int .i64 0] 78)) := (Kp.alloc _ _).trans (Kp.alloc _ _)
  have br : Blk ((w.alloc (.cells #[.slice none 0 0, .slice none 0 0, .slice none 0 0, .slice none 0 0, .slice none 0 0] 56)).alloc (.cells #[.slice none 0 0, .slice none 0 0, .slice none 0 0, .slice none 0 0, .slice none 0 0, .int .i64 0] 78)) w.heap.size 56 #[.slice none 0 0, .slice none 0 0, .slice none 0 0, .slice none 0 0, .slice none 0 0] := Blk.kept (Blk.new w 56 _) (Below.heap_alloc _ _ _ (by simp))
  have hS := HS.out.toQ.kept (Q' := fun j => j < w.heap.size) (kA.weak (fun _ _ => trivial)) (fun _ _ h => h)
  go_enter Tryz.func17, Tryz.ntmps17
  go_upto_region 2 with fail
  obtain ⟨base, hbase⟩ : ∃ base, base = w.heap.size := ⟨_, rfl⟩
  obtain ⟨bb, hbb⟩ : ∃ bb, bb = w.heap.size + 1 := ⟨_, rfl⟩
  have lbw : base < bb := by omega
  rw [← hbase] at hS hR a0 br ⊢
  have hb2 : base + 1 = bb := by rw [hbase, hbb]
  rw [hb2] at hR a0 ⊢
  generalize ((w.alloc (.cells #[.slice none 0 0, .slice none 0 0, .slice none 0 0, .slice none 0 0, .slice none 0 0] 56)).alloc (.cells #[.slice none 0 0, .slice none 0 0, .slice none 0 0, .slice none 0 0, .slice none 0 0, .int .i64 0] 78)) = wA at hR a0 kA br hS ⊢
  have KA := Lib.hid kA
  have HR := Lib.hid hR
  have A0 := Lib.hid a0
  have BR := Lib.hid br
  have HSQ := Lib.hid hS
  have HBS := Lib.hid hbase
  clear hR a0 kA br hS hbase hbb hb2
  go_wp2_with (first | (go_at_call 24; refine (decide_i A1.out 0 rfl (by simp [tot, Bd.add])).mono ?_; rintro e w2 ⟨rfl, x2⟩; have A2 := Lib.hid x2; clear x2) | (go_at_call 23; refine (state_at A0.out 6 (by simp [tot])).mono ?_; rintro e w1 ⟨rfl, x1⟩; have A1 := Lib.hid x1; clear x1))
  go_loopw [18] (fun t18 wr => LpC2 wA base bb es t18 wr) (fun t18 _ => es.length - (intOf t18).toNat)
  case atStart => exact ⟨0, 0, rfl, Nat.zero_le _, by have := A2.out; simp only [List.take_zero, mkRules]; exact this⟩
  case round =>
    clear A1 A2 A0
    obtain ⟨k, r, rfl, hk, at_⟩ := hrel
    have HA := Lib.hid at_
    have hsj := HSQ.out.kept (at_.kp HR.out) (fun _ _ h => h)
    have hlb := at_.lb
    clear at_
    by_cases hkn : k < es.length
    · have hkn' : (k : Int) < (es.length : Int) := by omega
      obtain ⟨⟨op', a', b', s'⟩, hx⟩ : ∃ e, es[k]? = some e := ⟨es[k]'hkn, by simp⟩
      obtain ⟨g1, o1, rfl, _, hcl, hr⟩ := hsj.at (by omega)
      obtain ⟨sl', E⟩ := hr.el hx
      obtain ⟨sq', sc', rfl⟩ := E.sub.form
      have e0 := E.e0
      have e1 := E.e1
      have e2 := E.e2
      have e3 := E.e3
      have hgood := HG.out.each _ (List.mem_of_getElem? hx)
      have HGE := Lib.hid hgood.good
      have hcc : (k : Int) ≤ (sc : Int) := by omega
      have HX := Lib.hid hx
      have htot : tot (mkRules 0 (es.take k) Bd0 []).1 + 16 * szE (.mk op' a' b' s') ≤ 10000 := by
        have h1 := totRules (es.take k) 0 Bd0 []
        have h2 := szL_take_le es k
        have h3 := HG.out.size
        have h4 : (es.take k).length ≤ 4 := by rw [List.length_take]; omega
        have h5 := szL_get _ _ _ hx
        have h6 : tot Bd0 = 2 := rfl
        omega
      generalize hM : mkRules 0 (es.take k) Bd0 [] = M at HA htot
      obtain ⟨Bk, sk⟩ := M
      have HM := Lib.hid hM
      have HSK : Hid (sk.length = k) := Lib.hid (by
        have h1 := mkRules_len (es.take k) 0 Bd0 []
        rw [hM] at h1
        simp at h1
        omega)
      obtain ⟨n0, hn0⟩ : ∃ n0, n0 = Bk.st.length := ⟨_, rfl⟩
      have HN0 := Lib.hid hn0
      have HT : Hid (tot Bk + 16 * szE (.mk op' a' b' s') ≤ 10000) := Lib.hid htot
      obtain ⟨va, hb, hf⟩ := HA.out.bs
      have HF := Lib.hid hf
      have hn := RS.new hb (Nat.le_refl wr.heap.size)
      have hlo := Nat.lt_of_lt_of_le HA.out.lo HA.out.size
      have hE := Nat.ne_of_gt hlo
      have aN := At.start (RS.kept hb (Kp.alloc wr (.cells #[.int .i64 op', .int .i64 a', .int .i64 b', .slice sq' s'.length sc'] 48))) (Nat.le_trans (Nat.le_trans HA.out.le HA.out.size) (by simp)) HA.out.lb
      have SBN := Lib.hid (E.sub.alloc (.cells #[.int .i64 op', .int .i64 a', .int .i64 b', .slice sq' s'.length sc'] 48))
      have bm := Blk.new wr 48 #[.int .i64 op', .int .i64 a', .int .i64 b', .slice sq' s'.length sc']
      have hRN := RS.kept hb (Kp.alloc wr (.cells #[.int .i64 op', .int .i64 a', .int .i64 b', .slice sq' s'.length sc'] 48))
      clear E hr hx hsj htot hM hn0 hgood hf hb
      go_upto_region 7 with fail
      have km : Kp (fun _ => True) wr (wr.alloc (.cells #[.int .i64 op', .int .i64 a', .int .i64 b', .slice sq' s'.length sc'] 48)) := Kp.alloc _ _
      obtain ⟨xb, hxb⟩ : ∃ xb, xb = wr.heap.size := ⟨_, rfl⟩
      rw [← hxb] at bm hn hE ⊢
      generalize wr.alloc (.cells #[.int .i64 op', .int .i64 a', .int .i64 b', .slice sq' s'.length sc'] 48) = wN at km bm aN SBN hRN ⊢
      have KN := Lib.hid km
      have AN := Lib.hid aN
      have BOX : Hid (∀ (W : World) B' r' ss' ks', At base wN bb (cB va r) r' ss' ks' W B' → W.cell? ⟨xb, 0, none⟩ = some (.int .i64 op') ∧ W.cell? ⟨xb, 1, none⟩ = some (.int .i64 a') ∧ W.cell? ⟨xb, 2, none⟩ = some (.int .i64 b') ∧ W.cell? ⟨xb, 3, none⟩ = some (.slice sq' s'.length sc')) := by
        have BM := Lib.hid bm
        have HNO := Lib.hid hn
        have HEN := Lib.hid hE
        exact Lib.hid (fun W B' r' ss' ks' hW => by
          have b := (BM.out.kept (hW.box BM.out.lt HEN.out HNO.out)).cell
          exact ⟨b 0, b 1, b 2, b 3⟩)
      have SUB : Hid (∀ (W : World) B' r' ss' ks', At base wN bb (cB va r) r' ss' ks' W B' → SlQ (fun j => j < base) W (.slice sq' s'.length sc') s') := by
        have HRN := Lib.hid hRN
        exact Lib.hid (fun W B' r' ss' ks' hW => SBN.out.kept (hW.kp HRN.out) (fun _ _ h => h))
      obtain ⟨rc, rf⟩ := aN.rcell
      have S1 := Lib.hid (aN.rule k)
      have hlbN := aN.lo
      clear km bm aN hRN hn hE hxb e0 e1 e2 e3
      go_upto_region 9 with (first | (go_at_call 23; refine (state_at S2.out 7 (by rw [tot_add]; have := HT.out; omega)).mono ?_; rintro e w3 ⟨he, x3⟩; rw [len_add, ← HN0.out] at he; subst he; have S3 := Lib.hid x3; clear x3) | (go_at_call 23; refine (state_at S1.out 2 (by have := HT.out; omega)).mono ?_; rintro e w2 ⟨he, x2⟩; rw [← HN0.out] at he; subst he; have S2 := Lib.hid x2; clear x2))
      obtain ⟨i3, hi3, hy0, hy1, hy2⟩ := info_parts info3
      have hsk : sk.length ≤ 4 := by have := HSK.out; omega
      have hkk : (kds k).length ≤ 4 := by simp [kds]; omega
      obtain ⟨u1, RF1, hf1⟩ := S3.out.rowF 1 (by omega)
      have hc1 := RF1.cl
      have hz1 := RF1.fr
      have hl1 := RF1.lt
      have HRF1 := Lib.hid RF1
      have HFF1 := Lib.hid hf1
      have hO1 : Hid (w3.ownsRow base 3 1 (u1 1) sk.length (flN sk)) := Lib.hid RF1.ow
      have hbw1 : base ≤ w3.heap.size := Nat.le_trans S3.out.le S3.out.size
      clear RF1 hf1
      go_upto_region 10 with (first | (at_builtin; refine wpList_append_lies _ rfl _ _ 29 rfl base 3 i3 _ 1 8 Tryz.underlying29 hi3 hy0 hy1 hy2 rfl (by omega) (u1 1) sk.length (flN sk) rfl (hO1.out.alloc _) ⟨w3.heap.size, 0, none⟩ 1 1 [.int .i64 n0] rfl rfl (World.news_of_block (cs := #[.int .i64 n0]) (t := 3) (fr := (0, 0)) (heap_alloc_new w3 _)) (by simp [Value.oneCell']) (by omega) (by simp [maxLen]; omega) (by omega) (by simp; omega) (w3.heap.size + 1) (by simp) ?_; intro gg cap w1 hown1 hgrow hat hlt; have k1 : Kp (fun k => some k ≠ (u1 1).ownBlock) w3 w1 := (Kp.alloc _ _).trans (Kp.grown hgrow (fun k hk => hk)); obtain ⟨c01, f01⟩ := HRF1.out.far (by omega) k1; have PU := Lib.hid (HRF1.out.put (by omega) HFF1.out S3.out.le S3.out.lb S3.out.lo hown1 k1 (hat.imp id (fun e => by omega)) (B' := (Bk.add k 2).add k 7) (ss' := sk ++ [n0]) (ks' := kds k) (fun j hj => by match j, hj with | 0, _ => rfl | 1, _ => simp [updG, BB, flN] | 2, _ => rfl | 3, _ => rfl | 4, _ => rfl)); clear hown1 hgrow hat hlt k1))
      generalize w1.setCell ⟨bb, 1, none⟩ (.slice (some ⟨gg, 0, none⟩) (sk.length + 1) cap) = wS at PU ⊢
      have S4 := PU
      clear PU c01 f01 hc1 hz1 hl1
      obtain ⟨u2, RF2, hf2⟩ := S4.out.rowF 2 (by omega)
      have hc2 := RF2.cl
      have hz2 := RF2.fr
      have hl2 := RF2.lt
      have HRF2 := Lib.hid RF2
      have HFF2 := Lib.hid hf2
      have hO2 : Hid (wS.ownsRow base 3 1 (u2 2) (kds k).length (flN (kds k))) := Lib.hid RF2.ow
      have hbw2 : base ≤ wS.heap.size := Nat.le_trans S4.out.le S4.out.size
      clear RF2 hf2
      go_upto_region 11 with (first | (at_builtin; refine wpList_append_lies _ rfl _ _ 29 rfl base 3 i3 _ 1 8 Tryz.underlying29 hi3 hy0 hy1 hy2 rfl (by omega) (u2 2) (kds k).length (flN (kds k)) rfl (hO2.out.alloc _) ⟨wS.heap.size, 0, none⟩ 1 1 [.int .i64 ((k : Int) + 1)] rfl rfl (World.news_of_block (cs := #[.int .i64 ((k : Int) + 1)]) (t := 3) (fr := (0, 0)) (heap_alloc_new wS _)) (by simp [Value.oneCell']) (by omega) (by simp [maxLen]; omega) (by omega) (by simp; omega) (wS.heap.size + 1) (by simp) ?_; intro gg cap w1 hown1 hgrow hat hlt; have k1 : Kp (fun k => some k ≠ (u2 2).ownBlock) wS w1 := (Kp.alloc _ _).trans (Kp.grown hgrow (fun k hk => hk)); obtain ⟨c01, f01⟩ := HRF2.out.far (by omega) k1; have PU := Lib.hid (HRF2.out.put (by omega) HFF2.out S4.out.le S4.out.lb S4.out.lo hown1 k1 (hat.imp id (fun e => by omega)) (B' := (Bk.add k 2).add k 7) (ss' := sk ++ [n0]) (ks' := kds (k + 1)) (fun j hj => by match j, hj with | 0, _ => rfl | 1, _ => rfl | 2, _ => simp [updG, BB, flN, kds_succ] | 3, _ => rfl | 4, _ => rfl)); clear hown1 hgrow hat hlt k1))
      generalize w1.setCell ⟨bb, 2, none⟩ (.slice (some ⟨gg, 0, none⟩) ((kds k).length + 1) cap) = wK at PU ⊢
      have S5 := PU
      obtain ⟨g0, g1', g2, g3⟩ := BOX.out _ _ _ _ _ S5.out
      have SK := Lib.hid (SUB.out _ _ _ _ _ S5.out)
      clear PU c01 f01 hc2 hz2 hl2
      obtain ⟨p, hp⟩ : ∃ p, p = mkE k (.mk op' a' b' s') ((Bk.add k 2).add k 7) := ⟨_, rfl⟩
      have HP := Lib.hid hp
      have HTP : Hid (tot p.1 ≤ 900000) := Lib.hid (by rw [hp]; have h1 := totE k (.mk op' a' b' s') ((Bk.add k 2).add k 7); rw [tot_add, tot_add] at h1; have := HT.out; omega)
      clear hp
      go_wp2_with (first | (go_at_call 26; refine (edge_i S8.out p.2.2 (n0 + 1) rfl (by omega) (by have := HTP.out; simp only [tot_eps]; omega)).mono ?_; rintro e w9 ⟨rfl, x9⟩; have S9 := Lib.hid x9; clear x9) | (go_at_call 26; refine (edge_i S7.out n0 p.2.1 rfl rfl (by have := HTP.out; simp only [tot_eps]; omega)).mono ?_; rintro e w8 ⟨rfl, x8⟩; have S8 := Lib.hid x8; clear x8) | (go_at_call 26; refine (edge_i S6.out 0 n0 rfl rfl (by have := HTP.out; omega)).mono ?_; rintro e w7 ⟨rfl, x7⟩; have S7 := Lib.hid x7; clear x7) | (go_at_call 25; refine (make_at (make_any (szE (.mk op' a' b' s'))) S5.out (Nat.le_refl _) HGE.out (by have := HT.out; simp only [tot_add]; omega) SK.out).mono ?_; rintro e w6 ⟨rfl, x6⟩; rw [← HP.out] at x6; have S6 := Lib.hid x6; rw [← HP.out]; clear x6))
      refine ⟨⟨k + 1, k, by simp, by omega, ?_⟩, by simp [intOf]; omega⟩
      have et : es.take (k + 1) = es.take k ++ [.mk op' a' b' s'] := by rw [List.take_add_one, HX.out]; rfl
      have hlen : (es.take k).length = k := by simp; omega
      have em : mkRules 0 (es.take (k + 1)) Bd0 [] = (((p.1.eps 0 n0).eps n0 p.2.1).eps p.2.2 (n0 + 1), sk ++ [n0]) := by
        rw [et, mkRules_snoc, HM.out]
        simp only [hlen, Nat.zero_add, mkRule]
        rw [← HN0.out, ← HP.out]
      rw [em]
      have := S9.out.join HF.out HA.out.le HA.out.lb HA.out.lo KN.out
      exact this
    · have hkn' : ¬ (k : Int) < (es.length : Int) := by omega
      have hke : k = es.length := by omega
      subst hke
      rw [List.take_of_length_le (Nat.le_refl _)] at HA
      have eC : mkRules 0 es Bd0 [] = compile es := rfl
      rw [eC] at HA
      have kT : Kp (fun j => j < base) wA wr := HA.out.kp HR.out
      have hbr := BR.out.kept (HA.out.box BR.out.lt (by omega) (own0 base))
      obtain ⟨va, hb, hf⟩ := HA.out.bs
      have hrow : ∀ i, i < 5 → ∃ q c, va i = .slice (some ⟨q, 0, none⟩) (BB (compile es).1 (compile es).2 (kds es.length) i).1 c ∧ wr.ownsRow base (tyB i) (szB i) (.slice (some ⟨q, 0, none⟩) (BB (compile es).1 (compile es).2 (kds es.length) i).1 c) (BB (compile es).1 (compile es).2 (kds es.length) i).1 (BB (compile es).1 (compile es).2 (kds es.length) i).2 ∧ wr.cell? ⟨bb, i, none⟩ = some (.slice (some ⟨q, 0, none⟩) (BB (compile es).1 (compile es).2 (kds es.length) i).1 c) := by
        intro i hi
        obtain ⟨v, hv, ho⟩ := hb.row i hi
        have e : v = va i := by
          match i, hi with
          | 0, _ | 1, _ | 2, _ | 3, _ | 4, _ => simpa using hv.symm
        subst e
        obtain ⟨q, c, hq, _⟩ := own_form ho (BB_pos HG.out i)
        rw [hq] at ho
        refine ⟨q, c, hq, ho, ?_⟩
        rw [hb.blk.cell i, hv, hq]
      obtain ⟨q0, c0, _, o0, d0⟩ := hrow 0 (by omega)
      obtain ⟨q1, c1, _, o1, d1⟩ := hrow 1 (by omega)
      obtain ⟨q2, c2, _, o2, d2⟩ := hrow 2 (by omega)
      obtain ⟨q3, c3, _, o3, d3⟩ := hrow 3 (by omega)
      obtain ⟨q4, c4, _, o4, d4⟩ := hrow 4 (by omega)
      have r0 := hbr.free 0
      have r1 := hbr.free 1
      have r2 := hbr.free 2
      have r3 := hbr.free 3
      have r4 := hbr.free 4
      have y0 := hbr.cell 0
      have y1 := hbr.cell 1
      have y2 := hbr.cell 2
      have y3 := hbr.cell 3
      have y4 := hbr.cell 4
      have HBR := Lib.hid hbr
      have O0 := Lib.hid o0
      have O1 := Lib.hid o1
      have O2 := Lib.hid o2
      have O3 := Lib.hid o3
      have O4 := Lib.hid o4
      have KT := Lib.hid kT
      have KS : Hid (wA.heap.size ≤ wr.heap.size) := Lib.hid HA.out.size
      simp at y0 y1 y2 y3 y4
      clear hrow hb hf hbr o0 o1 o2 o3 o4 hsj kT
      go_wp2_with fail
      have b6 := ((((HBR.out.set 0 (.slice (some ⟨q0, 0, none⟩) (BB (compile es).1 (compile es).2 (kds es.length) 0).1 c0) _ rfl).set 1 (.slice (some ⟨q1, 0, none⟩) (BB (compile es).1 (compile es).2 (kds es.length) 1).1 c1) _ rfl).set 2 (.slice (some ⟨q2, 0, none⟩) (BB (compile es).1 (compile es).2 (kds es.length) 2).1 c2) _ rfl).set 3 (.slice (some ⟨q3, 0, none⟩) (BB (compile es).1 (compile es).2 (kds es.length) 3).1 c3) _ rfl).set 4 (.slice (some ⟨q4, 0, none⟩) (BB (compile es).1 (compile es).2 (kds es.length) 4).1 c4) #[.slice (some ⟨q0, 0, none⟩) (BB (compile es).1 (compile es).2 (kds es.length) 0).1 c0, .slice (some ⟨q1, 0, none⟩) (BB (compile es).1 (compile es).2 (kds es.length) 1).1 c1, .slice (some ⟨q2, 0, none⟩) (BB (compile es).1 (compile es).2 (kds es.length) 2).1 c2, .slice (some ⟨q3, 0, none⟩) (BB (compile es).1 (compile es).2 (kds es.length) 3).1 c3, .slice (some ⟨q4, 0, none⟩) (BB (compile es).1 (compile es).2 (kds es.length) 4).1 c4] rfl
      have kz : Kp (fun j => j ≠ base) wr (((((wr.setCell ⟨base, 0, none⟩ (.slice (some ⟨q0, 0, none⟩) (BB (compile es).1 (compile es).2 (kds es.length) 0).1 c0)).setCell ⟨base, 1, none⟩ (.slice (some ⟨q1, 0, none⟩) (BB (compile es).1 (compile es).2 (kds es.length) 1).1 c1)).setCell ⟨base, 2, none⟩ (.slice (some ⟨q2, 0, none⟩) (BB (compile es).1 (compile es).2 (kds es.length) 2).1 c2)).setCell ⟨base, 3, none⟩ (.slice (some ⟨q3, 0, none⟩) (BB (compile es).1 (compile es).2 (kds es.length) 3).1 c3)).setCell ⟨base, 4, none⟩ (.slice (some ⟨q4, 0, none⟩) (BB (compile es).1 (compile es).2 (kds es.length) 4).1 c4)) :=
        ((((Kp.setCell _ _ _ (by simp)).trans (Kp.setCell _ _ _ (by simp))).trans (Kp.setCell _ _ _ (by simp))).trans (Kp.setCell _ _ _ (by simp))).trans (Kp.setCell _ _ _ (by simp))
      generalize ((((wr.setCell ⟨base, 0, none⟩ (.slice (some ⟨q0, 0, none⟩) (BB (compile es).1 (compile es).2 (kds es.length) 0).1 c0)).setCell ⟨base, 1, none⟩ (.slice (some ⟨q1, 0, none⟩) (BB (compile es).1 (compile es).2 (kds es.length) 1).1 c1)).setCell ⟨base, 2, none⟩ (.slice (some ⟨q2, 0, none⟩) (BB (compile es).1 (compile es).2 (kds es.length) 2).1 c2)).setCell ⟨base, 3, none⟩ (.slice (some ⟨q3, 0, none⟩) (BB (compile es).1 (compile es).2 (kds es.length) 3).1 c3)).setCell ⟨base, 4, none⟩ (.slice (some ⟨q4, 0, none⟩) (BB (compile es).1 (compile es).2 (kds es.length) 4).1 c4) = wZ at b6 kz ⊢
      have b6c := b6.cell
      have up : ∀ i q c, i < 5 → wr.ownsRow base (tyB i) (szB i) (.slice (some ⟨q, 0, none⟩) (BB (compile es).1 (compile es).2 (kds es.length) i).1 c) (BB (compile es).1 (compile es).2 (kds es.length) i).1 (BB (compile es).1 (compile es).2 (kds es.length) i).2 → wZ.ownsRow base (tyB i) (szB i) (.slice (some ⟨q, 0, none⟩) (BB (compile es).1 (compile es).2 (kds es.length) i).1 c) (BB (compile es).1 (compile es).2 (kds es.length) i).1 (BB (compile es).1 (compile es).2 (kds es.length) i).2 := by
        intro i q c hi ho
        refine own_kept' ho (fun j hj => ?_)
        obtain ⟨_, hlt, cc, hcc⟩ := own_blk ho hj
        refine kz.blk j hlt (fun e => ?_)
        subst e
        have := HBR.out
        unfold Blk at this
        rw [this] at hcc
        have ht : (56 : TypeId) = tyB i := by injection hcc with h; injection h
        match i, hi, ht with
        | 0, _, ht | 1, _, ht | 2, _, ht | 3, _, ht | 4, _, ht => simp [tyB] at ht
      refine bodyPost_ret (v := .agg #[.slice (some ⟨q0, 0, none⟩) (BB (compile es).1 (compile es).2 (kds es.length) 0).1 c0, .slice (some ⟨q1, 0, none⟩) (BB (compile es).1 (compile es).2 (kds es.length) 1).1 c1, .slice (some ⟨q2, 0, none⟩) (BB (compile es).1 (compile es).2 (kds es.length) 2).1 c2, .slice (some ⟨q3, 0, none⟩) (BB (compile es).1 (compile es).2 (kds es.length) 3).1 c3, .slice (some ⟨q4, 0, none⟩) (BB (compile es).1 (compile es).2 (kds es.length) 4).1 c4]) ?_ rfl ⟨pick5 q0 q1 q2 q3 q4, pick5 c0 c1 c2 c3 c4, rfl, fun i hi => ?_, ?_⟩
      · simp [results, Tryz.results17, go_sem, b6c]
      · rw [← HBS.out]
        match i, hi with
        | 0, h => exact up 0 q0 c0 h O0.out
        | 1, h => exact up 1 q1 c1 h O1.out
        | 2, h => exact up 2 q2 c2 h O2.out
        | 3, h => exact up 3 q3 c3 h O3.out
        | 4, h => exact up 4 q4 c4 h O4.out
      · refine ⟨SO.trans KA.out.so (SO.trans KT.out.so kz.so), Nat.le_trans KA.out.size (Nat.le_trans KS.out kz.size), fun j hj _ => ?_⟩
        have hjb : j < base := by rw [HBS.out]; exact hj
        have h1 := Nat.lt_of_lt_of_le hj KA.out.size
        exact (kz.blk j (Nat.lt_of_lt_of_le h1 KS.out) (by omega)).trans ((KT.out.blk j h1 hjb).trans (KA.out.blk j hj trivial))
end Go.Proofs
end
