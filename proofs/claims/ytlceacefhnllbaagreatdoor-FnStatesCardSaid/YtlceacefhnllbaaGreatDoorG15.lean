/- A part of the proof of the statement on the law FnStates, which the last text proves: part G15. -/
import Derived.Test.YtlceacefhnllbaaGreatDoorG12
import Derived.Test.YtlceacefhnllbaaGreatDoorG14
set_option linter.all false
section
namespace Go.Proofs
open Go.RowKit
open Pl
theorem MetRow.low {B B' : Nat} {w : World} {sl : Value} {ds : List DS} (h : MetRow B w sl ds) (hb : B' ≤ B) : MetRow B' w sl ds := by
  obtain ⟨ps, p1, p2, p3⟩ := h
  exact ⟨ps, p1, own_low p2 hb, fun x hx => ⟨(p3 x hx).1.kept hb (fun _ _ _ _ _ _ => rfl), (p3 x hx).2.kept hb (fun _ _ _ _ _ _ => rfl)⟩⟩
/-- A state that was asked for. -/
def DOk (N : Bd) (f : Nat) (d : DS) : Prop := Pl.Met N f d.A ∧ d.L ≠ [] ∧ ∃ v, CfA N v d.A d.L ∧ CfA N v (dd d.A) (ddC d.L)
/-- What the states are told as. -/
def LsRet (w : World) (N : Bd) (f : Nat) (e : Ending) (w' : World) : Prop :=
  ∃ (sl : Value) (ds : List DS), e = .returned sl ∧ MetRow w.heap.size w' sl ds ∧ 1 ≤ ds.length ∧ ds.length ≤ 10000 ∧ (∀ d ∈ ds, DOk N f d) ∧ Kp (fun _ => True) w w'

set_option maxRecDepth 100000 in
set_option maxHeartbeats 1000000 in
theorem lexs_any {w : World} {N : Bd} {v : AV} {f : Nat} {ab tt nr nd : Nat} (hat : AtnAt w.heap.size w N v) (haf : AtF w.heap.size w N v ab tt nr) (hdc : DcF w.heap.size w N v ab nd) (nf : NetF N f) (s : ByteArray) (hs : s.size ≤ 60) :
    Calls Tryz.prog 18 #[.pointer (some ⟨ab, 0, none⟩), .string s, .int .i64 0, .agg #[.map none, .int .i64 0]] w fun e w' => LsRet w N f e w' := by
  have hp := hdc.pos
  have hf := hdc.few
  have kb : Kp (fun _ => True) w (w.alloc (.cells #[.map none, .int .i64 0] 70)) := Kp.alloc _ _
  have hz : w.heap.size ≤ (w.alloc (.cells #[.map none, .int .i64 0] 70)).heap.size := kb.size
  have dc2 : DcF w.heap.size (w.alloc (.cells #[.map none, .int .i64 0] 70)) N v ab nd := by
    obtain ⟨db, c, h1, h2⟩ := hdc.row
    exact ⟨⟨db, c, h1.kept (LC.of kb), fun i hi => by obtain ⟨s, x1, x2, x3, x4⟩ := h2 i hi; exact ⟨s, x1, x2.kept (LC.of kb), x3, fun e => (x4 e).kept (LC.of kb)⟩⟩, hp, hf⟩
  have MA := Lib.hid (ma_any (hat.kept (LC.of kb)) (haf.kept (LC.of kb)) dc2 hz nf s hs)
  have NF := Lib.hid nf
  have KB := Lib.hid kb
  clear hat haf hdc nf kb dc2
  go_enter Tryz.func18, Tryz.ntmps18
  go_wp2_with (first | (go_at_call 27; refine MA.out.mono ?_; rintro e w2 ⟨t8, fl, dr, cap, g, bs, rfl, lx, ha1, ha2, hbl, hown, hb0, hoth, k2⟩; have WL0 : Hid (WL w.heap.size w2.heap.size w2 N v f g (.slice (some ⟨dr, 0, none⟩) nd cap) nd bs w2) := Lib.hid ⟨w2, rfl, lx, Kp.rfl', Kp.rfl', hown, hoth⟩; have LX2 := Lib.hid lx; have K2 := Lib.hid k2; clear lx k2 hown hoth) | (go_at_call 28; refine (met_any WL0.out hbl hb0 NF.out hp hf ha1 ha2).mono ?_; rintro e w3 ⟨sl, rfl, hmr, k3⟩; have MR := Lib.hid hmr; have K3 := Lib.hid k3; clear hmr k3))
  go_ret
  have hz2 : w.heap.size ≤ w2.heap.size := Nat.le_trans KB.out.size K2.out.size
  refine ⟨_, g.asked, rfl, MR.out.low hz2, ha1, ha2, fun d hd => ?_, ?_⟩
  · have hty := LX2.out.askd d hd
    have fz := LX2.out.frz _ _ hty
    exact ⟨fz.met, fz.ne, v, fz.keys, fz.keys.dd⟩
  · exact ⟨SO.trans (KB.out.trans K2.out).so K3.out.so, Nat.le_trans hz2 K3.out.size, fun k hk _ => (K3.out.blk k (Nat.lt_of_lt_of_le hk hz2) hk).trans (((KB.out.trans K2.out).blk k hk trivial))⟩
end Go.Proofs
end
section
namespace Go.Proofs
open Go.RowKit
open Pl
theorem flatG_at (L : List Cf) (vs : List Value) (k : Nat) (x : Cf) (v : Value) (hx : L[k]? = some x) (hv : vs[k]? = some v) (i : Nat) (hi : i < 6) : (flatG L vs)[k * 6 + i]? = (cfgV x v)[i]? := by
  induction L generalizing k vs with
  | nil => simp at hx
  | cons y L ih =>
    cases vs with
    | nil => simp at hv
    | cons u vs =>
      have hl : (cfgV y u).length = 6 := rfl
      cases k with
      | zero =>
        simp at hx hv; subst hx hv
        unfold flatG
        rw [List.zip_cons_cons, List.flatMap_cons, List.getElem?_append_left (by rw [hl]; omega)]
        simp
      | succ k =>
        simp at hx hv
        unfold flatG
        rw [List.zip_cons_cons, List.flatMap_cons, List.getElem?_append_right (by rw [hl]; omega), hl]
        have := ih vs k hx hv
        unfold flatG at this
        rw [← this]
        congr 1
        omega

/-- The same, as the package's own configurations. -/
def CfgRow2 (B : Nat) (w : World) (sl : Value) (L : List Cf) : Prop := ∃ vs, vs.length = L.length ∧ w.ownsRow B 40 6 sl L.length (flatG L vs) ∧ ∀ v ∈ vs, CxAt B w v
theorem CfgRow2.kept {B B' : Nat} {w w' : World} {sl : Value} {L : List Cf} (h : CfgRow2 B w sl L) (hb : B' ≤ B) (k : ∀ (j : Nat) c T, B ≤ j → w.heap[j]? = some (Obj.cells c T (0, 0)) → (T = 3 ∨ T = 40) → w'.heap[j]? = w.heap[j]?) : CfgRow2 B' w' sl L := by
  obtain ⟨vs, h1, h2, h3⟩ := h
  exact ⟨vs, h1, own_low (own_kept' h2 (fun j hj => by obtain ⟨h1, _, c, h2⟩ := own_blk h2 hj; exact k j c 40 h1 h2 (.inr rfl))) hb, fun v hv => (h3 v hv).kept hb (fun j c hj hc => k j c 3 hj hc (.inl rfl))⟩
theorem CfgRow2.step {B : Nat} {wr w5 w1 : World} {c : Value} {L : List Cf} {vs : List Value} (h1 : vs.length = L.length) (h2 : wr.ownsRow B 40 6 c L.length (flatG L vs)) (h3 : ∀ v ∈ vs, CxAt B wr v) (k5 : Kp (fun _ => True) wr w5) {S5 : Nat} (hS : B ≤ S5) {x : Cf} {v : Value} (cx : CxAt S5 w5 v) (o : Obj) (gg cap : Nat)
    (own1 : w1.ownsRow B 40 6 (.slice (some ⟨gg, 0, none⟩) (L.length + 1) cap) (L.length + 1) (flatG L vs ++ cfgV x v)) (hg : (w5.alloc o).grownBy w1 c.ownBlock) :
    CfgRow2 B w1 (.slice (some ⟨gg, 0, none⟩) (L.length + 1) cap) (L ++ [x]) ∧ Kp (fun k => k < B) wr w1 := by
  have k1 : Kp (fun k => some k ≠ c.ownBlock) w5 w1 := (Kp.alloc _ _).trans (Kp.grown hg (fun k hk => hk))
  have o5 : w5.ownsRow B 40 6 c L.length (flatG L vs) := own_kept' h2 (fun j hj => k5.blk j (own_blk h2 hj).2.1 trivial)
  have far : ∀ (j : Nat) cs T, w5.heap[j]? = some (Obj.cells cs T (0, 0)) → T ≠ 40 → w1.heap[j]? = w5.heap[j]? := by
    intro j cs T hj hT
    refine k1.blk j (lt_of_block hj) (fun e => ?_)
    obtain ⟨_, _, c', hc'⟩ := own_blk o5 e.symm
    rw [hj] at hc'; cases hc'; exact hT rfl
  refine ⟨⟨vs ++ [v], by simp [h1], by rw [flatG_app _ _ _ _ h1]; simpa using own1, ?_⟩, ⟨SO.trans (k5.so) (k1.so), Nat.le_trans k5.size k1.size, fun k hk hb => ?_⟩⟩
  · intro u hu
    rcases List.mem_append.1 hu with hu | hu
    · refine (h3 u hu).kept (Nat.le_refl _) (fun j cs _ hj => ?_)
      have e5 := k5.blk j (lt_of_block hj) trivial
      exact (far j cs 3 (by rw [e5]; exact hj) (by decide)).trans e5
    · simp only [List.mem_singleton] at hu; subst hu
      exact cx.kept hS (fun j cs _ hj => far j cs 3 hj (by decide))
  · exact (k1.blk k (Nat.lt_of_lt_of_le hk k5.size) (fun e => by have := (own_blk o5 e.symm).1; omega)).trans (k5.blk k hk trivial)

def LpC (w : World) (L : List Cf) (t3 t9 : Value) (wr : World) : Prop := ∃ k : Nat, t9 = .int .i64 k ∧ k ≤ L.length ∧ CfgRow2 w.heap.size wr t3 (L.take k) ∧ Kp (fun _ => True) w wr
theorem info40 : (Tryz.prog.info? 40).map (fun i => (i.zero, i.size, i.bytes)) = some (some (.agg #[.int .i64 0, .int .i64 0, .slice none 0 0, .bool false, .bool false, .int .i64 0]), 6, 56) := by kernel_rfl

theorem CfgRow2.nil0 (w : World) : CfgRow2 w.heap.size (w.alloc (.cells #[] 40)) (.slice (some ⟨w.heap.size, 0, none⟩) 0 0) [] :=
  ⟨[], rfl, ⟨rfl, .inr ⟨w.heap.size, 0, #[], rfl, Nat.le_refl _, heap_alloc_new w _, Nat.le_refl _, by simp [maxLen], rfl, rfl⟩⟩, by simp⟩

theorem SC {w6 W : World} {cb : Nat} {a b c d e f : Value} (b6 : Blk w6 cb 103 #[a, b, c, d, e, f]) (k : Kp (fun k => k < w6.heap.size) w6 W) : W.cell? ⟨cb, 0, none⟩ = some a ∧ W.cell? ⟨cb, 1, none⟩ = some b ∧ W.cell? ⟨cb, 2, none⟩ = some c ∧ W.cell? ⟨cb, 3, none⟩ = some d ∧ W.cell? ⟨cb, 4, none⟩ = some e ∧ W.cell? ⟨cb, 5, none⟩ = some f := by
  have b7 := b6.kept (k.blk _ b6.lt b6.lt)
  exact ⟨b7.cell 0, b7.cell 1, b7.cell 2, b7.cell 3, b7.cell 4, b7.cell 5⟩
theorem blk_far {w1 w2 : World} {B : Nat} {o : Obj} {e : TypeId} {sz n : Nat} {v : Value} {xs : List Value} (own : w1.ownsRow B e sz v n xs) (hg : (w1.alloc o).grownBy w2 v.ownBlock) {cb : Nat} {T : TypeId} {c : Array Value} (b : Blk w1 cb T c) (hT : T ≠ e) : Blk w2 cb T c := by
  have k1 : Kp (fun k => some k ≠ v.ownBlock) w1 w2 := (Kp.alloc _ _).trans (Kp.grown hg (fun k hk => hk))
  refine b.kept (k1.blk cb b.lt (fun h => ?_))
  obtain ⟨_, _, c', hc'⟩ := own_blk own h.symm
  unfold Blk at b
  rw [b] at hc'; cases hc'; exact hT rfl
theorem own_nil (w : World) (B : Nat) (hB : B ≤ w.heap.size) (e : TypeId) (sz : Nat) : (w.alloc (.cells #[] e)).drew.ownsRow B e sz (.slice (some ⟨w.heap.size, 0, none⟩) 0 0) 0 [] :=
  ⟨by simp, .inr ⟨w.heap.size, 0, #[], rfl, hB, heap_alloc_new w _, Nat.le_refl _, by simp [maxLen], by simp, by simp⟩⟩
theorem cx_news {B : Nat} {w W : World} {ug uc : Nat} (h : CxAt B w (.slice (some ⟨ug, 0, none⟩) 3 uc)) (k : Kp (fun _ => True) w W) : ∀ j u, cxL[j]? = some u → W.cell? ((⟨ug, 0, none⟩ : Addr).add j) = some u := by
  intro j u hu
  have h0 := h.cells (g := ug) rfl j u hu
  have e : (⟨ug, 0, none⟩ : Addr).add j = ⟨ug, j, none⟩ := by
    by_cases hi : j = 0
    · rw [hi]; rfl
    · simp only [Addr.add, hi]; simp
  rw [e] at h0 ⊢
  exact (World.cell?_of_block (k.blk ug (cell_lt h0) trivial)).trans h0

set_option maxRecDepth 100000 in
set_option maxHeartbeats 4000000 in
theorem cfgs_any {S : Nat} {w : World} {sl : Value} {L : List Cf} (h : CfgRow S w sl L) (hne : L.length ≠ 0) (hl : L.length ≤ 1600000000000) :
    Calls Tryz.prog 20 #[sl] w fun e w' => ∃ sl', e = .returned sl' ∧ CfgRow2 w.heap.size w' sl' L ∧ Kp (fun _ => True) w w' := by
  obtain ⟨gs, gsc, rfl⟩ := h.form hne
  obtain ⟨us, u1, u2, u3⟩ := h
  have U2 := Lib.hid u2
  have U3 := Lib.hid u3
  clear u2 u3
  go_enter Tryz.func20, Tryz.ntmps20
  go_wp2_with fail
  go_loopw [3, 9] (fun t3 t9 wr => LpC w L t3 t9 wr) (fun _ t9 _ => L.length - (intOf t9).toNat)
  case atStart => exact ⟨0, rfl, Nat.zero_le _, CfgRow2.nil0 w, Kp.alloc _ _⟩
  case round =>
    obtain ⟨k, rfl, hk, row, kx⟩ := hrel
    by_cases hkn : k < L.length
    · have hkn' : (k : Int) < (L.length : Int) := by omega
      obtain ⟨x, hx⟩ : ∃ x, L[k]? = some x := ⟨L[k]'hkn, by simp⟩
      obtain ⟨u, hu⟩ : ∃ u, us[k]? = some u := ⟨us[k]'(by omega), by simp⟩
      have hcx := U3.out u (List.mem_of_getElem? hu)
      obtain ⟨ug, uc, rfl, _⟩ := own_form hcx (by omega)
      have cl : ∀ i y, i < 6 → (cfgV x (.slice (some ⟨ug, 0, none⟩) 3 uc))[i]? = some y → wr.cell? ⟨gs, k * 6 + i, none⟩ = some y := fun i y hi hy => by
        have h0 := U2.out.cells (g := gs) rfl (k * 6 + i) y (by rw [flatG_at _ _ _ _ _ hx hu i hi]; exact hy)
        have e : (⟨gs, 0, none⟩ : Addr).add (k * 6 + i) = ⟨gs, k * 6 + i, none⟩ := by
          by_cases hi : k * 6 + i = 0
          · rw [hi]; rfl
          · simp only [Addr.add, hi]; simp
        rw [e] at h0
        exact (World.cell?_of_block (kx.blk gs (cell_lt h0) trivial)).trans h0
      have e0 : wr.cell? ⟨gs, k * 6, none⟩ = some (.int .i64 x.n) := cl 0 _ (by omega) rfl
      have e1 := cl 1 _ (by omega) rfl
      have e2 := cl 2 _ (by omega) rfl
      have e3 := cl 3 _ (by omega) rfl
      have e4 := cl 4 _ (by omega) rfl
      have e5 := cl 5 _ (by omega) rfl
      clear cl
      go_upto_region 5 with fail
      obtain ⟨cb, hcb⟩ : ∃ cb, cb = wr.heap.size := ⟨_, rfl⟩
      have b6 : Blk (wr.alloc (.cells #[.int .i64 x.n, .int .i64 x.alt, .slice (some ⟨ug, 0, none⟩) 3 uc, .bool false, .bool false, .int .i64 (lhI x.n x.alt)] 103)) cb 103 #[.int .i64 x.n, .int .i64 x.alt, .slice (some ⟨ug, 0, none⟩) 3 uc, .bool false, .bool false, .int .i64 (lhI x.n x.alt)] := by rw [hcb]; exact Blk.new _ _ _
      have k6 : Kp (fun _ => True) wr (wr.alloc (.cells #[.int .i64 x.n, .int .i64 x.alt, .slice (some ⟨ug, 0, none⟩) 3 uc, .bool false, .bool false, .int .i64 (lhI x.n x.alt)] 103)) := Kp.alloc _ _
      rw [← hcb]
      generalize wr.alloc (.cells #[.int .i64 x.n, .int .i64 x.alt, .slice (some ⟨ug, 0, none⟩) 3 uc, .bool false, .bool false, .int .i64 (lhI x.n x.alt)] 103) = w6 at b6 k6 ⊢
      obtain ⟨vs, v1, v2, v3⟩ := row
      have hlen : (L.take k).length = k := by simp; omega
      have hw6 : w.heap.size ≤ wr.heap.size := kx.size
      have hr6 : wr.heap.size ≤ w6.heap.size := k6.size
      have B6 := Lib.hid b6
      have K6 := Lib.hid k6
      have V2 := Lib.hid v2
      have V3 := Lib.hid v3
      have CX6 : Hid (CxAt S w (.slice (some ⟨ug, 0, none⟩) 3 uc)) := Lib.hid hcx
      have KX := Lib.hid kx
      clear b6 k6 v2 v3 kx hcx e0 e1 e2 e3 e4 e5 hcb
      obtain ⟨i3, hi3, hy0, hy1, hy2⟩ := info_parts info3
      obtain ⟨i4, hi4, hv0, hv1, hv2⟩ := info_parts info40
      go_region_held3 (fun w' => w'.cell? ⟨cb, 0, none⟩ = some (.int .i64 x.n) ∧ w'.cell? ⟨cb, 1, none⟩ = some (.int .i64 x.alt) ∧ w'.cell? ⟨cb, 2, none⟩ = some (.slice (some ⟨ug, 0, none⟩) 3 uc) ∧ w'.cell? ⟨cb, 3, none⟩ = some (.bool false) ∧ w'.cell? ⟨cb, 4, none⟩ = some (.bool false) ∧ w'.cell? ⟨cb, 5, none⟩ = some (.int .i64 (lhI x.n x.alt)))
        ((first | (refine SC B6.out ?_; first | (with_reducible exact Kp.drew _) | (with_reducible exact (Kp.alloc _ _).trans (Kp.drew _)) | (with_reducible exact k61) | (with_reducible exact k61.trans (Kp.alloc _ _))) | exact SC b62 Kp.rfl'))
        (first | (refine step_append_lies _ (by rfl) _ _ _ (by rfl) w6.heap.size 3 i3 _ 1 8 Tryz.underlying29 hi3 hy0 hy1 hy2 rfl (by omega) (.slice (some ⟨w6.heap.size, 0, none⟩) 0 0) 0 [] (by rfl) (own_nil w6 _ (Nat.le_refl _) 3 1) ⟨ug, 0, none⟩ 3 uc cxL (by rfl) (by rfl) (cx_news CX6.out ((KX.out.trans K6.out).trans ((Kp.alloc _ _).trans (Kp.drew _)))) (by simp [Value.oneCell', cxL]) (by omega) (by simp [maxLen]) (by omega) (by simp) (w6.heap.size + 1) (by simp) ?_; intro g1 cap1 w1 hown1 hgrow1 hat1 hlt1; have k61 : Kp (fun k => k < w6.heap.size) w6 w1 := ((Kp.alloc _ _).trans (Kp.drew _)).trans (Kp.grown hgrow1 (fun k hk e => by simp [Value.ownBlock] at e; omega)); have KR1 : Hid (Kp (fun _ => True) wr w1) := Lib.hid ⟨SO.trans (K6.out.so) (k61.so), Nat.le_trans K6.out.size k61.size, fun j hj _ => (k61.blk j (Nat.lt_of_lt_of_le hj K6.out.size) (Nat.lt_of_lt_of_le hj K6.out.size)).trans (K6.out.blk j hj trivial)⟩; have O1 : Hid (w1.ownsRow w.heap.size 40 6 u3 (L.take k).length (flatG (L.take k) vs)) := Lib.hid (own_kept' V2.out (fun k hk => KR1.out.blk k (own_blk V2.out hk).2.1 trivial)); have HO1 : Hid (CxAt w6.heap.size w1 (.slice (some ⟨g1, 0, none⟩) 3 cap1)) := Lib.hid hown1; have lw1 : w6.heap.size ≤ w1.heap.size := k61.size; clear hown1 hgrow1 hat1 hlt1) | (refine step_append_lies _ (by rfl) _ _ _ (by rfl) w.heap.size 40 i4 _ 6 56 Tryz.underlying36 hi4 hv0 hv1 hv2 rfl (by omega) u3 (L.take k).length (flatG (L.take k) vs) (by rfl) (O1.out.alloc _) ⟨w1.heap.size, 0, none⟩ 1 1 (cfgV x (.slice (some ⟨g1, 0, none⟩) 3 cap1)) (by rfl) (by rfl) (World.news_of_block (cs := #[.int .i64 x.n, .int .i64 x.alt, .slice (some ⟨g1, 0, none⟩) 3 cap1, .bool false, .bool false, .int .i64 (lhI x.n x.alt)]) (t := 40) (fr := (0, 0)) (heap_alloc_new w1 _)) (by simp [Value.oneCell', cfgV]) (by omega) (by simp [maxLen]; omega) (by omega) (by simp; omega) (w1.heap.size + 1) (by simp) ?_; intro g2 cap2 w2 hown2 hgrow2 hat2 hlt2; have ST := Lib.hid (CfgRow2.step v1 V2.out V3.out KR1.out (Nat.le_trans hw6 hr6) HO1.out _ g2 cap2 hown2 hgrow2); have b62 := blk_far O1.out hgrow2 (B6.out.kept (k61.blk _ B6.out.lt B6.out.lt)) (by decide); have hg2 : w1.heap.size ≤ w2.heap.size := Nat.le_trans (by simp) hgrow2.size))
      all_goals
        have et : L.take (k + 1) = L.take k ++ [x] := by rw [List.take_add_one, hx]; rfl
        have FIN : LpC w L (.slice (some ⟨g2, 0, none⟩) (k + 1) cap2) (.int .i64 ((k : Int) + 1)) w2 := by
          obtain ⟨s1, s2⟩ := ST.out
          rw [hlen] at s1
          refine ⟨k + 1, by simp, by omega, by rw [et]; exact s1, ⟨SO.trans KX.out.so s2.so, by have := KR1.out.size; omega, fun j hj _ => ?_⟩⟩
          exact (s2.blk j (Nat.lt_of_lt_of_le hj hw6) hj).trans (KX.out.blk j hj trivial)
        clear b62 hg2
        go_wp2_with fail
      all_goals first | exact ⟨FIN, by simp [intOf]; omega⟩ | skip
      all_goals go_show
    · have hkn' : ¬ (k : Int) < (L.length : Int) := by omega
      have hke : k = L.length := by omega
      subst hke
      rw [List.take_of_length_le (Nat.le_refl _)] at row
      go_wp2_with fail
      go_ret
      exact ⟨_, rfl, row, kx⟩
end Go.Proofs
end
section
namespace Go.Proofs
open Go.RowKit
open Pl
/-- A network, as the package's own value. -/
structure NetV where
  mt : Int
  sB : Nat
  sn : Nat
  sc : Nat
  aB : Nat
  an : Nat
  ac : Nat
  kB : Nat
  kn : Nat
  kc : Nat
  eB : Nat
  en : Nat
  ec : Nat
  dB : Nat
  dn : Nat
  dc : Nat
def NetV.val (x : NetV) : Value := .agg #[.int .i64 x.mt, .slice (some ⟨x.sB, 0, none⟩) x.sn x.sc, .slice (some ⟨x.aB, 0, none⟩) x.an x.ac, .slice (some ⟨x.kB, 0, none⟩) x.kn x.kc, .slice (some ⟨x.eB, 0, none⟩) x.en x.ec, .slice (some ⟨x.dB, 0, none⟩) x.dn x.dc]

/-- What a network's making leaves. -/
def NtRet (N : Bd) (w : World) (e : Ending) (w' : World) : Prop :=
  ∃ (ab tt nr nd : Nat) (v : AV), e = .returned (.pointer (some ⟨ab, 0, none⟩)) ∧ AtnAt w'.heap.size w' N v ∧ AtF w'.heap.size w' N v ab tt nr ∧ DcF w'.heap.size w' N v ab nd ∧ Kp (fun _ => True) w w'

/-- The states, as the package tells them. -/
def MetRow2 (B : Nat) (w : World) (sl : Value) (ds : List DS) : Prop := ∃ ps, ps.length = ds.length ∧ w.ownsRow B 38 4 sl ds.length (flatM ds ps) ∧ ∀ x ∈ ds.zip ps, CfgRow2 B w x.2.1 (ddC x.1.L) ∧ CfgRow2 B w x.2.2 x.1.L

theorem CfgRow2.form {B : Nat} {w : World} {sl : Value} {L : List Cf} (h : CfgRow2 B w sl L) (hn : L.length ≠ 0) : ∃ g cap, sl = .slice (some ⟨g, 0, none⟩) L.length cap := by
  obtain ⟨vs, _, h2, _⟩ := h
  obtain ⟨g, cap, e, _⟩ := own_form h2 hn
  exact ⟨g, cap, e⟩
theorem MetRow2.step {S gg cap : Nat} {w0 wr w1 : World} {t2 c a : Value} {ds : List DS} {d : DS} {ps : List (Value × Value)} (p1 : ps.length = ds.length) (p2 : w0.ownsRow S 38 4 t2 ds.length (flatM ds ps)) (p3 : ∀ x ∈ ds.zip ps, CfgRow2 S w0 x.2.1 (ddC x.1.L) ∧ CfgRow2 S w0 x.2.2 x.1.L)
    (kx : Kp (fun _ => True) w0 wr) (rc : CfgRow2 S wr c (ddC d.L)) (ra : CfgRow2 S wr a d.L) (o : Obj) (own1 : w1.ownsRow S 38 4 (.slice (some ⟨gg, 0, none⟩) (ds.length + 1) cap) (ds.length + 1) (flatM ds ps ++ metV d (c, a))) (hg : (wr.alloc o).grownBy w1 t2.ownBlock) :
    MetRow2 S w1 (.slice (some ⟨gg, 0, none⟩) (ds.length + 1) cap) (ds ++ [d]) ∧ Kp (fun k => k < S) wr w1 := by
  have o1 : wr.ownsRow S 38 4 t2 ds.length (flatM ds ps) := own_kept' p2 (fun k hk => by
    obtain ⟨l1, l2, _⟩ := own_blk p2 hk
    exact kx.blk k l2 trivial)
  have k1 : Kp (fun k => some k ≠ t2.ownBlock) wr w1 := (Kp.alloc _ _).trans (Kp.grown hg (fun k hk => hk))
  have far : ∀ (j : Nat) (cs : Array Value) (T : TypeId), wr.heap[j]? = some (Obj.cells cs T (0, 0)) → (T = 3 ∨ T = 40) → w1.heap[j]? = wr.heap[j]? := by
    intro j cs T hj hT
    refine k1.blk j (lt_of_block hj) (fun e => ?_)
    obtain ⟨_, _, c', hc'⟩ := own_blk o1 e.symm
    rw [hj] at hc'; cases hc'
    rcases hT with h | h <;> simp at h
  have up : ∀ sl L, CfgRow2 S w0 sl L → CfgRow2 S w1 sl L := by
    intro sl L h
    have h2 : CfgRow2 S wr sl L := h.kept (Nat.le_refl _) (fun j cs T hj hc hT => kx.blk j (lt_of_block hc) trivial)
    exact h2.kept (Nat.le_refl _) (fun j cs T _ hc hT => far j cs T hc hT)
  refine ⟨⟨ps ++ [(c, a)], by simp [p1], by rw [flatM_app _ _ _ _ p1]; simpa using own1, ?_⟩, ⟨⟨k1.so.os, k1.so.out⟩, k1.size, fun k hk hb => k1.blk k hk (fun e => by have := (own_blk o1 e.symm).1; omega)⟩⟩
  intro x hx
  rw [List.zip_append p1.symm] at hx
  rcases List.mem_append.1 hx with hx | hx
  · exact ⟨up _ _ (p3 x hx).1, up _ _ (p3 x hx).2⟩
  · simp at hx; subst hx
    exact ⟨rc.kept (Nat.le_refl _) (fun j cs T _ hc hT => far j cs T hc hT), ra.kept (Nat.le_refl _) (fun j cs T _ hc hT => far j cs T hc hT)⟩

theorem flatM_at (ds : List DS) (ps : List (Value × Value)) (k : Nat) (d : DS) (p : Value × Value) (hx : ds[k]? = some d) (hv : ps[k]? = some p) (i : Nat) (hi : i < 4) : (flatM ds ps)[k * 4 + i]? = (metV d p)[i]? := by
  induction ds generalizing k ps with
  | nil => simp at hx
  | cons y L ih =>
    cases ps with
    | nil => simp at hv
    | cons u vs =>
      have hl : (metV y u).length = 4 := rfl
      cases k with
      | zero =>
        simp at hx hv; subst hx hv
        unfold flatM
        rw [List.zip_cons_cons, List.flatMap_cons, List.getElem?_append_left (by rw [hl]; omega)]
        simp
      | succ k =>
        simp at hx hv
        unfold flatM
        rw [List.zip_cons_cons, List.flatMap_cons, List.getElem?_append_right (by rw [hl]; omega), hl]
        have := ih vs k hx hv
        unfold flatM at this
        rw [← this]
        congr 1
        omega
theorem info38 : (Tryz.prog.info? 38).map (fun i => (i.zero, i.size, i.bytes)) = some (some (.agg #[.int .i64 0, .int .i64 0, .slice none 0 0, .slice none 0 0]), 4, 64) := by kernel_rfl
def StRet (w : World) (N : Bd) (f : Nat) (e : Ending) (w' : World) : Prop :=
  ∃ (sl : Value) (ds : List DS), e = .returned sl ∧ MetRow2 w.heap.size w' sl ds ∧ 1 ≤ ds.length ∧ ds.length ≤ 10000 ∧ (∀ d ∈ ds, DOk N f d) ∧ Kp (fun _ => True) w w'
def P38 (w3 : World) (k : Nat) : Prop := ∀ c, w3.heap[k]? ≠ some (Obj.cells c 38 (0, 0))
def LpS (w w3 : World) (ds : List DS) (t5 t15 : Value) (wr : World) : Prop := ∃ k : Nat, t15 = .int .i64 k ∧ k ≤ ds.length ∧ MetRow2 w.heap.size wr t5 (ds.take k) ∧ Kp (fun k => k < w.heap.size) w wr ∧ Kp (P38 w3) w3 wr
theorem CfgRow.at38 {B : Nat} {w3 wr : World} {sl : Value} {L : List Cf} (h : CfgRow B w3 sl L) (k : Kp (P38 w3) w3 wr) : CfgRow B wr sl L :=
  h.kept (Nat.le_refl _) (fun j cs T _ hc hT => k.blk j (lt_of_block hc) (fun c e => by rw [hc] at e; cases e; rcases hT with h | h <;> simp at h))
theorem kp38 {w3 wr w8 w9 : World} {B : Nat} {o : Obj} {n sz : Nat} {t5 : Value} {xs : List Value} (k : Kp (P38 w3) w3 wr) (k8 : Kp (fun _ => True) wr w8) (own : w8.ownsRow B 38 sz t5 n xs) (hg : (w8.alloc o).grownBy w9 t5.ownBlock) : Kp (P38 w3) w3 w9 := by
  have k1 : Kp (fun k => some k ≠ t5.ownBlock) w8 w9 := (Kp.alloc _ _).trans (Kp.grown hg (fun k hk => hk))
  refine ⟨SO.trans (k.so) (SO.trans (k8.so) (k1.so)), Nat.le_trans k.size (Nat.le_trans k8.size k1.size), fun j hj hp => ?_⟩
  have e8 : w8.heap[j]? = w3.heap[j]? := (k8.blk j (Nat.lt_of_lt_of_le hj k.size) trivial).trans (k.blk j hj hp)
  refine (k1.blk j (Nat.lt_of_lt_of_le hj (Nat.le_trans k.size k8.size)) (fun e => ?_)).trans e8
  obtain ⟨_, _, c, hc⟩ := own_blk own e.symm
  exact hp c (by rw [← e8]; exact hc)
theorem SC4 {w6 W : World} {cb : Nat} {a b c d : Value} (b6 : Blk w6 cb 73 #[a, b, c, d]) (k : Kp (fun k => k < w6.heap.size) w6 W) : W.cell? ⟨cb, 0, none⟩ = some a ∧ W.cell? ⟨cb, 1, none⟩ = some b ∧ W.cell? ⟨cb, 2, none⟩ = some c ∧ W.cell? ⟨cb, 3, none⟩ = some d := by
  have b7 := b6.kept (k.blk _ b6.lt b6.lt)
  exact ⟨b7.cell 0, b7.cell 1, b7.cell 2, b7.cell 3⟩
theorem MetRow2.nil0 (w W : World) (h : w.heap.size ≤ W.heap.size) : MetRow2 w.heap.size (W.alloc (.cells #[] 38)) (.slice (some ⟨W.heap.size, 0, none⟩) 0 0) [] :=
  ⟨[], rfl, ⟨rfl, .inr ⟨W.heap.size, 0, #[], rfl, h, heap_alloc_new W _, Nat.le_refl _, by simp [maxLen], rfl, rfl⟩⟩, by simp⟩

set_option maxRecDepth 100000 in
set_option maxHeartbeats 4000000 in
theorem states_any {w : World} {N : Bd} {f : Nat} (nf : NetF N f) (x : NetV) (HL : ∀ W, Kp (fun _ => True) w W → Calls Tryz.prog 19 #[x.val] W fun e w' => NtRet N W e w') (s : ByteArray) (hs : s.size ≤ 60) :
    Calls Tryz.prog 9 #[x.val, .string s] w fun e w' => StRet w N f e w' := by
  have hb1 : Kp (fun _ => True) w ((w.alloc (.cells #[.int .i64 x.mt, .slice (some ⟨x.sB, 0, none⟩) x.sn x.sc, .slice (some ⟨x.aB, 0, none⟩) x.an x.ac, .slice (some ⟨x.kB, 0, none⟩) x.kn x.kc, .slice (some ⟨x.eB, 0, none⟩) x.en x.ec, .slice (some ⟨x.dB, 0, none⟩) x.dn x.dc] 32)).alloc (.cells #[] 38)) := (Kp.alloc _ _).trans (Kp.alloc _ _)
  have H1 := Lib.hid (HL _ hb1)
  have HB1 := Lib.hid hb1
  have NF := Lib.hid nf
  unfold NetV.val at H1 ⊢
  clear HL hb1 nf
  go_enter Tryz.func9, Tryz.ntmps9
  go_wp2_with (first | (go_at_call 19; refine H1.out.mono ?_; rintro e w2 ⟨ab, tt, nr, nd, v, rfl, x1, x2, x3, k2⟩; have LX := Lib.hid (lexs_any x1 x2 x3 NF.out s hs); have K2 := Lib.hid k2; clear x1 x2 x3 k2) | (go_at_call 18; refine LX.out.mono ?_; rintro e w3 ⟨sl, ds, rfl, hmr, hd1, hd2, hdk, k3⟩; obtain ⟨ms, m1, m2, m3⟩ := hmr; obtain ⟨mg, mgc, rfl, _⟩ := own_form m2 (by omega); have M2 := Lib.hid m2; have M3 := Lib.hid m3; have DK := Lib.hid hdk; have K3 := Lib.hid k3; clear m2 m3 hdk k3))
  have hz2 : w.heap.size + 1 < w2.heap.size := Nat.lt_of_lt_of_le (by simp) K2.out.size
  have hz3 : w2.heap.size ≤ w3.heap.size := K3.out.size
  have K03 : Hid (Kp (fun _ => True) w w3) := Lib.hid ((HB1.out.trans K2.out).trans K3.out)
  have N0 : Hid (MetRow2 w.heap.size w3 (.slice (some ⟨w.heap.size + 1, 0, none⟩) 0 0) []) := by
    have h0 : Blk ((w.alloc (.cells #[.int .i64 x.mt, .slice (some ⟨x.sB, 0, none⟩) x.sn x.sc, .slice (some ⟨x.aB, 0, none⟩) x.an x.ac, .slice (some ⟨x.kB, 0, none⟩) x.kn x.kc, .slice (some ⟨x.eB, 0, none⟩) x.en x.ec, .slice (some ⟨x.dB, 0, none⟩) x.dn x.dc] 32)).alloc (.cells #[] 38)) (w.heap.size + 1) 38 #[] := heap_new2 w _ _
    have h3 : Blk w3 (w.heap.size + 1) 38 #[] := h0.kept ((K2.out.trans K3.out).blk _ h0.lt trivial)
    exact Lib.hid ⟨[], rfl, ⟨rfl, .inr ⟨w.heap.size + 1, 0, #[], rfl, by omega, h3, Nat.le_refl _, by simp [maxLen], rfl, rfl⟩⟩, by simp⟩
  clear H1 HB1 LX
  go_loopw [5, 15] (fun t5 t15 wr => LpS w w3 ds t5 t15 wr) (fun _ t15 _ => ds.length - (intOf t15).toNat)
  case atStart => exact ⟨0, rfl, Nat.zero_le _, N0.out, K03.out.weak (fun _ _ => trivial), Kp.rfl'⟩
  case round =>
    obtain ⟨k, rfl, hk, row, kw, k3⟩ := hrel
    by_cases hkn : k < ds.length
    · have hkn' : (k : Int) < (ds.length : Int) := by omega
      obtain ⟨d, hd⟩ : ∃ d, ds[k]? = some d := ⟨ds[k]'hkn, by simp⟩
      obtain ⟨p, hp⟩ : ∃ p, ms[k]? = some p := ⟨ms[k]'(by omega), by simp⟩
      have hmem : (d, p) ∈ ds.zip ms := List.mem_of_getElem? (i := k) ((List.getElem?_zip_eq_some (z := (d, p))).2 ⟨hd, hp⟩)
      obtain ⟨hme, hne, v, hk1, hk2⟩ := DK.out d (List.mem_of_getElem? hd)
      have hlq : d.L.length ≤ 1600000000000 := by have := met_len NF.out hme; have := hk1.len; omega
      have hlc : (ddC d.L).length ≤ 1600000000000 := Nat.le_trans (ddC_len _) hlq
      have hne1 : d.L.length ≠ 0 := fun e => hne (List.eq_nil_of_length_eq_zero e)
      have hne2 : (ddC d.L).length ≠ 0 := fun e => ddC_ne hne (List.eq_nil_of_length_eq_zero e)
      obtain ⟨rc, ra⟩ := M3.out _ hmem
      have RC := rc.at38 k3
      have RA := ra.at38 k3
      obtain ⟨pc, pa⟩ := p
      obtain ⟨cg, cc, hcg⟩ := RC.form hne2
      obtain ⟨ag, ac, hag⟩ := RA.form hne1
      simp only at hcg hag
      subst hcg hag
      have cl : ∀ i y, i < 4 → (metV d (.slice (some ⟨cg, 0, none⟩) (ddC d.L).length cc, .slice (some ⟨ag, 0, none⟩) d.L.length ac))[i]? = some y → wr.cell? ⟨mg, k * 4 + i, none⟩ = some y := fun i y hi hy => by
        have h0 := M2.out.cells (g := mg) rfl (k * 4 + i) y (by rw [flatM_at _ _ _ _ _ hd hp i hi]; exact hy)
        have e : (⟨mg, 0, none⟩ : Addr).add (k * 4 + i) = ⟨mg, k * 4 + i, none⟩ := by
          by_cases hi : k * 4 + i = 0
          · rw [hi]; rfl
          · simp only [Addr.add, hi]; simp
        rw [e] at h0
        obtain ⟨_, _, c, hc⟩ := own_blk M2.out (k := mg) rfl
        exact (World.cell?_of_block (k3.blk mg (cell_lt h0) (fun c' e => by rw [hc] at e; cases e))).trans h0
      have e0 : wr.cell? ⟨mg, k * 4, none⟩ = some (.int .i64 0) := cl 0 _ (by omega) rfl
      have e1 := cl 1 _ (by omega) rfl
      have e2 := cl 2 _ (by omega) rfl
      have e3 := cl 3 _ (by omega) rfl
      have HRC := Lib.hid RC
      have HRA := Lib.hid RA
      have HK3 := Lib.hid k3
      have HKW := Lib.hid kw
      have hme' := Lib.hid hd
      clear cl rc ra RC RA hme hk1 hk2
      obtain ⟨qs, v1, v2, v3⟩ := row
      have V2 := Lib.hid v2
      have V3 := Lib.hid v3
      clear v2 v3 k3 kw
      go_upto_region 5 with fail
      obtain ⟨cb, hcb⟩ : ∃ cb, cb = wr.heap.size := ⟨_, rfl⟩
      have b6 : Blk (wr.alloc (.cells #[.int .i64 0, .int .i64 (dfaHashL (ddC d.L)), .slice (some ⟨cg, 0, none⟩) (ddC d.L).length cc, .slice (some ⟨ag, 0, none⟩) d.L.length ac] 73)) cb 73 #[.int .i64 0, .int .i64 (dfaHashL (ddC d.L)), .slice (some ⟨cg, 0, none⟩) (ddC d.L).length cc, .slice (some ⟨ag, 0, none⟩) d.L.length ac] := by rw [hcb]; exact Blk.new _ _ _
      have k6 : Kp (fun _ => True) wr (wr.alloc (.cells #[.int .i64 0, .int .i64 (dfaHashL (ddC d.L)), .slice (some ⟨cg, 0, none⟩) (ddC d.L).length cc, .slice (some ⟨ag, 0, none⟩) d.L.length ac] 73)) := Kp.alloc _ _
      rw [← hcb]
      generalize wr.alloc (.cells #[.int .i64 0, .int .i64 (dfaHashL (ddC d.L)), .slice (some ⟨cg, 0, none⟩) (ddC d.L).length cc, .slice (some ⟨ag, 0, none⟩) d.L.length ac] 73) = w6 at b6 k6 ⊢
      have hlen : (ds.take k).length = k := by simp; omega
      have hwr : w.heap.size ≤ wr.heap.size := HKW.out.size
      have hr6 : wr.heap.size ≤ w6.heap.size := k6.size
      have B6 := Lib.hid b6
      have K6 := Lib.hid k6
      have RC6 : Hid (CfgRow w2.heap.size w6.drew (.slice (some ⟨cg, 0, none⟩) (ddC d.L).length cc) (ddC d.L)) := Lib.hid (HRC.out.kept (Nat.le_refl _) (fun j _ _ _ hc _ => k6.blk j (lt_of_block hc) trivial))
      have HD := hme'
      clear b6 k6 e0 e1 e2 e3 hcb hme'
      obtain ⟨i4, hi4, hv0, hv1, hv2⟩ := info_parts info38
      go_region_held3 (fun w' => w'.cell? ⟨cb, 0, none⟩ = some (.int .i64 0) ∧ w'.cell? ⟨cb, 1, none⟩ = some (.int .i64 (dfaHashL (ddC d.L))) ∧ w'.cell? ⟨cb, 2, none⟩ = some (.slice (some ⟨cg, 0, none⟩) (ddC d.L).length cc) ∧ w'.cell? ⟨cb, 3, none⟩ = some (.slice (some ⟨ag, 0, none⟩) d.L.length ac))
        ((first | (refine SC4 B6.out ?_; first | (with_reducible exact Kp.drew _) | (with_reducible exact k67) | (with_reducible exact k68) | (with_reducible exact k68.trans (Kp.alloc _ _))) | exact SC4 b69 Kp.rfl'))
        (first | (go_at_call 20; refine (cfgs_any RA7.out hne1 hlq).mono ?_; rintro e w8 ⟨a2, rfl, ha2, k8⟩; obtain ⟨a2g, a2c, rfl⟩ := ha2.form hne1; have k68 : Kp (fun k => k < w6.heap.size) w6 w8 := k67.trans (k8.weak (fun _ _ => trivial)); have lw8 : w7.heap.size ≤ w8.heap.size := k8.size; have HA2 := Lib.hid ha2; have K78 := Lib.hid k8; have KR8 : Hid (Kp (fun _ => True) wr w8) := Lib.hid (((K6.out.trans (Kp.drew _)).trans K7.out).trans k8); have O8 : Hid (w8.ownsRow w.heap.size 38 4 u5 (ds.take k).length (flatM (ds.take k) qs)) := Lib.hid (own_kept' V2.out (fun k hk => KR8.out.blk k (own_blk V2.out hk).2.1 trivial)); clear ha2 k8) | (go_at_call 20; refine (cfgs_any RC6.out hne2 hlc).mono ?_; rintro e w7 ⟨c2, rfl, hc2, k7⟩; obtain ⟨c2g, c2c, rfl⟩ := hc2.form hne2; have k67 : Kp (fun k => k < w6.heap.size) w6 w7 := (Kp.drew _).trans (k7.weak (fun _ _ => trivial)); have lw7 : w6.heap.size ≤ w7.heap.size := k67.size; have HC2 := Lib.hid hc2; have K7 := Lib.hid k7; have RA7 : Hid (CfgRow w2.heap.size w7 (.slice (some ⟨ag, 0, none⟩) d.L.length ac) d.L) := Lib.hid (HRA.out.kept (Nat.le_refl _) (fun j _ _ _ hc _ => ((K6.out.trans (Kp.drew _)).trans k7).blk j (lt_of_block hc) trivial)); clear hc2 k7) | (refine step_append_lies _ (by rfl) _ _ _ (by rfl) w.heap.size 38 i4 _ 4 64 Tryz.underlying34 hi4 hv0 hv1 hv2 rfl (by omega) u5 (ds.take k).length (flatM (ds.take k) qs) (by rfl) (O8.out.alloc _) ⟨w8.heap.size, 0, none⟩ 1 1 (metV d (.slice (some ⟨c2g, 0, none⟩) (ddC d.L).length c2c, .slice (some ⟨a2g, 0, none⟩) d.L.length a2c)) (by rfl) (by rfl) (World.news_of_block (cs := #[.int .i64 0, .int .i64 (dfaHashL (ddC d.L)), .slice (some ⟨c2g, 0, none⟩) (ddC d.L).length c2c, .slice (some ⟨a2g, 0, none⟩) d.L.length a2c]) (t := 38) (fr := (0, 0)) (heap_alloc_new w8 _)) (by simp [Value.oneCell', metV]) (by omega) (by simp [maxLen]; omega) (by omega) (by simp; omega) (w8.heap.size + 1) (by simp) ?_; intro g9 cap9 w9 hown9 hgrow9 hat9 hlt9; have ST := Lib.hid (MetRow2.step v1 V2.out V3.out KR8.out (HC2.out.kept (Nat.le_trans hwr hr6 : w.heap.size ≤ w6.heap.size) (fun j _ _ _ hc _ => K78.out.blk j (lt_of_block hc) trivial)) (HA2.out.kept (by omega : w.heap.size ≤ w7.heap.size) (fun _ _ _ _ _ _ => rfl)) _ hown9 hgrow9); have b69 := blk_far O8.out hgrow9 (B6.out.kept (k68.blk _ B6.out.lt B6.out.lt)) (by decide); have KP9 := Lib.hid (kp38 HK3.out KR8.out O8.out hgrow9); clear hown9 hgrow9 hat9 hlt9))
      all_goals
        have et : ds.take (k + 1) = ds.take k ++ [d] := by rw [List.take_add_one, HD.out]; rfl
        have FIN : LpS w w3 ds (.slice (some ⟨g9, 0, none⟩) (k + 1) cap9) (.int .i64 ((k : Int) + 1)) w9 := by
          obtain ⟨s1, s2⟩ := ST.out
          rw [hlen] at s1
          refine ⟨k + 1, by simp, by omega, by rw [et]; exact s1, (HKW.out.trans (KR8.out.weak (fun _ _ => trivial))).trans s2, KP9.out⟩
        clear b69
        go_wp2_with fail
      all_goals first | exact ⟨FIN, by simp [intOf]; omega⟩ | skip
      all_goals go_show
    · have hkn' : ¬ (k : Int) < (ds.length : Int) := by omega
      have hke : k = ds.length := by omega
      subst hke
      rw [List.take_of_length_le (Nat.le_refl _)] at row
      go_wp2_with fail
      go_ret
      exact ⟨_, ds, rfl, row, hd1, hd2, DK.out, ⟨⟨kw.so.os, kw.so.out⟩, kw.size, fun j hj _ => kw.blk j hj hj⟩⟩
end Go.Proofs
end
section
namespace Go.Proofs
open Go.RowKit
open Pl
def cfgA (n a : Int) (c k : Nat) (h : Int) : Value := .agg #[.int .i64 n, .int .i64 a, .slice (some ⟨c, 0, none⟩) 3 k, .bool false, .bool false, .int .i64 h]
theorem CxAt.cells {B : Nat} {w : World} {c k : Nat} (h : CxAt B w (.slice (some ⟨c, 0, none⟩) 3 k)) : w.cell? ⟨c, 0, none⟩ = some (.int .i64 1) ∧ w.cell? ⟨c, 1, none⟩ = some (.int .i64 2147483647) ∧ w.cell? ⟨c, 2, none⟩ = some (.int .i64 (-1)) :=
  ⟨own_cell h 0 _ rfl, own_cell h 1 _ rfl, own_cell h 2 _ rfl⟩

set_option maxRecDepth 100000 in
set_option maxHeartbeats 2000000 in
theorem alike_any {B1 B2 : Nat} {w : World} (n a : Int) (c1 k1 : Nat) (h1 : Int) (c2 k2 : Nat) (h2 : Int) (x1 : CxAt B1 w (.slice (some ⟨c1, 0, none⟩) 3 k1)) (x2 : CxAt B2 w (.slice (some ⟨c2, 0, none⟩) 3 k2)) :
    Calls Tryz.prog 22 #[cfgA n a c1 k1 h1, cfgA n a c2 k2 h2] w fun e w' => e = .returned (.bool true) ∧ Kp (fun _ => True) w w' := by
  have X1 := Lib.hid x1
  have X2 := Lib.hid x2
  unfold cfgA
  clear x1 x2
  go_enter Tryz.func22, Tryz.ntmps22
  go_upto_if 40 with fail
  have kp : Kp (fun _ => True) w ((w.alloc (.cells #[.int .i64 n, .int .i64 a, .slice (some ⟨c1, 0, none⟩) 3 k1, .bool false, .bool false, .int .i64 h1] 40)).alloc (.cells #[.int .i64 n, .int .i64 a, .slice (some ⟨c2, 0, none⟩) 3 k2, .bool false, .bool false, .int .i64 h2] 40)) := (Kp.alloc _ _).trans (Kp.alloc _ _)
  have b1 : Blk ((w.alloc (.cells #[.int .i64 n, .int .i64 a, .slice (some ⟨c1, 0, none⟩) 3 k1, .bool false, .bool false, .int .i64 h1] 40)).alloc (.cells #[.int .i64 n, .int .i64 a, .slice (some ⟨c2, 0, none⟩) 3 k2, .bool false, .bool false, .int .i64 h2] 40)) w.heap.size 40 #[.int .i64 n, .int .i64 a, .slice (some ⟨c1, 0, none⟩) 3 k1, .bool false, .bool false, .int .i64 h1] := (Blk.new _ _ _).alloc _
  have b2 : Blk ((w.alloc (.cells #[.int .i64 n, .int .i64 a, .slice (some ⟨c1, 0, none⟩) 3 k1, .bool false, .bool false, .int .i64 h1] 40)).alloc (.cells #[.int .i64 n, .int .i64 a, .slice (some ⟨c2, 0, none⟩) 3 k2, .bool false, .bool false, .int .i64 h2] 40)) (w.heap.size + 1) 40 #[.int .i64 n, .int .i64 a, .slice (some ⟨c2, 0, none⟩) 3 k2, .bool false, .bool false, .int .i64 h2] := heap_new2 w _ _
  generalize (w.alloc (.cells #[.int .i64 n, .int .i64 a, .slice (some ⟨c1, 0, none⟩) 3 k1, .bool false, .bool false, .int .i64 h1] 40)).alloc (.cells #[.int .i64 n, .int .i64 a, .slice (some ⟨c2, 0, none⟩) 3 k2, .bool false, .bool false, .int .i64 h2] 40) = w1 at kp b1 b2 ⊢
  have hb1 := b1.cell
  have hb2 := b2.cell
  have KP := Lib.hid kp
  clear kp
  go_wp2_with fail
  have HB1 := Lib.hid b1
  have HB2 := Lib.hid b2
  clear b1 b2 hb1 hb2
  go_loopw [44] (fun t44 wr => ∃ (k n : Nat), t44 = .int .i64 k ∧ k ≤ 3 ∧ wr = w1.drewN n) (fun t44 _ => 3 - (intOf t44).toNat)
  case atStart => exact ⟨0, 0, rfl, by omega, rfl⟩
  case round =>
    obtain ⟨k, m, rfl, hk, rfl⟩ := hrel
    have g1 : ∀ i, (w1.drewN m).cell? ⟨w.heap.size, i, none⟩ = (#[.int .i64 n, .int .i64 a, .slice (some ⟨c1, 0, none⟩) 3 k1, .bool false, .bool false, .int .i64 h1] : Array Value)[i]? := fun i => HB1.out.cell i
    have g2 : ∀ i, (w1.drewN m).cell? ⟨w.heap.size + 1, i, none⟩ = (#[.int .i64 n, .int .i64 a, .slice (some ⟨c2, 0, none⟩) 3 k2, .bool false, .bool false, .int .i64 h2] : Array Value)[i]? := fun i => HB2.out.cell i
    have y1 : CxAt B1 (w1.drewN m) (.slice (some ⟨c1, 0, none⟩) 3 k1) := X1.out.kept (Nat.le_refl _) (fun j _ _ hj => KP.out.blk j (lt_of_block hj) trivial)
    have y2 : CxAt B2 (w1.drewN m) (.slice (some ⟨c2, 0, none⟩) 3 k2) := X2.out.kept (Nat.le_refl _) (fun j _ _ hj => KP.out.blk j (lt_of_block hj) trivial)
    obtain ⟨p0, p1, p2⟩ := y1.cells
    obtain ⟨q0, q1, q2⟩ := y2.cells
    have kz : Kp (fun _ => True) w (w1.drewN m) := KP.out.trans (Kp.drewN _ _)
    have KZ := Lib.hid kz
    clear y1 y2 kz
    by_cases h3 : k < 3
    · have hcase : k = 0 ∨ k = 1 ∨ k = 2 := by omega
      have hm : Hid (w1.drewN m = w1.drewN m) := Lib.hid rfl
      generalize hwm : w1.drewN m = wm at g1 g2 p0 p1 p2 q0 q1 q2 KZ ⊢
      have HWM := Lib.hid hwm
      clear hwm hm
      rcases hcase with rfl | rfl | rfl
      all_goals go_wp2_with fail
      all_goals go_quiet (fail)
      all_goals go_wp2_with fail
      · exact ⟨⟨1, m + nq, rfl, by omega, by rw [← HWM.out]; simp [World.drewN, Nat.add_assoc]⟩, by simp [intOf]⟩
      · exact ⟨⟨2, m + nq, rfl, by omega, by rw [← HWM.out]; simp [World.drewN, Nat.add_assoc]⟩, by simp [intOf]⟩
      · exact ⟨⟨3, m + nq, rfl, by omega, by rw [← HWM.out]; simp [World.drewN, Nat.add_assoc]⟩, by simp [intOf]⟩
    · have hke : k = 3 := by omega
      subst hke
      go_wp2_with fail
      go_ret
      exact ⟨rfl, KZ.out⟩
end Go.Proofs
end
