/- A part of the proof of the statement on the law FnStates, which the last text proves: part G20. -/
import Derived.Test.YtlceacefhnllbaaGreatDoorG19
set_option linter.all false
section
namespace Go.Proofs
open Go.RowKit
open Pl
variable {base : Nat} {bb : Nat} {r : Nat} {ss ks : List Nat}
theorem block_at {n : Nat} (hM : MakeC n base bb r ss ks) {w0 w : World} {c0 : Array Value} {B : Bd} (h : At base w0 bb c0 r ss ks w B) (k : Nat) (may : Bool) (subs : List Ex) (hz : szL subs ≤ n) {d : Nat} (hl4 : subs.length ≤ 4) (hg : lgL subs d = true) (ht : tot B + 16 * szL subs + 10 ≤ 900000) {sl : Value} (hs : SlQ (fun j => j < base) w sl subs) :
    Calls Tryz.prog 32 #[.pointer (some ⟨bb, 0, none⟩), .int .i64 k, sl, .bool may] w fun e w' => e = .returned (.tuple #[.int .i64 (B.st.length : Nat), .int .i64 ((B.st.length + 1 : Nat) : Int)]) ∧ At base w0 bb c0 r ss ks w' (mkBlk r k may subs B) := by
  obtain ⟨va, h1, h2⟩ := h.bs
  exact (block_any hM h1 (Nat.le_trans h.le h2.size) h.lb k may subs hz d hl4 hg ht sl hs).mono fun e w' ⟨he, a', h3, h4⟩ => ⟨he, ⟨a', h3, h2.trans h4⟩, h.le, h.lb, h.lo⟩

set_option maxRecDepth 100000 in
set_option maxHeartbeats 8000000 in
theorem make_eq {n : Nat} (ih : MakeC n base bb r ss ks) (op a b : Int) (subs : List Ex) (ho : op = 0) (hab : a = b) (hsz : szL subs ≤ n) (w : World) (va : Nat → Value) (B : Bd) (h : BS base w bb va r B ss ks) (h1 : base ≤ w.heap.size) (h2 : base ≤ bb) (sl : Value) (d : Nat) (hg : lgE (.mk op a b subs) d = true) (ht : tot B + 16 * szE (.mk op a b subs) ≤ 900000) (hs : SlQ (fun j => j < base) w sl subs) :
    Calls Tryz.prog 25 #[.pointer (some ⟨bb, 0, none⟩), exV op a b sl] w fun e w' => e = .returned (.tuple #[.int .i64 ((mkE r (.mk op a b subs) B).2.1 : Nat), .int .i64 ((mkE r (.mk op a b subs) B).2.2 : Nat)]) ∧ BuT base w bb va r (mkE r (.mk op a b subs) B).1 ss ks w' := by
  have IH := Lib.hid ih
  clear ih
  have H_ho := Lib.hid ho
  clear ho
  have H_hab := Lib.hid hab
  clear hab
  have ht' : tot B + 16 * szL subs + 16 ≤ 900000 := by simp only [szE] at ht; omega
  obtain ⟨hd1, hl4, hgl, hop4⟩ := lgE_parts hg
  have HGL := Lib.hid hgl
  have HT := Lib.hid ht'
  obtain ⟨sq, sc, rfl⟩ := hs.form
  obtain ⟨n0, hn0⟩ : ∃ n0, n0 = B.st.length := ⟨_, rfl⟩
  have HN0 := Lib.hid hn0
  have km : Kp (fun _ => True) w (w.alloc (.cells #[.int .i64 op, .int .i64 a, .int .i64 b, .slice sq subs.length sc] 48)) := Kp.alloc _ _
  have bm := Blk.new w 48 #[.int .i64 op, .int .i64 a, .int .i64 b, .slice sq subs.length sc]
  have hR := RS.kept h (Kp.alloc w (.cells #[.int .i64 op, .int .i64 a, .int .i64 b, .slice sq subs.length sc] 48))
  have hN := h.new (Nat.le_refl w.heap.size)
  have hE := Nat.ne_of_gt h.blk.lt
  have hS := hs.alloc (.cells #[.int .i64 op, .int .i64 a, .int .i64 b, .slice sq subs.length sc] 48)
  have a0 := At.start hR (Nat.le_trans h1 (by simp)) h2
  unfold exV
  clear ht ht' hg hgl hop4 hs h hn0
  go_enter Tryz.func25, Tryz.ntmps25
  go_upto_region 1 with fail
  obtain ⟨eb, heb⟩ : ∃ eb, eb = w.heap.size := ⟨_, rfl⟩
  rw [← heb] at bm hN hE ⊢
  generalize w.alloc (.cells #[.int .i64 op, .int .i64 a, .int .i64 b, .slice sq subs.length sc] 48) = wA at km bm hR hS a0 ⊢
  have KA := Lib.hid km
  have A0 := Lib.hid a0
  have BM := Lib.hid bm
  have HNO := Lib.hid hN
  have HS := Lib.hid hS
  have HR := Lib.hid hR
  have HEN := Lib.hid hE
  have BOX : Hid (∀ W B', At base wA bb (cB va r) r ss ks W B' → W.cell? ⟨eb, 0, none⟩ = some (.int .i64 op) ∧ W.cell? ⟨eb, 1, none⟩ = some (.int .i64 a) ∧ W.cell? ⟨eb, 2, none⟩ = some (.int .i64 b) ∧ W.cell? ⟨eb, 3, none⟩ = some (.slice sq subs.length sc)) := Lib.hid (fun W B' hW => by
    have b := (BM.out.kept (hW.box BM.out.lt HEN.out HNO.out)).cell
    exact ⟨b 0, b 1, b 2, b 3⟩)
  have SUB : Hid (∀ W B', At base wA bb (cB va r) r ss ks W B' → SlQ (fun j => j < base) W (.slice sq subs.length sc) subs) := Lib.hid (fun W B' hW => HS.out.kept (hW.kp HR.out) (fun _ _ h => h))
  obtain ⟨c0, c1, c2, c3⟩ := BOX.out wA B A0.out
  clear km bm hN hE hS hR a0 heb
  have hnb : n0 ≤ 900000 := by have h9 := HT.out; rw [HN0.out]; unfold tot at h9; omega
  have ho := H_ho.out
  have hab := H_hab.out
  subst ho
  subst hab
  obtain ⟨B2, hB2⟩ : ∃ B2, B2 = (B.add r 1).add r 1 := ⟨_, rfl⟩
  have HB2 := Lib.hid hB2
  have HT2 : Hid (tot B2 ≤ 900000) := Lib.hid (by rw [hB2, tot_add, tot_add]; have := HT.out; omega)
  have HMK : Hid (mkE r (.mk 0 a a subs) B = (({ B2 with ed := B2.ed ++ [(⟨n0, n0 + 1, 5, a, 0⟩ : LE)] } : Bd), n0, n0 + 1)) := Lib.hid (by
    rw [mkE_0, ← hB2, ← HN0.out]; simp [Bd.chr])
  clear hB2
  go_upto_region 7 with (first | (go_at_call 23; refine (state_at A1.out 1 (by rw [tot_add]; have := HT.out; omega)).mono ?_; rintro e w2 ⟨he, x2⟩; rw [len_add, ← HN0.out] at he; subst he; rw [← HB2.out] at x2; obtain ⟨d0, d1, d2, d3⟩ := BOX.out _ _ x2; have leb : eb < w2.heap.size := cell_lt d0; have A2 := Lib.hid x2; clear x2) | (go_at_call 23; refine (state_at A0.out 1 (by have := HT.out; omega)).mono ?_; rintro e w1 ⟨he, x1⟩; rw [← HN0.out] at he; subst he; have A1 := Lib.hid x1; clear x1))
  have kE : Kp (fun _ => True) w2 (w2.alloc (.cells #[.int .i64 n0, .int .i64 ((n0 : Int) + 1), .int .i64 5, .int .i64 a, .int .i64 0, .int .i64 0] 62)) := Kp.alloc _ _
  have bx := Blk.new w2 62 #[.int .i64 n0, .int .i64 ((n0 : Int) + 1), .int .i64 5, .int .i64 a, .int .i64 0, .int .i64 0]
  have a3 := A2.out.alloc (.cells #[.int .i64 n0, .int .i64 ((n0 : Int) + 1), .int .i64 5, .int .i64 a, .int .i64 0, .int .i64 0] 62)
  obtain ⟨xb, hxb⟩ : ∃ xb, xb = w2.heap.size := ⟨_, rfl⟩
  rw [← hxb] at bx ⊢
  generalize w2.alloc (.cells #[.int .i64 n0, .int .i64 ((n0 : Int) + 1), .int .i64 5, .int .i64 a, .int .i64 0, .int .i64 0] 62) = wE at bx a3 kE ⊢
  have A3 := Lib.hid a3
  have x0 := bx.cell 0
  have x1 := bx.cell 1
  have x2 := bx.cell 2
  have x3 := bx.cell 3
  have x4 := bx.cell 4
  have x5 := bx.cell 5
  have lxb := bx.lt
  clear a3 bx kE hxb d0 d1 d2 d3
  simp at x0 x1 x2 x3 x4 x5
  obtain ⟨va', hb, hfr⟩ := A3.out.bs
  have c3 : wE.cell? ⟨bb, 3, none⟩ = some (va' 3) := hb.blk.cell 3
  have f3 : wE.frozen? ⟨bb, 3, none⟩ = false := hb.blk.free 3
  have lb3 := hb.blk.lt
  obtain ⟨v, hv, ho⟩ := hb.row 3 (by simp [I5])
  have hva : va' 3 = v := by simpa using hv
  subst hva
  have HO : Hid (wE.ownsRow base 62 6 (va' 3) B2.ed.length (flE B2.ed)) := Lib.hid ho
  have HBS := Lib.hid hb
  have HFR := Lib.hid hfr
  obtain ⟨i5, hi5, hy0, hy1, hy2⟩ := info_parts info62
  have hbw : base ≤ wE.heap.size := Nat.le_trans A3.out.le A3.out.size
  have hted : B2.ed.length ≤ 900000 := by have := HT2.out; unfold tot at this; omega
  clear hv ho hb hfr
  go_region_law (first | (refine step_append_lies _ (by rfl) _ _ _ (by rfl) base 62 i5 _ 6 48 Tryz.underlying54 hi5 hy0 hy1 hy2 rfl (by omega) (va' 3) B2.ed.length (flE B2.ed) (by rfl) (by first | exact (HO.out.alloc _).drew | exact (HO.out.drew).alloc _) ⟨wE.heap.size, 0, none⟩ 1 1 [.int .i64 n0, .int .i64 ((n0 : Int) + 1), .int .i64 5, .int .i64 a, .int .i64 0, .int .i64 0] (by rfl) (by rfl) (World.news_of_block (cs := #[.int .i64 n0, .int .i64 ((n0 : Int) + 1), .int .i64 5, .int .i64 a, .int .i64 0, .int .i64 0]) (t := 62) (fr := (0, 0)) (heap_alloc_new wE _)) (by simp [Value.oneCell', edC]) (by omega) (by simp [maxLen]; omega) (by omega) (by simp; omega) (wE.heap.size + 1) (by simp) ?_; intro gg cap w1 hown1 hgrow hat hlt; have k1 : Kp (fun k => some k ≠ (va' 3).ownBlock) wE w1 := (by first | exact ((Kp.drew _).trans (Kp.alloc _ _)).trans (Kp.grown hgrow (fun k hk => hk)) | exact ((Kp.alloc _ _).trans (Kp.drew _)).trans (Kp.grown hgrow (fun k hk => hk))); have B1 := HBS.out.blk.kept (k1.blk bb HBS.out.blk.lt (fun e => HBS.out.nb ⟨3, va' 3, by simp [I5], by simp, e.symm⟩)); have c01 : w1.cell? ⟨bb, 3, none⟩ = some (va' 3) := B1.cell 3; have f01 : w1.frozen? ⟨bb, 3, none⟩ = false := B1.free 3; have PU := Lib.hid (HBS.out.put (i := 3) (by simp [I5]) (v := va' 3) (by simp) hown1 k1 (hat.imp id (fun e => by omega))); clear hown1 hgrow hat hlt k1 B1))
  all_goals
    have FIN : Hid (At base wA bb (cB va r) r ss ks (w1.setCell ⟨bb, 3, none⟩ (.slice (some ⟨gg, 0, none⟩) (B2.ed.length + 1) cap)) { B2 with ed := B2.ed ++ [(⟨n0, n0 + 1, 5, a, 0⟩ : LE)] }) := by
      obtain ⟨p1, p2⟩ := PU.out
      refine Lib.hid ⟨⟨upA va' 3 (.slice (some ⟨gg, 0, none⟩) (B2.ed.length + 1) cap), p1.congr rfl (fun i hi => ?_), HFR.out.trans p2⟩, A3.out.le, A3.out.lb, A3.out.lo⟩
      match i, hi with
      | 0, _ => rfl
      | 1, _ => rfl
      | 2, _ => rfl
      | 3, _ => simp [updG, BB, flE, edC]
      | 4, _ => rfl
    clear PU c01 f01
    go_wp2_with fail
    go_ret2
    rw [HMK.out]
    have hz := FIN.out.fin KA.out
    exact ⟨by simp, by simpa using hz⟩

set_option maxRecDepth 100000 in
set_option maxHeartbeats 8000000 in
theorem make_ne {n : Nat} (ih : MakeC n base bb r ss ks) (op a b : Int) (subs : List Ex) (ho : op = 0) (hab : ¬ a = b) (hsz : szL subs ≤ n) (w : World) (va : Nat → Value) (B : Bd) (h : BS base w bb va r B ss ks) (h1 : base ≤ w.heap.size) (h2 : base ≤ bb) (sl : Value) (d : Nat) (hg : lgE (.mk op a b subs) d = true) (ht : tot B + 16 * szE (.mk op a b subs) ≤ 900000) (hs : SlQ (fun j => j < base) w sl subs) :
    Calls Tryz.prog 25 #[.pointer (some ⟨bb, 0, none⟩), exV op a b sl] w fun e w' => e = .returned (.tuple #[.int .i64 ((mkE r (.mk op a b subs) B).2.1 : Nat), .int .i64 ((mkE r (.mk op a b subs) B).2.2 : Nat)]) ∧ BuT base w bb va r (mkE r (.mk op a b subs) B).1 ss ks w' := by
  have IH := Lib.hid ih
  clear ih
  have H_ho := Lib.hid ho
  clear ho
  have H_hab := Lib.hid hab
  clear hab
  have ht' : tot B + 16 * szL subs + 16 ≤ 900000 := by simp only [szE] at ht; omega
  obtain ⟨hd1, hl4, hgl, hop4⟩ := lgE_parts hg
  have HGL := Lib.hid hgl
  have HT := Lib.hid ht'
  obtain ⟨sq, sc, rfl⟩ := hs.form
  obtain ⟨n0, hn0⟩ : ∃ n0, n0 = B.st.length := ⟨_, rfl⟩
  have HN0 := Lib.hid hn0
  have km : Kp (fun _ => True) w (w.alloc (.cells #[.int .i64 op, .int .i64 a, .int .i64 b, .slice sq subs.length sc] 48)) := Kp.alloc _ _
  have bm := Blk.new w 48 #[.int .i64 op, .int .i64 a, .int .i64 b, .slice sq subs.length sc]
  have hR := RS.kept h (Kp.alloc w (.cells #[.int .i64 op, .int .i64 a, .int .i64 b, .slice sq subs.length sc] 48))
  have hN := h.new (Nat.le_refl w.heap.size)
  have hE := Nat.ne_of_gt h.blk.lt
  have hS := hs.alloc (.cells #[.int .i64 op, .int .i64 a, .int .i64 b, .slice sq subs.length sc] 48)
  have a0 := At.start hR (Nat.le_trans h1 (by simp)) h2
  unfold exV
  clear ht ht' hg hgl hop4 hs h hn0
  go_enter Tryz.func25, Tryz.ntmps25
  go_upto_region 1 with fail
  obtain ⟨eb, heb⟩ : ∃ eb, eb = w.heap.size := ⟨_, rfl⟩
  rw [← heb] at bm hN hE ⊢
  generalize w.alloc (.cells #[.int .i64 op, .int .i64 a, .int .i64 b, .slice sq subs.length sc] 48) = wA at km bm hR hS a0 ⊢
  have KA := Lib.hid km
  have A0 := Lib.hid a0
  have BM := Lib.hid bm
  have HNO := Lib.hid hN
  have HS := Lib.hid hS
  have HR := Lib.hid hR
  have HEN := Lib.hid hE
  have BOX : Hid (∀ W B', At base wA bb (cB va r) r ss ks W B' → W.cell? ⟨eb, 0, none⟩ = some (.int .i64 op) ∧ W.cell? ⟨eb, 1, none⟩ = some (.int .i64 a) ∧ W.cell? ⟨eb, 2, none⟩ = some (.int .i64 b) ∧ W.cell? ⟨eb, 3, none⟩ = some (.slice sq subs.length sc)) := Lib.hid (fun W B' hW => by
    have b := (BM.out.kept (hW.box BM.out.lt HEN.out HNO.out)).cell
    exact ⟨b 0, b 1, b 2, b 3⟩)
  have SUB : Hid (∀ W B', At base wA bb (cB va r) r ss ks W B' → SlQ (fun j => j < base) W (.slice sq subs.length sc) subs) := Lib.hid (fun W B' hW => HS.out.kept (hW.kp HR.out) (fun _ _ h => h))
  obtain ⟨c0, c1, c2, c3⟩ := BOX.out wA B A0.out
  clear km bm hN hE hS hR a0 heb
  have hnb : n0 ≤ 900000 := by have h9 := HT.out; rw [HN0.out]; unfold tot at h9; omega
  have ho := H_ho.out
  have hab := H_hab.out
  subst ho
  obtain ⟨B2, hB2⟩ : ∃ B2, B2 = (B.add r 1).add r 1 := ⟨_, rfl⟩
  have HB2 := Lib.hid hB2
  have HT2 : Hid (tot B2 ≤ 900000) := Lib.hid (by rw [hB2, tot_add, tot_add]; have := HT.out; omega)
  have HMK : Hid (mkE r (.mk 0 a b subs) B = (({ B2 with ed := B2.ed ++ [(⟨n0, n0 + 1, 2, a, b⟩ : LE)] } : Bd), n0, n0 + 1)) := Lib.hid (by
    rw [mkE_0, ← hB2, ← HN0.out]; simp [Bd.chr, hab])
  clear hB2
  go_upto_region 7 with (first | (go_at_call 23; refine (state_at A1.out 1 (by rw [tot_add]; have := HT.out; omega)).mono ?_; rintro e w2 ⟨he, x2⟩; rw [len_add, ← HN0.out] at he; subst he; rw [← HB2.out] at x2; obtain ⟨d0, d1, d2, d3⟩ := BOX.out _ _ x2; have leb : eb < w2.heap.size := cell_lt d0; have A2 := Lib.hid x2; clear x2) | (go_at_call 23; refine (state_at A0.out 1 (by have := HT.out; omega)).mono ?_; rintro e w1 ⟨he, x1⟩; rw [← HN0.out] at he; subst he; have A1 := Lib.hid x1; clear x1))
  have kE : Kp (fun _ => True) w2 (w2.alloc (.cells #[.int .i64 n0, .int .i64 ((n0 : Int) + 1), .int .i64 2, .int .i64 a, .int .i64 b, .int .i64 0] 62)) := Kp.alloc _ _
  have bx := Blk.new w2 62 #[.int .i64 n0, .int .i64 ((n0 : Int) + 1), .int .i64 2, .int .i64 a, .int .i64 b, .int .i64 0]
  have a3 := A2.out.alloc (.cells #[.int .i64 n0, .int .i64 ((n0 : Int) + 1), .int .i64 2, .int .i64 a, .int .i64 b, .int .i64 0] 62)
  obtain ⟨xb, hxb⟩ : ∃ xb, xb = w2.heap.size := ⟨_, rfl⟩
  rw [← hxb] at bx ⊢
  generalize w2.alloc (.cells #[.int .i64 n0, .int .i64 ((n0 : Int) + 1), .int .i64 2, .int .i64 a, .int .i64 b, .int .i64 0] 62) = wE at bx a3 kE ⊢
  have A3 := Lib.hid a3
  have x0 := bx.cell 0
  have x1 := bx.cell 1
  have x2 := bx.cell 2
  have x3 := bx.cell 3
  have x4 := bx.cell 4
  have x5 := bx.cell 5
  have lxb := bx.lt
  clear a3 bx kE hxb d0 d1 d2 d3
  simp at x0 x1 x2 x3 x4 x5
  obtain ⟨va', hb, hfr⟩ := A3.out.bs
  have c3 : wE.cell? ⟨bb, 3, none⟩ = some (va' 3) := hb.blk.cell 3
  have f3 : wE.frozen? ⟨bb, 3, none⟩ = false := hb.blk.free 3
  have lb3 := hb.blk.lt
  obtain ⟨v, hv, ho⟩ := hb.row 3 (by simp [I5])
  have hva : va' 3 = v := by simpa using hv
  subst hva
  have HO : Hid (wE.ownsRow base 62 6 (va' 3) B2.ed.length (flE B2.ed)) := Lib.hid ho
  have HBS := Lib.hid hb
  have HFR := Lib.hid hfr
  obtain ⟨i5, hi5, hy0, hy1, hy2⟩ := info_parts info62
  have hbw : base ≤ wE.heap.size := Nat.le_trans A3.out.le A3.out.size
  have hted : B2.ed.length ≤ 900000 := by have := HT2.out; unfold tot at this; omega
  clear hv ho hb hfr
  go_region_law (first | (refine step_append_lies _ (by rfl) _ _ _ (by rfl) base 62 i5 _ 6 48 Tryz.underlying54 hi5 hy0 hy1 hy2 rfl (by omega) (va' 3) B2.ed.length (flE B2.ed) (by rfl) (by first | exact (HO.out.alloc _).drew | exact (HO.out.drew).alloc _) ⟨wE.heap.size, 0, none⟩ 1 1 [.int .i64 n0, .int .i64 ((n0 : Int) + 1), .int .i64 2, .int .i64 a, .int .i64 b, .int .i64 0] (by rfl) (by rfl) (World.news_of_block (cs := #[.int .i64 n0, .int .i64 ((n0 : Int) + 1), .int .i64 2, .int .i64 a, .int .i64 b, .int .i64 0]) (t := 62) (fr := (0, 0)) (heap_alloc_new wE _)) (by simp [Value.oneCell', edC]) (by omega) (by simp [maxLen]; omega) (by omega) (by simp; omega) (wE.heap.size + 1) (by simp) ?_; intro gg cap w1 hown1 hgrow hat hlt; have k1 : Kp (fun k => some k ≠ (va' 3).ownBlock) wE w1 := (by first | exact ((Kp.drew _).trans (Kp.alloc _ _)).trans (Kp.grown hgrow (fun k hk => hk)) | exact ((Kp.alloc _ _).trans (Kp.drew _)).trans (Kp.grown hgrow (fun k hk => hk))); have B1 := HBS.out.blk.kept (k1.blk bb HBS.out.blk.lt (fun e => HBS.out.nb ⟨3, va' 3, by simp [I5], by simp, e.symm⟩)); have c01 : w1.cell? ⟨bb, 3, none⟩ = some (va' 3) := B1.cell 3; have f01 : w1.frozen? ⟨bb, 3, none⟩ = false := B1.free 3; have PU := Lib.hid (HBS.out.put (i := 3) (by simp [I5]) (v := va' 3) (by simp) hown1 k1 (hat.imp id (fun e => by omega))); clear hown1 hgrow hat hlt k1 B1))
  all_goals
    have FIN : Hid (At base wA bb (cB va r) r ss ks (w1.setCell ⟨bb, 3, none⟩ (.slice (some ⟨gg, 0, none⟩) (B2.ed.length + 1) cap)) { B2 with ed := B2.ed ++ [(⟨n0, n0 + 1, 2, a, b⟩ : LE)] }) := by
      obtain ⟨p1, p2⟩ := PU.out
      refine Lib.hid ⟨⟨upA va' 3 (.slice (some ⟨gg, 0, none⟩) (B2.ed.length + 1) cap), p1.congr rfl (fun i hi => ?_), HFR.out.trans p2⟩, A3.out.le, A3.out.lb, A3.out.lo⟩
      match i, hi with
      | 0, _ => rfl
      | 1, _ => rfl
      | 2, _ => rfl
      | 3, _ => simp [updG, BB, flE, edC]
      | 4, _ => rfl
    clear PU c01 f01
    go_wp2_with fail
    go_ret2
    rw [HMK.out]
    have hz := FIN.out.fin KA.out
    exact ⟨by simp, by simpa using hz⟩
end Go.Proofs
end
section
namespace Go.Proofs
open Go.RowKit
open Pl
variable {base : Nat} {bb : Nat} {r : Nat} {ss ks : List Nat}
set_option maxRecDepth 100000 in
set_option maxHeartbeats 8000000 in
theorem make_row {n : Nat} (ih : MakeC n base bb r ss ks) (op a b : Int) (subs : List Ex) (ho : op = 1) (hsz : szL subs ≤ n) (w : World) (va : Nat → Value) (B : Bd) (h : BS base w bb va r B ss ks) (h1 : base ≤ w.heap.size) (h2 : base ≤ bb) (sl : Value) (d : Nat) (hg : lgE (.mk op a b subs) d = true) (ht : tot B + 16 * szE (.mk op a b subs) ≤ 900000) (hs : SlQ (fun j => j < base) w sl subs) :
    Calls Tryz.prog 25 #[.pointer (some ⟨bb, 0, none⟩), exV op a b sl] w fun e w' => e = .returned (.tuple #[.int .i64 ((mkE r (.mk op a b subs) B).2.1 : Nat), .int .i64 ((mkE r (.mk op a b subs) B).2.2 : Nat)]) ∧ BuT base w bb va r (mkE r (.mk op a b subs) B).1 ss ks w' := by
  have IH := Lib.hid ih
  clear ih
  have H_ho := Lib.hid ho
  clear ho
  have ht' : tot B + 16 * szL subs + 16 ≤ 900000 := by simp only [szE] at ht; omega
  obtain ⟨hd1, hl4, hgl, hop4⟩ := lgE_parts hg
  have HGL := Lib.hid hgl
  have HT := Lib.hid ht'
  obtain ⟨sq, sc, rfl⟩ := hs.form
  obtain ⟨n0, hn0⟩ : ∃ n0, n0 = B.st.length := ⟨_, rfl⟩
  have HN0 := Lib.hid hn0
  have km : Kp (fun _ => True) w (w.alloc (.cells #[.int .i64 op, .int .i64 a, .int .i64 b, .slice sq subs.length sc] 48)) := Kp.alloc _ _
  have bm := Blk.new w 48 #[.int .i64 op, .int .i64 a, .int .i64 b, .slice sq subs.length sc]
  have hR := RS.kept h (Kp.alloc w (.cells #[.int .i64 op, .int .i64 a, .int .i64 b, .slice sq subs.length sc] 48))
  have hN := h.new (Nat.le_refl w.heap.size)
  have hE := Nat.ne_of_gt h.blk.lt
  have hS := hs.alloc (.cells #[.int .i64 op, .int .i64 a, .int .i64 b, .slice sq subs.length sc] 48)
  have a0 := At.start hR (Nat.le_trans h1 (by simp)) h2
  unfold exV
  clear ht ht' hg hgl hop4 hs h hn0
  go_enter Tryz.func25, Tryz.ntmps25
  go_upto_region 1 with fail
  obtain ⟨eb, heb⟩ : ∃ eb, eb = w.heap.size := ⟨_, rfl⟩
  rw [← heb] at bm hN hE ⊢
  generalize w.alloc (.cells #[.int .i64 op, .int .i64 a, .int .i64 b, .slice sq subs.length sc] 48) = wA at km bm hR hS a0 ⊢
  have KA := Lib.hid km
  have A0 := Lib.hid a0
  have BM := Lib.hid bm
  have HNO := Lib.hid hN
  have HS := Lib.hid hS
  have HR := Lib.hid hR
  have HEN := Lib.hid hE
  have BOX : Hid (∀ W B', At base wA bb (cB va r) r ss ks W B' → W.cell? ⟨eb, 0, none⟩ = some (.int .i64 op) ∧ W.cell? ⟨eb, 1, none⟩ = some (.int .i64 a) ∧ W.cell? ⟨eb, 2, none⟩ = some (.int .i64 b) ∧ W.cell? ⟨eb, 3, none⟩ = some (.slice sq subs.length sc)) := Lib.hid (fun W B' hW => by
    have b := (BM.out.kept (hW.box BM.out.lt HEN.out HNO.out)).cell
    exact ⟨b 0, b 1, b 2, b 3⟩)
  have SUB : Hid (∀ W B', At base wA bb (cB va r) r ss ks W B' → SlQ (fun j => j < base) W (.slice sq subs.length sc) subs) := Lib.hid (fun W B' hW => HS.out.kept (hW.kp HR.out) (fun _ _ h => h))
  obtain ⟨c0, c1, c2, c3⟩ := BOX.out wA B A0.out
  clear km bm hN hE hS hR a0 heb
  have hnb : n0 ≤ 900000 := by have h9 := HT.out; rw [HN0.out]; unfold tot at h9; omega
  have ho := H_ho.out
  subst ho
  obtain ⟨B1, hB1⟩ : ∃ B1, B1 = B.add r 1 := ⟨_, rfl⟩
  have ht1 : tot B1 = tot B + 1 := by rw [hB1, tot_add]
  have HB1 := Lib.hid hB1
  clear hB1
  go_wp2_with (first | (go_at_call 23; refine (state_at A0.out 1 (by have := HT.out; omega)).mono ?_; rintro e w1 ⟨he, x1⟩; rw [← HN0.out] at he; subst he; rw [← HB1.out] at x1; obtain ⟨d0, d1, d2, d3⟩ := BOX.out _ _ x1; have A1 := Lib.hid x1; clear x1))
  clear d0 d1 d2 d3
  go_loopw [10, 71] (fun t10 t71 wr => ∃ j : Nat, t71 = .int .i64 j ∧ j ≤ subs.length ∧ t10 = .int .i64 ((mkRow r (subs.take j) B1 n0).2 : Nat) ∧ At base wA bb (cB va r) r ss ks wr (mkRow r (subs.take j) B1 n0).1) (fun _ t71 _ => subs.length - (intOf t71).toNat)
  case atStart => exact ⟨0, rfl, Nat.zero_le _, by simp [mkRow], by simpa [mkRow] using A1.out⟩
  case round =>
    obtain ⟨j, rfl, hj, rfl, at_⟩ := hrel
    have HA := Lib.hid at_
    have hsj := SUB.out _ _ at_
    have tj : tot (mkRow r (subs.take j) B1 n0).1 ≤ tot B1 + 16 * szL (subs.take j) := totRow _ _ _ _
    clear at_
    by_cases hjn : j < subs.length
    · have hjn' : (j : Int) < (subs.length : Int) := by omega
      obtain ⟨⟨op', a', b', s'⟩, hx⟩ : ∃ e, subs[j]? = some e := ⟨subs[j]'hjn, by simp⟩
      obtain ⟨g1, o1, rfl, _, hcl, hr⟩ := hsj.at (by omega)
      obtain ⟨sl', E⟩ := hr.el hx
      obtain ⟨sq', sc', rfl⟩ := E.sub.form
      have e0 := E.e0
      have e1 := E.e1
      have e2 := E.e2
      have e3 := E.e3
      have SB := Lib.hid E.sub
      have HZ := Lib.hid (Nat.le_trans (szL_get _ _ _ hx) hsz)
      have HGE := Lib.hid (lgL_get _ _ _ _ HGL.out hx)
      have hcc : (j : Int) ≤ (sc : Int) := by omega
      have hsz2 := szL_take _ _ _ hx
      have hszl := szL_take_le subs (j + 1)
      have HX := Lib.hid hx
      have HTE : Hid (tot (mkRow r (subs.take j) B1 n0).1 + 16 * szE (.mk op' a' b' s') ≤ 900000) := Lib.hid (by have := HT.out; omega)
      clear E hr hx hsj tj hsz2 hszl
      generalize hBj : mkRow r (subs.take j) B1 n0 = Bj at HA HTE ⊢
      have HBJ := Lib.hid hBj
      have HTE2 : Hid (tot (mkE r (.mk op' a' b' s') Bj.1).1 + 2 ≤ 900000) := Lib.hid (by have := totE r (.mk op' a' b' s') Bj.1; have := HTE.out; omega)
      obtain ⟨p, hp⟩ : ∃ p, p = mkE r (.mk op' a' b' s') Bj.1 := ⟨_, rfl⟩
      have HP := Lib.hid hp
      rw [← hp] at HTE2
      clear hBj hp
      go_wp2_with (first | (go_at_call 26; refine (edge_i A5.out Bj.2 p.2.1 rfl rfl (by have := HTE2.out; omega)).mono ?_; rintro e w6 ⟨rfl, x6⟩; have A6 := Lib.hid x6; clear x6) | (go_at_call 25; refine (make_at IH.out (HA.out.alloc _) HZ.out HGE.out HTE.out (SB.out.alloc _)).mono ?_; rintro e w5 ⟨rfl, x5⟩; rw [← HP.out] at x5; have A5 := Lib.hid x5; rw [← HP.out]; clear x5))
      have et : subs.take (j + 1) = subs.take j ++ [.mk op' a' b' s'] := by rw [List.take_add_one, HX.out]; rfl
      have em : mkRow r (subs.take (j + 1)) B1 n0 = (p.1.eps Bj.2 p.2.1, p.2.2) := by rw [et, mkRow_snoc, HBJ.out, ← HP.out]
      refine ⟨⟨j + 1, by simp, by omega, by rw [em], by rw [em]; exact A6.out⟩, by simp [intOf]; omega⟩
    · have hjn' : ¬ (j : Int) < (subs.length : Int) := by omega
      have hje : j = subs.length := by omega
      subst hje
      rw [List.take_of_length_le (Nat.le_refl _)] at HA tj ⊢
      clear hsj
      have HTJ := Lib.hid tj
      have HMK := Lib.hid (mkE_1 r a b subs B)
      rw [← HB1.out, ← HN0.out] at HMK
      generalize mkRow r subs B1 n0 = Bj at HA HTJ tj HMK ⊢
      go_wp2_with (first | (go_at_call 26; refine (edge_i A5.out Bj.2 Bj.1.st.length rfl rfl (by have := HTJ.out; have := HT.out; rw [tot_add]; omega)).mono ?_; rintro e w6 ⟨rfl, x6⟩; have A6 := Lib.hid x6; clear x6) | (go_at_call 23; refine (state_at HA.out 1 (by have := HTJ.out; have := HT.out; omega)).mono ?_; rintro e w5 ⟨rfl, x5⟩; have A5 := Lib.hid x5; clear x5))
      go_ret2
      rw [HMK.out]
      have hz := A6.out.fin KA.out
      exact ⟨by simp, by simpa using hz⟩

set_option maxRecDepth 100000 in
set_option maxHeartbeats 8000000 in
theorem make_2 {n : Nat} (ih : MakeC n base bb r ss ks) (op a b : Int) (subs : List Ex) (ho : op = 2) (hsz : szL subs ≤ n) (w : World) (va : Nat → Value) (B : Bd) (h : BS base w bb va r B ss ks) (h1 : base ≤ w.heap.size) (h2 : base ≤ bb) (sl : Value) (d : Nat) (hg : lgE (.mk op a b subs) d = true) (ht : tot B + 16 * szE (.mk op a b subs) ≤ 900000) (hs : SlQ (fun j => j < base) w sl subs) :
    Calls Tryz.prog 25 #[.pointer (some ⟨bb, 0, none⟩), exV op a b sl] w fun e w' => e = .returned (.tuple #[.int .i64 ((mkE r (.mk op a b subs) B).2.1 : Nat), .int .i64 ((mkE r (.mk op a b subs) B).2.2 : Nat)]) ∧ BuT base w bb va r (mkE r (.mk op a b subs) B).1 ss ks w' := by
  have IH := Lib.hid ih
  clear ih
  have H_ho := Lib.hid ho
  clear ho
  have ht' : tot B + 16 * szL subs + 16 ≤ 900000 := by simp only [szE] at ht; omega
  obtain ⟨hd1, hl4, hgl, hop4⟩ := lgE_parts hg
  have HGL := Lib.hid hgl
  have HT := Lib.hid ht'
  obtain ⟨sq, sc, rfl⟩ := hs.form
  obtain ⟨n0, hn0⟩ : ∃ n0, n0 = B.st.length := ⟨_, rfl⟩
  have HN0 := Lib.hid hn0
  have km : Kp (fun _ => True) w (w.alloc (.cells #[.int .i64 op, .int .i64 a, .int .i64 b, .slice sq subs.length sc] 48)) := Kp.alloc _ _
  have bm := Blk.new w 48 #[.int .i64 op, .int .i64 a, .int .i64 b, .slice sq subs.length sc]
  have hR := RS.kept h (Kp.alloc w (.cells #[.int .i64 op, .int .i64 a, .int .i64 b, .slice sq subs.length sc] 48))
  have hN := h.new (Nat.le_refl w.heap.size)
  have hE := Nat.ne_of_gt h.blk.lt
  have hS := hs.alloc (.cells #[.int .i64 op, .int .i64 a, .int .i64 b, .slice sq subs.length sc] 48)
  have a0 := At.start hR (Nat.le_trans h1 (by simp)) h2
  unfold exV
  clear ht ht' hg hgl hop4 hs h hn0
  go_enter Tryz.func25, Tryz.ntmps25
  go_upto_region 1 with fail
  obtain ⟨eb, heb⟩ : ∃ eb, eb = w.heap.size := ⟨_, rfl⟩
  rw [← heb] at bm hN hE ⊢
  generalize w.alloc (.cells #[.int .i64 op, .int .i64 a, .int .i64 b, .slice sq subs.length sc] 48) = wA at km bm hR hS a0 ⊢
  have KA := Lib.hid km
  have A0 := Lib.hid a0
  have BM := Lib.hid bm
  have HNO := Lib.hid hN
  have HS := Lib.hid hS
  have HR := Lib.hid hR
  have HEN := Lib.hid hE
  have BOX : Hid (∀ W B', At base wA bb (cB va r) r ss ks W B' → W.cell? ⟨eb, 0, none⟩ = some (.int .i64 op) ∧ W.cell? ⟨eb, 1, none⟩ = some (.int .i64 a) ∧ W.cell? ⟨eb, 2, none⟩ = some (.int .i64 b) ∧ W.cell? ⟨eb, 3, none⟩ = some (.slice sq subs.length sc)) := Lib.hid (fun W B' hW => by
    have b := (BM.out.kept (hW.box BM.out.lt HEN.out HNO.out)).cell
    exact ⟨b 0, b 1, b 2, b 3⟩)
  have SUB : Hid (∀ W B', At base wA bb (cB va r) r ss ks W B' → SlQ (fun j => j < base) W (.slice sq subs.length sc) subs) := Lib.hid (fun W B' hW => HS.out.kept (hW.kp HR.out) (fun _ _ h => h))
  obtain ⟨c0, c1, c2, c3⟩ := BOX.out wA B A0.out
  clear km bm hN hE hS hR a0 heb
  have hnb : n0 ≤ 900000 := by have h9 := HT.out; rw [HN0.out]; unfold tot at h9; omega
  have ho := H_ho.out
  subst ho
  have HMK := Lib.hid (mkE_2 r a b subs B)
  rw [← HN0.out] at HMK
  have hS0 := SUB.out _ _ A0.out
  have HS0 := Lib.hid hS0
  clear hS0
  go_wp2_with (first | (go_at_call 32; refine (block_at IH.out A0.out 3 false subs hsz hl4 HGL.out (by have := HT.out; omega) HS0.out).mono ?_; rintro e w5 ⟨he, x5⟩; rw [← HN0.out] at he; subst he; have A5 := Lib.hid x5; clear x5))
  go_ret2
  rw [HMK.out]
  have hz := A5.out.fin KA.out
  exact ⟨by simp, by simpa using hz⟩

set_option maxRecDepth 100000 in
set_option maxHeartbeats 8000000 in
theorem make_5 {n : Nat} (ih : MakeC n base bb r ss ks) (op a b : Int) (subs : List Ex) (ho : op = 5) (hsz : szL subs ≤ n) (w : World) (va : Nat → Value) (B : Bd) (h : BS base w bb va r B ss ks) (h1 : base ≤ w.heap.size) (h2 : base ≤ bb) (sl : Value) (d : Nat) (hg : lgE (.mk op a b subs) d = true) (ht : tot B + 16 * szE (.mk op a b subs) ≤ 900000) (hs : SlQ (fun j => j < base) w sl subs) :
    Calls Tryz.prog 25 #[.pointer (some ⟨bb, 0, none⟩), exV op a b sl] w fun e w' => e = .returned (.tuple #[.int .i64 ((mkE r (.mk op a b subs) B).2.1 : Nat), .int .i64 ((mkE r (.mk op a b subs) B).2.2 : Nat)]) ∧ BuT base w bb va r (mkE r (.mk op a b subs) B).1 ss ks w' := by
  have IH := Lib.hid ih
  clear ih
  have H_ho := Lib.hid ho
  clear ho
  have ht' : tot B + 16 * szL subs + 16 ≤ 900000 := by simp only [szE] at ht; omega
  obtain ⟨hd1, hl4, hgl, hop4⟩ := lgE_parts hg
  have HGL := Lib.hid hgl
  have HT := Lib.hid ht'
  obtain ⟨sq, sc, rfl⟩ := hs.form
  obtain ⟨n0, hn0⟩ : ∃ n0, n0 = B.st.length := ⟨_, rfl⟩
  have HN0 := Lib.hid hn0
  have km : Kp (fun _ => True) w (w.alloc (.cells #[.int .i64 op, .int .i64 a, .int .i64 b, .slice sq subs.length sc] 48)) := Kp.alloc _ _
  have bm := Blk.new w 48 #[.int .i64 op, .int .i64 a, .int .i64 b, .slice sq subs.length sc]
  have hR := RS.kept h (Kp.alloc w (.cells #[.int .i64 op, .int .i64 a, .int .i64 b, .slice sq subs.length sc] 48))
  have hN := h.new (Nat.le_refl w.heap.size)
  have hE := Nat.ne_of_gt h.blk.lt
  have hS := hs.alloc (.cells #[.int .i64 op, .int .i64 a, .int .i64 b, .slice sq subs.length sc] 48)
  have a0 := At.start hR (Nat.le_trans h1 (by simp)) h2
  unfold exV
  clear ht ht' hg hgl hop4 hs h hn0
  go_enter Tryz.func25, Tryz.ntmps25
  go_upto_region 1 with fail
  obtain ⟨eb, heb⟩ : ∃ eb, eb = w.heap.size := ⟨_, rfl⟩
  rw [← heb] at bm hN hE ⊢
  generalize w.alloc (.cells #[.int .i64 op, .int .i64 a, .int .i64 b, .slice sq subs.length sc] 48) = wA at km bm hR hS a0 ⊢
  have KA := Lib.hid km
  have A0 := Lib.hid a0
  have BM := Lib.hid bm
  have HNO := Lib.hid hN
  have HS := Lib.hid hS
  have HR := Lib.hid hR
  have HEN := Lib.hid hE
  have BOX : Hid (∀ W B', At base wA bb (cB va r) r ss ks W B' → W.cell? ⟨eb, 0, none⟩ = some (.int .i64 op) ∧ W.cell? ⟨eb, 1, none⟩ = some (.int .i64 a) ∧ W.cell? ⟨eb, 2, none⟩ = some (.int .i64 b) ∧ W.cell? ⟨eb, 3, none⟩ = some (.slice sq subs.length sc)) := Lib.hid (fun W B' hW => by
    have b := (BM.out.kept (hW.box BM.out.lt HEN.out HNO.out)).cell
    exact ⟨b 0, b 1, b 2, b 3⟩)
  have SUB : Hid (∀ W B', At base wA bb (cB va r) r ss ks W B' → SlQ (fun j => j < base) W (.slice sq subs.length sc) subs) := Lib.hid (fun W B' hW => HS.out.kept (hW.kp HR.out) (fun _ _ h => h))
  obtain ⟨c0, c1, c2, c3⟩ := BOX.out wA B A0.out
  clear km bm hN hE hS hR a0 heb
  have hnb : n0 ≤ 900000 := by have h9 := HT.out; rw [HN0.out]; unfold tot at h9; omega
  have ho := H_ho.out
  subst ho
  have HMK := Lib.hid (mkE_5 r a b subs B)
  rw [← HN0.out] at HMK
  have hS0 := SUB.out _ _ A0.out
  have HS0 := Lib.hid hS0
  clear hS0
  go_wp2_with (first | (go_at_call 32; refine (block_at IH.out A0.out 3 true subs hsz hl4 HGL.out (by have := HT.out; omega) HS0.out).mono ?_; rintro e w5 ⟨he, x5⟩; rw [← HN0.out] at he; subst he; have A5 := Lib.hid x5; clear x5))
  go_ret2
  rw [HMK.out]
  have hz := A5.out.fin KA.out
  exact ⟨by simp, by simpa using hz⟩
end Go.Proofs
end
section
namespace Go.Proofs
open Go.RowKit
open Pl
variable {base : Nat} {bb : Nat} {r : Nat} {ss ks : List Nat}
set_option maxRecDepth 100000 in
set_option maxHeartbeats 8000000 in
theorem make_3 {n : Nat} (ih : MakeC n base bb r ss ks) (op a b : Int) (subs : List Ex) (ho : op = 3) (hsz : szL subs ≤ n) (w : World) (va : Nat → Value) (B : Bd) (h : BS base w bb va r B ss ks) (h1 : base ≤ w.heap.size) (h2 : base ≤ bb) (sl : Value) (d : Nat) (hg : lgE (.mk op a b subs) d = true) (ht : tot B + 16 * szE (.mk op a b subs) ≤ 900000) (hs : SlQ (fun j => j < base) w sl subs) :
    Calls Tryz.prog 25 #[.pointer (some ⟨bb, 0, none⟩), exV op a b sl] w fun e w' => e = .returned (.tuple #[.int .i64 ((mkE r (.mk op a b subs) B).2.1 : Nat), .int .i64 ((mkE r (.mk op a b subs) B).2.2 : Nat)]) ∧ BuT base w bb va r (mkE r (.mk op a b subs) B).1 ss ks w' := by
  have IH := Lib.hid ih
  clear ih
  have H_ho := Lib.hid ho
  clear ho
  have ht' : tot B + 16 * szL subs + 16 ≤ 900000 := by simp only [szE] at ht; omega
  obtain ⟨hd1, hl4, hgl, hop4⟩ := lgE_parts hg
  have HGL := Lib.hid hgl
  have HT := Lib.hid ht'
  obtain ⟨sq, sc, rfl⟩ := hs.form
  obtain ⟨n0, hn0⟩ : ∃ n0, n0 = B.st.length := ⟨_, rfl⟩
  have HN0 := Lib.hid hn0
  have km : Kp (fun _ => True) w (w.alloc (.cells #[.int .i64 op, .int .i64 a, .int .i64 b, .slice sq subs.length sc] 48)) := Kp.alloc _ _
  have bm := Blk.new w 48 #[.int .i64 op, .int .i64 a, .int .i64 b, .slice sq subs.length sc]
  have hR := RS.kept h (Kp.alloc w (.cells #[.int .i64 op, .int .i64 a, .int .i64 b, .slice sq subs.length sc] 48))
  have hN := h.new (Nat.le_refl w.heap.size)
  have hE := Nat.ne_of_gt h.blk.lt
  have hS := hs.alloc (.cells #[.int .i64 op, .int .i64 a, .int .i64 b, .slice sq subs.length sc] 48)
  have a0 := At.start hR (Nat.le_trans h1 (by simp)) h2
  unfold exV
  clear ht ht' hg hgl hop4 hs h hn0
  go_enter Tryz.func25, Tryz.ntmps25
  go_upto_region 1 with fail
  obtain ⟨eb, heb⟩ : ∃ eb, eb = w.heap.size := ⟨_, rfl⟩
  rw [← heb] at bm hN hE ⊢
  generalize w.alloc (.cells #[.int .i64 op, .int .i64 a, .int .i64 b, .slice sq subs.length sc] 48) = wA at km bm hR hS a0 ⊢
  have KA := Lib.hid km
  have A0 := Lib.hid a0
  have BM := Lib.hid bm
  have HNO := Lib.hid hN
  have HS := Lib.hid hS
  have HR := Lib.hid hR
  have HEN := Lib.hid hE
  have BOX : Hid (∀ W B', At base wA bb (cB va r) r ss ks W B' → W.cell? ⟨eb, 0, none⟩ = some (.int .i64 op) ∧ W.cell? ⟨eb, 1, none⟩ = some (.int .i64 a) ∧ W.cell? ⟨eb, 2, none⟩ = some (.int .i64 b) ∧ W.cell? ⟨eb, 3, none⟩ = some (.slice sq subs.length sc)) := Lib.hid (fun W B' hW => by
    have b := (BM.out.kept (hW.box BM.out.lt HEN.out HNO.out)).cell
    exact ⟨b 0, b 1, b 2, b 3⟩)
  have SUB : Hid (∀ W B', At base wA bb (cB va r) r ss ks W B' → SlQ (fun j => j < base) W (.slice sq subs.length sc) subs) := Lib.hid (fun W B' hW => HS.out.kept (hW.kp HR.out) (fun _ _ h => h))
  obtain ⟨c0, c1, c2, c3⟩ := BOX.out wA B A0.out
  clear km bm hN hE hS hR a0 heb
  have hnb : n0 ≤ 900000 := by have h9 := HT.out; rw [HN0.out]; unfold tot at h9; omega
  have ho := H_ho.out
  subst ho
  have HMK := Lib.hid (mkE_3 r a b subs B)
  rw [← HN0.out] at HMK
  obtain ⟨B3, hB3⟩ : ∃ B3, B3 = ((B.add r 12).add r 10).add r 9 := ⟨_, rfl⟩
  have hl3 : B3.st.length = n0 + 3 := by rw [hB3, len_add, len_add, len_add, HN0.out]
  have ht3 : tot B3 = tot B + 3 := by rw [hB3, tot_add, tot_add, tot_add]
  obtain ⟨B4, hB4⟩ : ∃ B4, B4 = mkBlk r 5 false subs B3 := ⟨_, rfl⟩
  have hl4' : n0 + 5 ≤ B4.st.length := by rw [hB4]; have := st_mkBlk r 5 false subs B3; omega
  have ht4 : tot B4 ≤ 900000 := by rw [hB4]; have := tot_mkBlk r 5 false subs B3; have := HT.out; omega
  rw [← hB3, ← hB4] at HMK
  have HB3 := Lib.hid hB3
  have HB4 := Lib.hid hB4
  have HL3 := Lib.hid hl3
  obtain ⟨L, hL⟩ : ∃ L, L = B4.st.length := ⟨_, rfl⟩
  rw [← hL] at hl4'
  have HL := Lib.hid hL
  have HT4 := Lib.hid ht4
  have hi0 : (n0 : Int) < (L : Int) := by omega
  have E2 : Hid (((n0 + 2 : Nat) : Int) = (n0 : Int) + 2) := Lib.hid (by omega)
  clear hB3 hB4 hl3 ht4 hL
  go_wp2_with (first | (go_at_call 24; refine (decide_i AA.out (n0 + 1) (by omega) (by have := HT4.out; simp only [tot_eps, tot_arg]; omega)).mono ?_; rintro e wz ⟨rfl, xz⟩; have AZ := Lib.hid xz; clear xz) | (go_at_call 26; refine (edge_i A7.out (n0 + 2) (n0 + 1) (by omega) (by omega) (by have := HT4.out; simp only [tot_eps]; omega)).mono ?_; rintro e w8 ⟨rfl, x8⟩; obtain ⟨g, cap, v, F⟩ := x8.arg n0 (n0 + 2) (by show n0 < B4.st.length; rw [← HL.out]; omega); have fe : w8.cell? ⟨bb, 0, none⟩ = some (.slice (some ⟨g, 0, none⟩) L cap) := (by rw [HL.out]; exact F.e0); have fl : L ≤ cap := (by rw [HL.out]; exact F.le); have fc := F.cv; have ff := F.fr; have aa := F.nx; rw [E2.out] at aa; have AA := Lib.hid aa; clear x8 F aa) | (go_at_call 26; refine (edge_i A6.out (n0 + 4) (n0 + 2) (by omega) (by omega) (by have := HT4.out; simp only [tot_eps]; omega)).mono ?_; rintro e w7 ⟨rfl, x7⟩; have A7 := Lib.hid x7; clear x7) | (go_at_call 26; refine (edge_i A5.out (n0 + 1) n0 (by omega) (by omega) (by have := HT4.out; simp only [tot_eps]; omega)).mono ?_; rintro e w6 ⟨rfl, x6⟩; have A6 := Lib.hid x6; clear x6) | (go_at_call 26; refine (edge_i A4.out (n0 + 1) (n0 + 3) (by omega) (by omega) (by have := HT4.out; omega)).mono ?_; rintro e w5 ⟨rfl, x5⟩; have A5 := Lib.hid x5; clear x5) | (go_at_call 32; refine (block_at IH.out A3.out 5 false subs hsz hl4 HGL.out (by have := HT.out; omega) (SUB.out _ _ A3.out)).mono ?_; rintro e w4 ⟨he, x4⟩; rw [HL3.out] at he; subst he; rw [← HB4.out] at x4; have A4 := Lib.hid x4; clear x4) | (go_at_call 23; refine (state_at A2.out 9 (by have := HT.out; simp only [tot_add]; omega)).mono ?_; rintro e w3 ⟨he, x3⟩; rw [len_add, len_add, ← HN0.out] at he; subst he; rw [← HB3.out] at x3; obtain ⟨g0, g1, g2, g3⟩ := BOX.out _ _ x3; have A3 := Lib.hid x3; clear x3) | (go_at_call 23; refine (state_at A1.out 10 (by have := HT.out; simp only [tot_add]; omega)).mono ?_; rintro e w2 ⟨he, x2⟩; rw [len_add, ← HN0.out] at he; subst he; have A2 := Lib.hid x2; clear x2) | (go_at_call 23; refine (state_at A0.out 12 (by have := HT.out; omega)).mono ?_; rintro e w1 ⟨he, x1⟩; rw [← HN0.out] at he; subst he; obtain ⟨d0, d1, d2, d3⟩ := BOX.out _ _ x1; have A1 := Lib.hid x1; clear x1))
  go_ret2
  rw [HMK.out]
  have hz := AZ.out.fin KA.out
  exact ⟨by simp, by simpa using hz⟩

set_option maxRecDepth 100000 in
set_option maxHeartbeats 8000000 in
theorem make_4 {n : Nat} (ih : MakeC n base bb r ss ks) (op a b : Int) (subs : List Ex) (ho : op ≠ 0) (hh1 : op ≠ 1) (hh2 : op ≠ 2) (hh5 : op ≠ 5) (hh3 : op ≠ 3) (hsz : szL subs ≤ n) (w : World) (va : Nat → Value) (B : Bd) (h : BS base w bb va r B ss ks) (h1 : base ≤ w.heap.size) (h2 : base ≤ bb) (sl : Value) (d : Nat) (hg : lgE (.mk op a b subs) d = true) (ht : tot B + 16 * szE (.mk op a b subs) ≤ 900000) (hs : SlQ (fun j => j < base) w sl subs) :
    Calls Tryz.prog 25 #[.pointer (some ⟨bb, 0, none⟩), exV op a b sl] w fun e w' => e = .returned (.tuple #[.int .i64 ((mkE r (.mk op a b subs) B).2.1 : Nat), .int .i64 ((mkE r (.mk op a b subs) B).2.2 : Nat)]) ∧ BuT base w bb va r (mkE r (.mk op a b subs) B).1 ss ks w' := by
  have IH := Lib.hid ih
  clear ih
  have H_ho := Lib.hid ho
  clear ho
  have H_hh1 := Lib.hid hh1
  clear hh1
  have H_hh2 := Lib.hid hh2
  clear hh2
  have H_hh5 := Lib.hid hh5
  clear hh5
  have H_hh3 := Lib.hid hh3
  clear hh3
  have ht' : tot B + 16 * szL subs + 16 ≤ 900000 := by simp only [szE] at ht; omega
  obtain ⟨hd1, hl4, hgl, hop4⟩ := lgE_parts hg
  have HGL := Lib.hid hgl
  have HT := Lib.hid ht'
  obtain ⟨sq, sc, rfl⟩ := hs.form
  obtain ⟨n0, hn0⟩ : ∃ n0, n0 = B.st.length := ⟨_, rfl⟩
  have HN0 := Lib.hid hn0
  have km : Kp (fun _ => True) w (w.alloc (.cells #[.int .i64 op, .int .i64 a, .int .i64 b, .slice sq subs.length sc] 48)) := Kp.alloc _ _
  have bm := Blk.new w 48 #[.int .i64 op, .int .i64 a, .int .i64 b, .slice sq subs.length sc]
  have hR := RS.kept h (Kp.alloc w (.cells #[.int .i64 op, .int .i64 a, .int .i64 b, .slice sq subs.length sc] 48))
  have hN := h.new (Nat.le_refl w.heap.size)
  have hE := Nat.ne_of_gt h.blk.lt
  have hS := hs.alloc (.cells #[.int .i64 op, .int .i64 a, .int .i64 b, .slice sq subs.length sc] 48)
  have a0 := At.start hR (Nat.le_trans h1 (by simp)) h2
  unfold exV
  clear ht ht' hg hgl hop4 hs h hn0
  go_enter Tryz.func25, Tryz.ntmps25
  go_upto_region 1 with fail
  obtain ⟨eb, heb⟩ : ∃ eb, eb = w.heap.size := ⟨_, rfl⟩
  rw [← heb] at bm hN hE ⊢
  generalize w.alloc (.cells #[.int .i64 op, .int .i64 a, .int .i64 b, .slice sq subs.length sc] 48) = wA at km bm hR hS a0 ⊢
  have KA := Lib.hid km
  have A0 := Lib.hid a0
  have BM := Lib.hid bm
  have HNO := Lib.hid hN
  have HS := Lib.hid hS
  have HR := Lib.hid hR
  have HEN := Lib.hid hE
  have BOX : Hid (∀ W B', At base wA bb (cB va r) r ss ks W B' → W.cell? ⟨eb, 0, none⟩ = some (.int .i64 op) ∧ W.cell? ⟨eb, 1, none⟩ = some (.int .i64 a) ∧ W.cell? ⟨eb, 2, none⟩ = some (.int .i64 b) ∧ W.cell? ⟨eb, 3, none⟩ = some (.slice sq subs.length sc)) := Lib.hid (fun W B' hW => by
    have b := (BM.out.kept (hW.box BM.out.lt HEN.out HNO.out)).cell
    exact ⟨b 0, b 1, b 2, b 3⟩)
  have SUB : Hid (∀ W B', At base wA bb (cB va r) r ss ks W B' → SlQ (fun j => j < base) W (.slice sq subs.length sc) subs) := Lib.hid (fun W B' hW => HS.out.kept (hW.kp HR.out) (fun _ _ h => h))
  obtain ⟨c0, c1, c2, c3⟩ := BOX.out wA B A0.out
  clear km bm hN hE hS hR a0 heb
  have hnb : n0 ≤ 900000 := by have h9 := HT.out; rw [HN0.out]; unfold tot at h9; omega
  have ho := H_ho.out
  have hh1 := H_hh1.out
  have hh2 := H_hh2.out
  have hh5 := H_hh5.out
  have hh3 := H_hh3.out
  have HMK := Lib.hid (mkE_4 r op a b subs B ho hh1 hh2 hh5 hh3)
  rw [← HN0.out] at HMK
  obtain ⟨B3, hB3⟩ : ∃ B3, B3 = (B.add r 12).add r 11 := ⟨_, rfl⟩
  have hl3 : B3.st.length = n0 + 2 := by rw [hB3, len_add, len_add, HN0.out]
  have ht3 : tot B3 = tot B + 2 := by rw [hB3, tot_add, tot_add]
  obtain ⟨B4, hB4⟩ : ∃ B4, B4 = mkBlk r 4 false subs B3 := ⟨_, rfl⟩
  have hl4' : n0 + 4 ≤ B4.st.length := by rw [hB4]; have := st_mkBlk r 4 false subs B3; omega
  have ht4 : tot B4 ≤ 900000 := by rw [hB4]; have := tot_mkBlk r 4 false subs B3; have := HT.out; omega
  rw [← hB3, ← hB4] at HMK
  have HB3 := Lib.hid hB3
  have HB4 := Lib.hid hB4
  have HL3 := Lib.hid hl3
  obtain ⟨L, hL⟩ : ∃ L, L = B4.st.length := ⟨_, rfl⟩
  rw [← hL] at hl4'
  have HL := Lib.hid hL
  have HT4 := Lib.hid ht4
  have hi0 : (n0 : Int) < (L : Int) := by omega
  have E2 : Hid (((n0 + 1 : Nat) : Int) = (n0 : Int) + 1) := Lib.hid (by omega)
  clear hB3 hB4 hl3 ht4 hL
  go_wp2_with (first | (go_at_call 24; refine (decide_i AA.out (n0 + 1) (by omega) (by have := HT4.out; simp only [tot_eps, tot_arg]; omega)).mono ?_; rintro e wz ⟨rfl, xz⟩; have AZ := Lib.hid xz; clear xz) | (go_at_call 26; refine (edge_i A6.out (n0 + 1) n0 (by omega) (by omega) (by have := HT4.out; simp only [tot_eps]; omega)).mono ?_; rintro e w8 ⟨rfl, x8⟩; obtain ⟨g, cap, v, F⟩ := x8.arg n0 (n0 + 1) (by show n0 < B4.st.length; rw [← HL.out]; omega); have fe : w8.cell? ⟨bb, 0, none⟩ = some (.slice (some ⟨g, 0, none⟩) L cap) := (by rw [HL.out]; exact F.e0); have fl : L ≤ cap := (by rw [HL.out]; exact F.le); have fc := F.cv; have ff := F.fr; have aa := F.nx; rw [E2.out] at aa; have AA := Lib.hid aa; clear x8 F aa) | (go_at_call 26; refine (edge_i A5.out (n0 + 1) (n0 + 2) (by omega) (by omega) (by have := HT4.out; simp only [tot_eps]; omega)).mono ?_; rintro e w6 ⟨rfl, x6⟩; have A6 := Lib.hid x6; clear x6) | (go_at_call 26; refine (edge_i A4.out (n0 + 3) (n0 + 1) (by omega) (by omega) (by have := HT4.out; omega)).mono ?_; rintro e w5 ⟨rfl, x5⟩; have A5 := Lib.hid x5; clear x5) | (go_at_call 32; refine (block_at IH.out A3.out 4 false subs hsz hl4 HGL.out (by have := HT.out; omega) (SUB.out _ _ A3.out)).mono ?_; rintro e w4 ⟨he, x4⟩; rw [HL3.out] at he; subst he; rw [← HB4.out] at x4; have A4 := Lib.hid x4; clear x4) | (go_at_call 23; refine (state_at A1.out 11 (by have := HT.out; simp only [tot_add]; omega)).mono ?_; rintro e w3 ⟨he, x3⟩; rw [len_add, ← HN0.out] at he; subst he; rw [← HB3.out] at x3; obtain ⟨g0, g1, g2, g3⟩ := BOX.out _ _ x3; have A3 := Lib.hid x3; clear x3) | (go_at_call 23; refine (state_at A0.out 12 (by have := HT.out; omega)).mono ?_; rintro e w1 ⟨he, x1⟩; rw [← HN0.out] at he; subst he; obtain ⟨d0, d1, d2, d3⟩ := BOX.out _ _ x1; have A1 := Lib.hid x1; clear x1))
  go_ret2
  rw [HMK.out]
  have hz := AZ.out.fin KA.out
  exact ⟨by simp, by simpa using hz⟩

theorem make_any : ∀ n, MakeC n base bb r ss ks := by
  intro n
  induction n with
  | zero => intro op a b subs h; exact absurd (szE_pos (.mk op a b subs)) (by omega)
  | succ n ih =>
    intro op a b subs hn w va B h h1 h2 sl d hg ht hs
    have hsz : szL subs ≤ n := by simp only [szE] at hn; omega
    by_cases o0 : op = 0
    · by_cases hab : a = b
      · exact make_eq ih op a b subs o0 hab hsz w va B h h1 h2 sl d hg ht hs
      · exact make_ne ih op a b subs o0 hab hsz w va B h h1 h2 sl d hg ht hs
    by_cases o1 : op = 1
    · exact make_row ih op a b subs o1 hsz w va B h h1 h2 sl d hg ht hs
    by_cases o2 : op = 2
    · exact make_2 ih op a b subs o2 hsz w va B h h1 h2 sl d hg ht hs
    by_cases o5 : op = 5
    · exact make_5 ih op a b subs o5 hsz w va B h h1 h2 sl d hg ht hs
    by_cases o3 : op = 3
    · exact make_3 ih op a b subs o3 hsz w va B h h1 h2 sl d hg ht hs
    · exact make_4 ih op a b subs o0 o1 o2 o5 o3 hsz w va B h h1 h2 sl d hg ht hs
end Go.Proofs
end
