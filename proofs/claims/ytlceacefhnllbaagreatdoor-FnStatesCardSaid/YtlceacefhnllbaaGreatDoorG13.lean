/- A part of the proof of the statement on the law FnStates, which the last text proves: part G13. -/
import Derived.Test.YtlceacefhnllbaaGreatDoorG11
set_option linter.all false
section
namespace Go.Proofs
open Go.RowKit
open Pl
/-! ## what is told of the states -/
/-- A configuration that lies within a row. -/
structure CfO (w : World) (b o : Nat) (T : TypeId) (sb : Nat) (n alt : Int) (cb pb : Nat) : Prop where
  c1 : w.cell? ⟨b, o + 1, none⟩ = some (.iface T (.pointer (some ⟨sb, 0, none⟩)))
  c2 : w.cell? ⟨b, o + 2, none⟩ = some (.int .i64 alt)
  c3 : w.cell? ⟨b, o + 3, none⟩ = some (.pointer (some ⟨cb, 0, none⟩))
  c4 : w.cell? ⟨b, o + 4, none⟩ = some (.iface 446 (.pointer (some ⟨pb, 0, none⟩)))
  c6 : w.cell? ⟨b, o + 6, none⟩ = some (.int .i64 0)
  c7 : w.cell? ⟨b, o + 7, none⟩ = some (.pointer none)
  c8 : w.cell? ⟨b, o + 8, none⟩ = some (.bool false)
  ty : T ∈ stTypes
  sn : w.cell? ⟨sb, 4, none⟩ = some (.int .i64 n)
  ctx : Ctx w cb
  sem : Sn w pb
theorem CfO.kept {w w' : World} {b o : Nat} {T : TypeId} {sb : Nat} {n alt : Int} {cb pb : Nat} (h : CfO w b o T sb n alt cb pb) (k : Kp (fun _ => True) w w') : CfO w' b o T sb n alt cb pb := by
  have kk : ∀ {x y : Nat} {u : Value}, w.cell? ⟨x, y, none⟩ = some u → w'.cell? ⟨x, y, none⟩ = some u := fun {x y u} ha => (World.cell?_of_block (k.blk x (cell_lt ha) trivial)).trans ha
  exact ⟨kk h.c1, kk h.c2, kk h.c3, kk h.c4, kk h.c6, kk h.c7, kk h.c8, h.ty, kk h.sn, Blk.kept h.ctx (k.blk _ (Blk.lt h.ctx) trivial), Blk.kept h.sem (k.blk _ (Blk.lt h.sem) trivial)⟩

set_option maxRecDepth 100000 in
set_option maxHeartbeats 400000 in
theorem lhashO_any (b o sb cb pb : Nat) (T : TypeId) (n alt : Int) (w : World) (h : CfO w b o T sb n alt cb pb) :
    Calls Tryz.prog 89 #[.pointer (some ⟨b, o, none⟩)] w fun e w' => e = .returned (.int .i64 (lhI n alt)) ∧ w = w' := by
  obtain ⟨c1, c2, c3, c4, c6, c7, c8, hT, hs, hx, hp⟩ := h
  have hd := fun a => dSN hT a w
  have hcc := hx.cell
  have hd2 := fun a => dPH a w
  clear hx
  go_enter Tryz.func89, Tryz.ntmps89
  go_wp2_with (first | (go_at_call 55; refine (murmurInit_any _ _).mono ?_; rintro e w' ⟨rfl, rfl⟩) | (go_at_call 56; refine (murmurUpdate_any _ _ _).mono ?_; rintro e w' ⟨rfl, rfl⟩) | (go_at_call 58; refine (murmurFinish_any _ _ _).mono ?_; rintro e w' ⟨rfl, rfl⟩) | (go_at_call 365; refine (predHash_any _ _ hp).mono ?_; rintro e w' ⟨rfl, rfl⟩) | go_in)
  go_ret
  exact ⟨rfl, rfl⟩

set_option maxRecDepth 100000 in
set_option maxHeartbeats 400000 in
theorem chashO_any (b o sb cb pb : Nat) (T : TypeId) (n alt : Int) (w : World) (h : CfO w b o T sb n alt cb pb) :
    Calls Tryz.prog 60 #[.pointer (some ⟨b, o, none⟩)] w fun e w' => e = .returned (.int .i64 (lhI n alt)) ∧ w = w' := by
  have H := Lib.hid h
  have c6 := h.c6
  clear h
  go_enter Tryz.func60, Tryz.ntmps60
  go_wp2_with fail
  refine (lhashO_any _ _ _ _ _ _ _ _ _ H.out).mono ?_
  rintro e w' ⟨rfl, rfl⟩
  go_wp2_with fail
  go_ret
  exact ⟨rfl, rfl⟩

theorem par_any (c : Nat) (i : Int) (w : World) (h : Ctx w c) : Calls Tryz.prog 88 #[.pointer (some ⟨c, 0, none⟩), .int .i64 i] w fun e w' => e = .returned (.pointer none) ∧ w = w' := by
  have hc := h.cell
  clear h
  go_enter Tryz.func88, Tryz.ntmps88
  go_wp2
  go_ret
  exact ⟨rfl, rfl⟩

theorem eqP_none (w : World) : (binOp .eql 157 (.pointer none) (.pointer none)).run Tryz.prog w = .ok (.bool true) w := by kernel_rfl
theorem eqP_some (a : Addr) (w : World) : (binOp .eql 157 (.pointer (some a)) (.pointer none)).run Tryz.prog w = .ok (.bool false) w := by kernel_rfl

/-- A context, written flat. -/
def cxL : List Value := [.int .i64 1, .int .i64 2147483647, .int .i64 (-1)]
def CxAt (B : Nat) (w : World) (v : Value) : Prop := w.ownsRow B 3 1 v 3 cxL
theorem info3 : (Tryz.prog.info? 3).map (fun i => (i.zero, i.size, i.bytes)) = some (some (.int .i64 0), 1, 8) := by kernel_rfl

theorem own_new (w : World) (e : TypeId) (cs : Array Value) (n : Nat) (h : cs.size = n) (hm : n ≤ maxLen) : (w.alloc (.cells cs e)).ownsRow w.heap.size e 1 (.slice (some ⟨w.heap.size, 0, none⟩) n n) n cs.toList := by
  refine ⟨by simp [h], .inr ⟨w.heap.size, n, cs, rfl, Nat.le_refl _, by simpa using heap_alloc_new w _, Nat.le_refl _, hm, by simp [h], ?_⟩⟩
  rw [Nat.mul_one, List.take_of_length_le (by simp [h])]

theorem kp_own {w wr w1 : World} {o : Obj} {e : TypeId} {sz n : Nat} {v : Value} {xs : List Value} (k : Kp (fun _ => True) w wr) (h : wr.ownsRow w.heap.size e sz v n xs) (hg : (wr.alloc o).grownBy w1 v.ownBlock) : Kp (fun _ => True) w w1 := by
  have k1 : Kp (fun k => some k ≠ v.ownBlock) wr w1 := (Kp.alloc _ _).trans (Kp.grown hg (fun k hk => hk))
  exact ⟨SO.trans (k.so) (k1.so), Nat.le_trans k.size k1.size, fun j hj _ => (k1.blk j (Nat.lt_of_lt_of_le hj k.size) (fun e => by have := (own_blk h e.symm).1; omega)).trans (k.blk j hj trivial)⟩

theorem cxn_any (w : World) : Calls Tryz.prog 59 #[.pointer none] w fun e w' => e = .returned (.slice (some ⟨w.heap.size, 0, none⟩) 1 1) ∧ w.alloc (.cells #[.int .i64 (-1)] 3) = w' := by
  have e1 := fun w => eqP_none w
  go_enter Tryz.func59, Tryz.ntmps59
  go_wp2
  go_ret
  exact ⟨rfl, rfl⟩

set_option maxRecDepth 100000 in
set_option maxHeartbeats 1000000 in
theorem cx_any (c : Nat) (w : World) (h : Ctx w c) : Calls Tryz.prog 59 #[.pointer (some ⟨c, 0, none⟩)] w fun e w' => ∃ v, e = .returned v ∧ CxAt w.heap.size w' v ∧ Kp (fun _ => True) w w' := by
  have e1 := fun a w => eqP_some a w
  obtain ⟨i0, hi0, hz0, hz1, hz2⟩ := info_parts info3
  have H := Lib.hid h
  clear h
  go_enter Tryz.func59, Tryz.ntmps59
  go_wp2_with (first | (go_at_call 86; refine (plen_any _ _ H.out).mono ?_; rintro e w' ⟨rfl, rfl⟩))
  go_loopw [3, 4] (fun t3 t4 wr => Ctx wr c ∧ Kp (fun _ => True) w wr ∧ ((t4 = .int .i64 0 ∧ wr.ownsRow w.heap.size 3 1 t3 1 [.int .i64 1]) ∨ (t4 = .int .i64 1 ∧ CxAt w.heap.size wr t3))) (fun _ t4 _ => 1 - (intOf t4).toNat)
  case atStart => exact ⟨H.out.kept (Kp.blk (P := fun _ => True) (Kp.alloc w _) _ H.out.lt trivial), Kp.alloc _ _, .inl ⟨rfl, own_new w 3 #[.int .i64 1] 1 rfl (by simp [maxLen])⟩⟩
  case round =>
    obtain ⟨hx, kr, (⟨rfl, ho⟩ | ⟨rfl, ho⟩)⟩ := hrel
    · have HX := Lib.hid hx
      have KR := Lib.hid kr
      have HO := Lib.hid ho
      have hw : w.heap.size ≤ wr.heap.size := kr.size
      clear hx kr
      go_wp2_with (first
        | (go_at_call 86; refine (plen_any _ _ HX.out).mono ?_; rintro e w' ⟨rfl, rfl⟩)
        | (go_at_call 87; refine (pret_any _ _ _ HX.out).mono ?_; rintro e w' ⟨rfl, rfl⟩)
        | (go_at_call 88; refine (par_any _ _ _ HX1.out).mono ?_; rintro e w' ⟨rfl, rfl⟩)
        | (go_at_call 59; refine (cxn_any _).mono ?_; rintro e w' ⟨rfl, rfl⟩)
        | (at_builtin; refine wpList_append_lies _ rfl _ _ 29 rfl w.heap.size 3 i0 _ 1 8 Tryz.underlying29 hi0 hz0 hz1 hz2 rfl (by omega) u3 1 [.int .i64 1] rfl (HO.out.alloc _) ⟨wr.heap.size, 0, none⟩ 1 1 [.int .i64 2147483647] rfl rfl (World.news_of_block (cs := #[.int .i64 2147483647]) (t := 3) (fr := (0, 0)) (heap_alloc_new wr _)) (by simp [Value.oneCell']) (by omega) (by simp [maxLen]) (by omega) (by simp; omega) _ rfl ?_; intro gg cap w1 hown1 hgrow hat hlt; have K1 : Hid (Kp (fun _ => True) w w1) := Lib.hid (kp_own KR.out HO.out hgrow); have HX1 : Hid (Ctx w1 c) := Lib.hid (H.out.kept (K1.out.blk _ H.out.lt trivial)); have hw1 : w.heap.size ≤ w1.heap.size := K1.out.size)
        | (at_builtin; refine wpList_append_lies _ rfl _ _ 29 rfl w.heap.size 3 i0 _ 1 8 Tryz.underlying29 hi0 hz0 hz1 hz2 rfl (by omega) _ 2 [.int .i64 1, .int .i64 2147483647] rfl (hown1.alloc _) ⟨w1.heap.size, 0, none⟩ 1 1 [.int .i64 (-1)] rfl rfl (World.news_of_block (cs := #[.int .i64 (-1)]) (t := 3) (fr := (0, 0)) (heap_alloc_new w1 _)) (by simp [Value.oneCell']) (by omega) (by simp [maxLen]) (by omega) (by simp; omega) _ rfl ?_; intro gg2 cap2 w2 hown2 hgrow2 hat2 hlt2))
      have K2 : Kp (fun _ => True) w w2 := kp_own K1.out hown1 hgrow2
      exact ⟨⟨H.out.kept (K2.blk _ H.out.lt trivial), K2, .inr ⟨rfl, hown2⟩⟩, by simp [intOf]⟩
    · have HX := Lib.hid hx
      go_wp2_with (first | (go_at_call 86; refine (plen_any _ _ HX.out).mono ?_; rintro e w' ⟨rfl, rfl⟩))
      go_ret
      exact ⟨_, rfl, ho, kr⟩
end Go.Proofs
end
section
namespace Go.Proofs
open Go.RowKit
open Pl
theorem neA_none (w : World) : (binOp .neq 149 (.pointer none) (.pointer none)).run Tryz.prog w = .ok (.bool false) w := by kernel_rfl
theorem kp_set {w W : World} (k : Kp (fun _ => True) w W) (b i : Nat) (v : Value) (hb : w.heap.size ≤ b) : Kp (fun _ => True) w (W.setCell ⟨b, i, none⟩ v) :=
  ⟨SO.set k.so _ _, by simpa using k.size, fun j hj _ => (heap_setCell_other _ _ _ _ (by show j ≠ b; omega)).trans (k.blk j hj trivial)⟩

theorem own_low {w : World} {B B' : Nat} {e : TypeId} {sz n : Nat} {v : Value} {xs : List Value} (h : w.ownsRow B e sz v n xs) (hb : B' ≤ B) : w.ownsRow B' e sz v n xs := by
  refine ⟨h.1, ?_⟩
  rcases h.2 with h | ⟨g', cap', cur, e1, e2, e3⟩
  · exact .inl h
  · exact .inr ⟨g', cap', cur, e1, Nat.le_trans hb e2, e3⟩
theorem S5 {w W : World} {b o : Nat} {T : TypeId} {sb : Nat} {n alt : Int} {cb pb : Nat} (h : CfO w b o T sb n alt cb pb) (k : Kp (fun _ => True) w W) : W.cell? ⟨b, o + 1, none⟩ = some (.iface T (.pointer (some ⟨sb, 0, none⟩))) ∧ W.cell? ⟨b, o + 2, none⟩ = some (.int .i64 alt) ∧ W.cell? ⟨b, o + 3, none⟩ = some (.pointer (some ⟨cb, 0, none⟩)) ∧ W.cell? ⟨b, o + 7, none⟩ = some (.pointer none) ∧ W.cell? ⟨b, o + 8, none⟩ = some (.bool false) ∧ Kp (fun _ => True) w W :=
  ⟨(h.kept k).c1, (h.kept k).c2, (h.kept k).c3, (h.kept k).c7, (h.kept k).c8, k⟩
set_option maxRecDepth 100000 in
set_option maxHeartbeats 4000000 in
theorem zcfg_any (b o sb cb pb : Nat) (T : TypeId) (n alt : Int) (w : World) (h : CfO w b o T sb n alt cb pb) :
    Calls Tryz.prog 42 #[.pointer (some ⟨b, o, none⟩)] w fun e w' => ∃ v, e = .returned (.agg #[.int .i64 n, .int .i64 alt, v, .bool false, .bool false, .int .i64 (lhI n alt)]) ∧ CxAt w.heap.size w' v ∧ Kp (fun _ => True) w w' := by
  have hd := fun a w => dSN h.ty a w
  have na := fun w => neA_none w
  have H := Lib.hid h
  clear h
  go_enter Tryz.func42, Tryz.ntmps42
  go_upto_region 1 with fail
  have kW : Kp (fun _ => True) w (w.alloc (.cells #[.int .i64 0, .int .i64 0, .slice none 0 0, .bool false, .bool false, .int .i64 0] 103)) := Kp.alloc _ _
  have bW : Hid (Blk (w.alloc (.cells #[.int .i64 0, .int .i64 0, .slice none 0 0, .bool false, .bool false, .int .i64 0] 103)).drew w.heap.size 103 #[.int .i64 0, .int .i64 0, .slice none 0 0, .bool false, .bool false, .int .i64 0]) := Lib.hid (Blk.new _ _ _)
  go_region_held3 (fun w' => w'.cell? ⟨b, o + 1, none⟩ = some (.iface T (.pointer (some ⟨sb, 0, none⟩))) ∧ w'.cell? ⟨b, o + 2, none⟩ = some (.int .i64 alt) ∧ w'.cell? ⟨b, o + 3, none⟩ = some (.pointer (some ⟨cb, 0, none⟩)) ∧ w'.cell? ⟨b, o + 7, none⟩ = some (.pointer none) ∧ w'.cell? ⟨b, o + 8, none⟩ = some (.bool false) ∧ Kp (fun _ => True) w w')
    ((refine S5 H.out ?_; (repeat (with_reducible refine kp_set ?_ _ _ _ (Nat.le_refl _))); first | (with_reducible exact kW.trans (Kp.drew _)) | (with_reducible assumption) | (with_reducible exact (kW.trans (Kp.drew _)).trans kp5)))
    (first | (go_at_call 277; refine (gSN _ _ _ (H.out.kept (by first | (with_reducible exact kW.trans (Kp.drew _)) | (with_reducible exact (kW.trans (Kp.drew _)).trans kp5) | (with_reducible assumption))).sn).mono ?_; rintro e w' ⟨rfl, rfl⟩) | (go_at_call 60; refine (chashO_any _ _ _ _ _ _ _ _ _ (H.out.kept (by first | (with_reducible exact kW.trans (Kp.drew _)) | (with_reducible exact (kW.trans (Kp.drew _)).trans kp5) | (with_reducible assumption)))).mono ?_; rintro e w' ⟨rfl, rfl⟩) | (go_at_call 59; refine (cx_any _ _ (H.out.kept (by first | (with_reducible exact kW.trans (Kp.drew _)) | (with_reducible exact (kW.trans (Kp.drew _)).trans kp5) | (with_reducible assumption))).ctx).mono ?_; rintro e w5 ⟨cv, rfl, hcx, kp5⟩; obtain ⟨cg, cc, rfl, _⟩ := own_form hcx (by omega); have HC := Lib.hid hcx; clear hcx; have b5 := (show Blk _ w.heap.size 103 #[.int .i64 0, .int .i64 0, .slice none 0 0, .bool false, .bool false, .int .i64 0] from bW.out).kept (kp5.blk _ (Blk.lt bW.out) trivial); have b5c := b5.cell; have b5f := b5.free; have b5l := b5.lt; have B5 := Lib.hid b5; clear b5))
  all_goals
    have b6 := (((((B5.out.set 0 (.int .i64 n) _ rfl).set 1 (.int .i64 alt) _ rfl).set 2 (.slice (some ⟨cg, 0, none⟩) 3 cc) _ rfl).set 3 (.bool false) _ rfl).set 4 (.bool false) _ rfl).set 5 (.int .i64 (lhI n alt)) #[.int .i64 n, .int .i64 alt, .slice (some ⟨cg, 0, none⟩) 3 cc, .bool false, .bool false, .int .i64 (lhI n alt)] (by simp)
    have k6 := kp_set (kp_set (kp_set (kp_set (kp_set (kp_set ((kW.trans (Kp.drew _)).trans kp5) w.heap.size 0 (.int .i64 n) (Nat.le_refl _)) w.heap.size 1 (.int .i64 alt) (Nat.le_refl _)) w.heap.size 2 (.slice (some ⟨cg, 0, none⟩) 3 cc) (Nat.le_refl _)) w.heap.size 3 (.bool false) (Nat.le_refl _)) w.heap.size 4 (.bool false) (Nat.le_refl _)) w.heap.size 5 (.int .i64 (lhI n alt)) (Nat.le_refl _)
    have hcx := HC.out
    have hz : w.heap.size < (w.alloc (.cells #[.int .i64 0, .int .i64 0, .slice none 0 0, .bool false, .bool false, .int .i64 0] 103)).drew.heap.size := by show _ < (w.alloc _).heap.size; simp
    have own6 : CxAt w.heap.size ((((((w5.setCell ⟨w.heap.size, 0, none⟩ (.int .i64 n)).setCell ⟨w.heap.size, 1, none⟩ (.int .i64 alt)).setCell ⟨w.heap.size, 2, none⟩ (.slice (some ⟨cg, 0, none⟩) 3 cc)).setCell ⟨w.heap.size, 3, none⟩ (.bool false)).setCell ⟨w.heap.size, 4, none⟩ (.bool false)).setCell ⟨w.heap.size, 5, none⟩ (.int .i64 (lhI n alt))) (.slice (some ⟨cg, 0, none⟩) 3 cc) := by
      have := (own_blk hcx (k := cg) rfl).1
      refine own_low (own_kept' hcx (fun k hk => ?_)) (Nat.le_of_lt hz)
      have e : k = cg := by simp [Value.ownBlock] at hk; exact hk.symm
      subst e
      have hk' : k ≠ w.heap.size := by omega
      rw [heap_setCell_other _ _ _ _ (show k ≠ (⟨w.heap.size, 5, none⟩ : Addr).block from hk'), heap_setCell_other _ _ _ _ (show k ≠ (⟨w.heap.size, 4, none⟩ : Addr).block from hk'), heap_setCell_other _ _ _ _ (show k ≠ (⟨w.heap.size, 3, none⟩ : Addr).block from hk'), heap_setCell_other _ _ _ _ (show k ≠ (⟨w.heap.size, 2, none⟩ : Addr).block from hk'), heap_setCell_other _ _ _ _ (show k ≠ (⟨w.heap.size, 1, none⟩ : Addr).block from hk'), heap_setCell_other _ _ _ _ (show k ≠ (⟨w.heap.size, 0, none⟩ : Addr).block from hk')]
    generalize (((((w5.setCell ⟨w.heap.size, 0, none⟩ (.int .i64 n)).setCell ⟨w.heap.size, 1, none⟩ (.int .i64 alt)).setCell ⟨w.heap.size, 2, none⟩ (.slice (some ⟨cg, 0, none⟩) 3 cc)).setCell ⟨w.heap.size, 3, none⟩ (.bool false)).setCell ⟨w.heap.size, 4, none⟩ (.bool false)).setCell ⟨w.heap.size, 5, none⟩ (.int .i64 (lhI n alt)) = w6 at b6 k6 own6 ⊢
    have b6c := b6.cell
    have b6l := b6.lt
    have K6 := Lib.hid k6
    have O6 := Lib.hid own6
    clear b6 k6 own6 hcx b5c b5f b5l
    go_wp2
    refine bodyPost_ret (v := .agg #[.int .i64 n, .int .i64 alt, .slice (some ⟨cg, 0, none⟩) 3 cc, .bool false, .bool false, .int .i64 (lhI n alt)]) ?_ rfl ⟨_, rfl, O6.out, K6.out⟩
    simp [results, Tryz.results42, go_sem, b6c]
end Go.Proofs
end
section
namespace Go.Proofs
open Go.RowKit
open Pl
/-! ## what is told of the states: rows -/
def cfgV (x : Cf) (v : Value) : List Value := [.int .i64 x.n, .int .i64 x.alt, v, .bool false, .bool false, .int .i64 (lhI x.n x.alt)]
def flatG (L : List Cf) (vs : List Value) : List Value := (L.zip vs).flatMap fun p => cfgV p.1 p.2
theorem flatG_app (L : List Cf) (vs : List Value) (x : Cf) (v : Value) (h : vs.length = L.length) : flatG (L ++ [x]) (vs ++ [v]) = flatG L vs ++ cfgV x v := by
  unfold flatG
  rw [List.zip_append h.symm, List.flatMap_append]
  simp

/-- Configurations that were told lie in a row. -/
def CfgRow (B : Nat) (w : World) (sl : Value) (L : List Cf) : Prop := ∃ vs, vs.length = L.length ∧ w.ownsRow B 103 6 sl L.length (flatG L vs) ∧ ∀ v ∈ vs, CxAt B w v
theorem CxAt.kept {B B' : Nat} {w w' : World} {v : Value} (h : CxAt B w v) (hb : B' ≤ B) (k : ∀ (j : Nat) c, B ≤ j → w.heap[j]? = some (Obj.cells c 3 (0, 0)) → w'.heap[j]? = w.heap[j]?) : CxAt B' w' v :=
  own_low (own_kept' h (fun j hj => by obtain ⟨h1, _, c, h2⟩ := own_blk h hj; exact k j c h1 h2)) hb
theorem CfgRow.kept {B B' : Nat} {w w' : World} {sl : Value} {L : List Cf} (h : CfgRow B w sl L) (hb : B' ≤ B) (k : ∀ (j : Nat) c T, B ≤ j → w.heap[j]? = some (Obj.cells c T (0, 0)) → (T = 3 ∨ T = 103) → w'.heap[j]? = w.heap[j]?) : CfgRow B' w' sl L := by
  obtain ⟨vs, h1, h2, h3⟩ := h
  exact ⟨vs, h1, own_low (own_kept' h2 (fun j hj => by obtain ⟨h1, _, c, h2⟩ := own_blk h2 hj; exact k j c 103 h1 h2 (.inr rfl))) hb, fun v hv => (h3 v hv).kept hb (fun j c hj hc => k j c 3 hj hc (.inl rfl))⟩

theorem CfgRow.nil (B : Nat) (w : World) : CfgRow B w (.slice none 0 0) [] := ⟨[], rfl, ⟨rfl, .inl ⟨rfl, rfl⟩⟩, by simp⟩

/-- One more is put behind them. -/
theorem CfgRow.step {B : Nat} {wr w5 w1 : World} {c : Value} {L : List Cf} {vs : List Value} (h1 : vs.length = L.length) (h2 : wr.ownsRow B 103 6 c L.length (flatG L vs)) (h3 : ∀ v ∈ vs, CxAt B wr v) (k5 : Kp (fun _ => True) wr w5) {S5 : Nat} (hS : B ≤ S5) {x : Cf} {v : Value} (cx : CxAt S5 w5 v) (o : Obj) (gg cap : Nat)
    (own1 : w1.ownsRow B 103 6 (.slice (some ⟨gg, 0, none⟩) (L.length + 1) cap) (L.length + 1) (flatG L vs ++ cfgV x v)) (hg : (w5.alloc o).grownBy w1 c.ownBlock) :
    CfgRow B w1 (.slice (some ⟨gg, 0, none⟩) (L.length + 1) cap) (L ++ [x]) ∧ Kp (fun k => k < B) wr w1 ∧ (∀ (j : Nat) c T, wr.heap[j]? = some (Obj.cells c T (0, 0)) → T ≠ 103 → w1.heap[j]? = wr.heap[j]?) := by
  have k1 : Kp (fun k => some k ≠ c.ownBlock) w5 w1 := (Kp.alloc _ _).trans (Kp.grown hg (fun k hk => hk))
  have o5 : w5.ownsRow B 103 6 c L.length (flatG L vs) := own_kept' h2 (fun j hj => k5.blk j (own_blk h2 hj).2.1 trivial)
  have far : ∀ (j : Nat) cs T, w5.heap[j]? = some (Obj.cells cs T (0, 0)) → T ≠ 103 → w1.heap[j]? = w5.heap[j]? := by
    intro j cs T hj hT
    refine k1.blk j (lt_of_block hj) (fun e => ?_)
    obtain ⟨_, _, c', hc'⟩ := own_blk o5 e.symm
    rw [hj] at hc'; cases hc'; exact hT rfl
  have farr : ∀ (j : Nat) cs T, wr.heap[j]? = some (Obj.cells cs T (0, 0)) → T ≠ 103 → w1.heap[j]? = wr.heap[j]? := by
    intro j cs T hj hT
    have e5 := k5.blk j (lt_of_block hj) trivial
    exact (far j cs T (by rw [e5]; exact hj) hT).trans e5
  refine ⟨⟨vs ++ [v], by simp [h1], by rw [flatG_app _ _ _ _ h1]; simpa using own1, ?_⟩, ⟨SO.trans (k5.so) (k1.so), Nat.le_trans k5.size k1.size, fun k hk hb => ?_⟩, farr⟩
  · intro u hu
    rcases List.mem_append.1 hu with hu | hu
    · exact (h3 u hu).kept (Nat.le_refl _) (fun j cs _ hj => farr j cs 3 hj (by decide))
    · simp only [List.mem_singleton] at hu; subst hu
      exact cx.kept hS (fun j cs _ hj => far j cs 3 hj (by decide))
  · exact (k1.blk k (Nat.lt_of_lt_of_le hk k5.size) (fun e => by have := (own_blk o5 e.symm).1; omega)).trans (k5.blk k hk trivial)

/-- The DFA behind what is told. -/
structure WL (B0 S : Nat) (w0 : World) (N : Bd) (v : AV) (f : Nat) (g : GS) (dsl : Value) (nd : Nat) (bs : List Nat) (wr : World) : Prop where
  ex : ∃ wl : World, wl.heap.size = S ∧ LX B0 wl N v f g ∧ Kp (fun k => k < S) wl wr ∧ Kp (fun k => k < B0) w0 wl ∧ wl.ownsRow 0 120 1 dsl nd (ptrs bs) ∧ (∀ i b, bs[i]? = some b → 0 < i → wl.cell? ⟨b, 0, none⟩ = some (.slice none 0 0))

theorem WL.lx {B0 S : Nat} {w0 : World} {N : Bd} {v : AV} {f : Nat} {g : GS} {dsl : Value} {nd : Nat} {bs : List Nat} {wr : World} (h : WL B0 S w0 N v f g dsl nd bs wr) : LX B0 wr N v f g ∧ S ≤ wr.heap.size ∧ wr.ownsRow 0 120 1 dsl nd (ptrs bs) ∧ (∀ i b, bs[i]? = some b → 0 < i → wr.cell? ⟨b, 0, none⟩ = some (.slice none 0 0)) ∧ Kp (fun k => k < B0) w0 wr := by
  obtain ⟨wl, rfl, h2, h3, h4, h5, h6⟩ := h.ex
  have k : Kp (fun _ => True) wl wr := ⟨⟨h3.so.os, h3.so.out⟩, h3.size, fun j hj _ => h3.blk j hj hj⟩
  exact ⟨h2.all k, k.size, own_kept' h5 (fun j hj => k.blk j (own_blk h5 hj).2.1 trivial), fun i b hb hi => (World.cell?_of_block (k.blk b (cell_lt (h6 i b hb hi)) trivial)).trans (h6 i b hb hi), h4.trans (k.weak (fun _ _ => trivial))⟩
theorem WL.off {B0 S : Nat} {w0 : World} {N : Bd} {v : AV} {f : Nat} {g : GS} {dsl : Value} {nd : Nat} {bs : List Nat} {wr wr' : World} (h : WL B0 S w0 N v f g dsl nd bs wr) (k : Kp (fun k => k < S) wr wr') : WL B0 S w0 N v f g dsl nd bs wr' := by
  obtain ⟨wl, h1, h2, h3, h4⟩ := h.ex
  exact ⟨wl, h1, h2, h3.trans k, h4⟩

set_option maxRecDepth 100000 in
theorem hash_wl {B0 S : Nat} {w0 : World} {N : Bd} {v : AV} {f : Nat} {g : GS} {dsl : Value} {nd : Nat} {bs : List Nat} {wr : World} (h : WL B0 S w0 N v f g dsl nd bs wr) (d : DS) (hd : g.ty d.b = some (.proper d)) :
    Calls Tryz.prog 41 #[.pointer (some ⟨d.b, 0, none⟩)] wr fun e w' => e = .returned (.int .i64 (dfaHashL (ddC d.L))) ∧ WL B0 S w0 N v f g dsl nd bs w' ∧ Kp (fun k => S ≤ k) wr w' ∧ w'.heap.size = wr.heap.size := by
  obtain ⟨lx, hS, _⟩ := h.lx
  obtain ⟨_, h3, sn, ed, ac, pr, ch, lk, ro, h4, D⟩ := lx.dst hd
  obtain ⟨wl, e1, l2, l3, l4, l5, l6⟩ := h.ex
  refine (dsthash_any wr.heap.size wr N v (lx.net.up lx.hB) d.b d.cb (ddC d.L) (dd d.A) D.fsrc (D.blk.cell 1) ro ch (D.set.cell 1) (D.set.free 1) (D.set.cell 8) D.hash).mono ?_
  rintro e w' ⟨rfl, rfl | ⟨rfl, rfl⟩⟩
  · exact ⟨rfl, h, Kp.rfl', rfl⟩
  · obtain ⟨_, k3, sn2, ed2, ac2, pr2, ch2, lk2, ro2, k4, D2⟩ := l2.dst hd
    have hcb : d.cb < S := by rw [← e1]; exact D2.set.lt
    have kp : Kp (fun j => j ≠ d.cb) wl (wl.setCell ⟨d.cb, 1, none⟩ (.int .i64 (hashL (ddC d.L)))) := Kp.setCell _ _ _ (by simp)
    have ero : ro2 = true := by
      have a := D.set
      have b : Blk wr d.cb 147 (setK d.ask ch2 lk2 d.cfg ro2) := D2.set.kept (l3.blk _ D2.set.lt hcb)
      unfold Blk at a b
      rw [a] at b
      simp [setK] at b
      first | exact b.2.2 | exact b.2.2.symm
    subst ero
    have hb : Blk (wl.setCell ⟨d.cb, 1, none⟩ (.int .i64 (hashL (ddC d.L)))) d.cb 147 (setK d.ask (hashL (ddC d.L)) lk2 d.cfg true) := D2.set.set 1 _ _ (by simp [setK])
    refine ⟨rfl, ⟨wl.setCell ⟨d.cb, 1, none⟩ (.int .i64 (hashL (ddC d.L))), by simpa using e1, l2.put d.cb _ k3 _ ⟨rfl, _, lk2, true, rfl, .inr rfl⟩ hb kp, ?_, ?_, ?_, ?_⟩, Kp.setCell _ _ _ (by show ¬ S ≤ d.cb; omega), by simp⟩
    · refine ⟨⟨l3.so.os, l3.so.out⟩, by simpa using l3.size, fun k hk hkS => ?_⟩
      have hk' : k < wl.heap.size := by simpa using hk
      by_cases e : k = d.cb
      · subst e
        have b := D2.set.kept (l3.blk _ D2.set.lt hcb)
        exact (b.set 1 (.int .i64 (hashL (ddC d.L))) _ rfl).trans (D2.set.set 1 (.int .i64 (hashL (ddC d.L))) _ rfl).symm
      · rw [heap_setCell_other _ _ _ _ e, heap_setCell_other _ _ _ _ e]
        exact l3.blk k hk' hkS
    · exact l4.trans (kp.weak (fun j hj e => by have := l2.low d.cb (.inl (by rw [k3]; simp)); omega))
    · exact own_kept' l5 (fun j hj => heap_setCell_other _ _ _ _ (fun e => by
        obtain ⟨_, _, c, hc⟩ := own_blk l5 hj
        have e' : j = d.cb := e
        have b := D2.set
        unfold Blk at b
        rw [e', b] at hc; simp at hc))
    · intro i b hb' hi
      have := l6 i b hb' hi
      by_cases e : b = d.cb
      · subst e
        have c0 : wl.cell? ⟨d.cb, 0, none⟩ = some d.ask := D2.set.cell 0
        rw [c0] at this
        exact (hb.cell 0).trans (by simpa [setK] using this)
      · exact (World.cell?_of_block (heap_setCell_other _ _ _ _ e)).trans this
end Go.Proofs
end
section
namespace Go.Proofs
open Go.RowKit
open Pl
def metV (d : DS) (p : Value × Value) : List Value := [.int .i64 0, .int .i64 (dfaHashL (ddC d.L)), p.1, p.2]
def flatM (ds : List DS) (ps : List (Value × Value)) : List Value := (ds.zip ps).flatMap fun x => metV x.1 x.2
theorem flatM_app (ds : List DS) (ps : List (Value × Value)) (d : DS) (p : Value × Value) (h : ps.length = ds.length) : flatM (ds ++ [d]) (ps ++ [p]) = flatM ds ps ++ metV d p := by
  unfold flatM
  rw [List.zip_append h.symm, List.flatMap_append]
  simp
def MetRow (B : Nat) (w : World) (sl : Value) (ds : List DS) : Prop := ∃ ps, ps.length = ds.length ∧ w.ownsRow B 73 4 sl ds.length (flatM ds ps) ∧ ∀ x ∈ ds.zip ps, CfgRow B w x.2.1 (ddC x.1.L) ∧ CfgRow B w x.2.2 x.1.L
theorem MetRow.nil (B : Nat) (w : World) : MetRow B w (.slice none 0 0) [] := ⟨[], rfl, ⟨rfl, .inl ⟨rfl, rfl⟩⟩, by simp⟩

theorem Frz.cfo {w : World} {N : Bd} {v : AV} {f : Nat} {d : DS} (h : Frz w N v f d) {x : Cf} (hx : x ∈ ddC d.L) : CfO w x.b 0 x.T x.s x.n x.alt x.c x.p := by
  have hb := h.b x hx
  have hm := ddC_mem hx
  exact ⟨hb.cell 1, hb.cell 2, hb.cell 3, hb.cell 4, hb.cell 6, hb.cell 7, hb.cell 8, h.ty x hm, h.sn x hm, h.ctx x hm, h.sem x hm⟩

theorem flatC_at (L : List Cf) (k : Nat) (x : Cf) (hx : L[k]? = some x) (i : Nat) (hi : i < 9) : (flatC L)[k * 9 + i]? = x.cells.toList[i]? := by
  induction L generalizing k with
  | nil => simp at hx
  | cons y L ih =>
    have hl : y.cells.toList.length = 9 := by simp [Cf.cells, confCells]
    cases k with
    | zero =>
      simp at hx; subst hx
      unfold flatC
      rw [List.flatMap_cons, List.getElem?_append_left (by simpa using by rw [← Array.length_toList, hl]; omega)]
      simp
    | succ k =>
      simp at hx
      unfold flatC
      rw [List.flatMap_cons, List.getElem?_append_right (by rw [hl]; omega), hl]
      have := ih k hx
      unfold flatC at this
      rw [← this]
      congr 1
      omega

theorem Frz.cfa {w : World} {N : Bd} {v : AV} {f : Nat} {d : DS} (h : Frz w N v f d) {ga n c : Nat} (hg : d.ask = .slice (some ⟨ga, 0, none⟩) n c) {k : Nat} {x : Cf} (hx : d.L[k]? = some x) : CfO w ga (k * 9) x.T x.s x.n x.alt x.c x.p := by
  have hm := List.mem_of_getElem? hx
  have ho := h.ask
  have hn : n = d.L.length := by
    rcases ho.2 with ⟨e, _⟩ | ⟨g', cap', cur, e, _⟩
    · rw [hg] at e; cases e
    · rw [hg] at e; cases e; rfl
  subst hn
  rw [hg] at ho
  have cl : ∀ i u, i < 9 → x.cells.toList[i]? = some u → w.cell? ⟨ga, k * 9 + i, none⟩ = some u := fun i u hi hu => by
    have := ho.cells (g := ga) rfl (k * 9 + i) u (by rw [flatC_at _ _ _ hx i hi]; exact hu)
    have e : (⟨ga, 0, none⟩ : Addr).add (k * 9 + i) = ⟨ga, k * 9 + i, none⟩ := by
      by_cases hi : k * 9 + i = 0
      · rw [hi]; rfl
      · simp only [Addr.add, hi]; simp
    rw [e] at this; exact this
  exact ⟨cl 1 _ (by omega) rfl, cl 2 _ (by omega) rfl, cl 3 _ (by omega) rfl, cl 4 _ (by omega) rfl, cl 6 _ (by omega) rfl, cl 7 _ (by omega) rfl, cl 8 _ (by omega) rfl, h.ty x hm, h.sn x hm, h.ctx x hm, h.sem x hm⟩

theorem met_len {N : Bd} {f : Nat} (nf : NetF N f) {A : List (Nat × Nat)} (h : Pl.Met N f A) : A.length * 88 ≤ 140737488355328 := by
  cases h with
  | start _ h =>
    obtain ⟨A', h1, _, h2⟩ := nf.start
    rw [h] at h1; cases h1; exact h2
  | step A0 _ c h0 h =>
    obtain ⟨B, h1, h2⟩ := nf.step A0 h0 c
    rw [h] at h1; cases h1; exact h2

/-- Where a loop over configurations stands: those before are told in the record's cell. -/
def LpM3 (wh : World) (mb S : Nat) (h : Int) (L : List Cf) (mk : Value → Array Value) (t : Value) (wx : World) : Prop :=
  ∃ (k : Nat) (c : Value), t = .int .i64 k ∧ k ≤ L.length ∧ Blk wx mb 73 (mk c) ∧ CfgRow S wx c (L.take k) ∧ Kp (fun k => k ≠ mb) wh wx
theorem CfO.kept2 {w w' : World} {b o : Nat} {T : TypeId} {sb : Nat} {n alt : Int} {cb pb mb : Nat} (h : CfO w b o T sb n alt cb pb) (k : Kp (fun k => k ≠ mb) w w') (hs : sb ≠ mb) (m : ∀ c, w.heap[mb]? = some (Obj.cells c 161 (0, 0)) → False) (hb : b ≠ mb) (hc : cb ≠ mb) (hp : pb ≠ mb) : CfO w' b o T sb n alt cb pb := by
  have kk : ∀ {x y : Nat} {u : Value}, x ≠ mb → w.cell? ⟨x, y, none⟩ = some u → w'.cell? ⟨x, y, none⟩ = some u := fun {x y u} hx ha => (World.cell?_of_block (k.blk x (cell_lt ha) hx)).trans ha
  exact ⟨kk hb h.c1, kk hb h.c2, kk hb h.c3, kk hb h.c4, kk hb h.c6, kk hb h.c7, kk hb h.c8, h.ty, kk hs h.sn, Blk.kept h.ctx (k.blk _ (Blk.lt h.ctx) hc), Blk.kept h.sem (k.blk _ (Blk.lt h.sem) hp)⟩

theorem LpM3.step {wh wr w1 : World} {mb S i k gg cap1 : Nat} {h : Int} {L : List Cf} {mk : Value → Array Value} {c : Value} {x : Cf} (hx : L[k]? = some x) (hS : wh.heap.size ≤ S) (kx : Kp (fun k => k ≠ mb) wh wr)
    (st : CfgRow S w1 (.slice (some ⟨gg, 0, none⟩) ((L.take k).length + 1) cap1) (L.take k ++ [x]) ∧ Kp (fun k => k < S) wr w1 ∧ (∀ (j : Nat) c T, wr.heap[j]? = some (Obj.cells c T (0, 0)) → T ≠ 103 → w1.heap[j]? = wr.heap[j]?)) (b1 : Blk w1 mb 73 (mk c)) (hmk : ∀ u, (mk c).setIfInBounds i u = mk u) (mb' : wr.heap.size ≤ w1.heap.size) :
    LpM3 wh mb S h L mk (.int .i64 ((k : Int) + 1)) (w1.setCell ⟨mb, i, none⟩ (.slice (some ⟨gg, 0, none⟩) (k + 1) cap1)) ∧ L.length - (intOf (.int .i64 ((k : Int) + 1))).toNat < L.length - (intOf (.int .i64 (k : Int))).toNat := by
  obtain ⟨hk, _⟩ := List.getElem?_eq_some_iff.1 hx
  have hlen : (L.take k).length = k := by simp; omega
  obtain ⟨s1, s2, s3⟩ := st
  rw [hlen] at s1
  have et : L.take (k + 1) = L.take k ++ [x] := by rw [List.take_add_one, hx]; rfl
  refine ⟨⟨k + 1, .slice (some ⟨gg, 0, none⟩) (k + 1) cap1, by simp, by omega, b1.set i _ _ (hmk _), ?_, ?_⟩, by simp [intOf]; omega⟩
  · rw [et]
    refine s1.kept (Nat.le_refl _) (fun j c' T _ hj hT => heap_setCell_other _ _ _ _ (fun e => ?_))
    have e' : j = mb := e
    unfold Blk at b1
    rw [e', b1] at hj
    rcases hT with rfl | rfl <;> simp at hj
  · exact ⟨(SO.trans kx.so s2.so).set _ _, by simpa using Nat.le_trans kx.size mb', fun j hj hm => (heap_setCell_other _ _ _ _ hm).trans ((s2.blk j (Nat.lt_of_lt_of_le hj kx.size) (by omega)).trans (kx.blk j hj hm))⟩

theorem MetRow.step {S gg cap : Nat} {w0 wh wr w1 : World} {t2 c a : Value} {ds : List DS} {d : DS} {ps : List (Value × Value)} (p1 : ps.length = ds.length) (p2 : w0.ownsRow S 73 4 t2 ds.length (flatM ds ps)) (p3 : ∀ x ∈ ds.zip ps, CfgRow S w0 x.2.1 (ddC x.1.L) ∧ CfgRow S w0 x.2.2 x.1.L)
    (kh : Kp (fun k => S ≤ k) w0 wh) (kx : Kp (fun _ => True) wh wr) (rc : CfgRow S wr c (ddC d.L)) (ra : CfgRow S wr a d.L) (o : Obj) (own1 : w1.ownsRow S 73 4 (.slice (some ⟨gg, 0, none⟩) (ds.length + 1) cap) (ds.length + 1) (flatM ds ps ++ metV d (c, a))) (hg : (wr.alloc o).grownBy w1 t2.ownBlock) :
    MetRow S w1 (.slice (some ⟨gg, 0, none⟩) (ds.length + 1) cap) (ds ++ [d]) ∧ Kp (fun k => k < S) wr w1 := by
  have o1 : wr.ownsRow S 73 4 t2 ds.length (flatM ds ps) := own_kept' p2 (fun k hk => by
    obtain ⟨l1, l2, _⟩ := own_blk p2 hk
    exact (kx.blk k (Nat.lt_of_lt_of_le l2 kh.size) trivial).trans (kh.blk k l2 l1))
  have k1 : Kp (fun k => some k ≠ t2.ownBlock) wr w1 := (Kp.alloc _ _).trans (Kp.grown hg (fun k hk => hk))
  have far : ∀ (j : Nat) (cs : Array Value) (T : TypeId), wr.heap[j]? = some (Obj.cells cs T (0, 0)) → (T = 3 ∨ T = 103) → w1.heap[j]? = wr.heap[j]? := by
    intro j cs T hj hT
    refine k1.blk j (lt_of_block hj) (fun e => ?_)
    obtain ⟨_, _, c', hc'⟩ := own_blk o1 e.symm
    rw [hj] at hc'; cases hc'
    rcases hT with h | h <;> simp at h
  have up : ∀ sl L, CfgRow S w0 sl L → CfgRow S w1 sl L := by
    intro sl L h
    have h2 : CfgRow S wr sl L := h.kept (Nat.le_refl _) (fun j cs T hj hc hT => (kx.blk j (Nat.lt_of_lt_of_le (lt_of_block hc) kh.size) trivial).trans (kh.blk j (lt_of_block hc) hj))
    exact h2.kept (Nat.le_refl _) (fun j cs T _ hc hT => far j cs T hc hT)
  refine ⟨⟨ps ++ [(c, a)], by simp [p1], by rw [flatM_app _ _ _ _ p1]; simpa using own1, ?_⟩, ⟨⟨k1.so.os, k1.so.out⟩, k1.size, fun k hk hb => k1.blk k hk (fun e => by have := (own_blk o1 e.symm).1; omega)⟩⟩
  intro x hx
  rw [List.zip_append p1.symm] at hx
  rcases List.mem_append.1 hx with hx | hx
  · exact ⟨up _ _ (p3 x hx).1, up _ _ (p3 x hx).2⟩
  · simp at hx; subst hx
    exact ⟨rc.kept (Nat.le_refl _) (fun j cs T _ hc hT => far j cs T hc hT), ra.kept (Nat.le_refl _) (fun j cs T _ hc hT => far j cs T hc hT)⟩
theorem CfgRow.form {B : Nat} {w : World} {sl : Value} {L : List Cf} (h : CfgRow B w sl L) (hn : L.length ≠ 0) : ∃ g cap, sl = .slice (some ⟨g, 0, none⟩) L.length cap := by
  obtain ⟨vs, _, h2, _⟩ := h
  obtain ⟨g, cap, e, _⟩ := own_form h2 hn
  exact ⟨g, cap, e⟩
theorem CfgRow.at {B B' mb : Nat} {w w' : World} {sl : Value} {L : List Cf} {m : Array Value} (h : CfgRow B w sl L) (hb : B' ≤ B) (k : Kp (fun k => k ≠ mb) w w') (bm : Blk w mb 73 m) : CfgRow B' w' sl L :=
  h.kept hb (fun j cs T _ hc hT => k.blk j (lt_of_block hc) (fun e => by
    unfold Blk at bm
    rw [e, bm] at hc; cases hc
    rcases hT with h | h <;> simp at h))

theorem met_next {S gg j cap1 : Nat} {w1 : World} {ds : List DS} {d : DS} (hd : ds[j]? = some d) (st : MetRow S w1 (.slice (some ⟨gg, 0, none⟩) ((ds.take j).length + 1) cap1) (ds.take j ++ [d])) : MetRow S w1 (.slice (some ⟨gg, 0, none⟩) (j + 1) cap1) (ds.take (j + 1)) := by
  obtain ⟨hk, _⟩ := List.getElem?_eq_some_iff.1 hd
  have hlen : (ds.take j).length = j := by simp; omega
  rw [hlen] at st
  rw [List.take_add_one, hd]; exact st
end Go.Proofs
end
