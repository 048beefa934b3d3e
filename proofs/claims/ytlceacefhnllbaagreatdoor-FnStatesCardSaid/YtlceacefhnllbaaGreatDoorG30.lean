/- A part of the proof of the statement on the law FnStates, which the last text proves: part G30. -/
import Derived.Test.YtlceacefhnllbaaGreatDoorG29
set_option linter.all false
section
namespace Go.Proofs
open Go.RowKit
open Pl
/-! ## modes, sets, actions, decisions are read -/
theorem info232 : (Tryz.prog.info? 232).map (fun i => (i.zero, i.size, i.bytes)) = some (some (.pointer none), 1, 8) := by kernel_rfl
theorem info119 : (Tryz.prog.info? 119).map (fun i => (i.zero, i.size, i.bytes)) = some (some .nilIface, 1, 16) := by kernel_rfl
theorem info305' : (Tryz.prog.info? 305).map (fun i => (i.zero, i.size, i.bytes)) = some (some .nilIface, 1, 16) := by kernel_rfl
theorem taTS (a : Addr) (w : World) : (Instr.typeAssert (.iface 232 (.pointer (some a))) 156 232 false).run Tryz.prog w = .ok (.pointer (some a)) w := by kernel_rfl
theorem taDc {U : TypeId} (hU : U ∈ dcTypes) (a : Addr) (w : World) : (Instr.typeAssert (.iface U (.pointer (some a))) 156 119 false).run Tryz.prog w = .ok (.iface U (.pointer (some a))) w := by
  unfold dcTypes at hU
  simp only [List.mem_cons, List.not_mem_nil, or_false] at hU
  rcases hU with rfl | rfl | rfl | rfl | rfl | rfl
  all_goals kernel_rfl
/-- Sets: none. -/
theorem rdse_any {k : DK} {g : DG} {w : World} {R : List Int} {ab : Nat} (h : DM k g w (0 :: R)) :
    Calls Tryz.prog 67 #[.pointer (some ⟨k.db, 0, none⟩), .pointer (some ⟨ab, 0, none⟩), .slice none 0 0] w fun e w' => e = .returned (.slice none 0 0) ∧ DM k g w' R := by
  have D := Lib.hid h
  clear h
  go_enter Tryz.func67, Tryz.ntmps67
  go_wp2_with (first | (go_at_call 92; refine (rdd_any D.out).mono ?_; rintro e w1 ⟨rfl, hd⟩; replace D := Lib.hid hd; clear hd))
  go_loopw [2, 9] (fun t2 t9 wr => t2 = .slice none 0 0 ∧ t9 = .int .i64 0 ∧ wr = w1) (fun _ _ _ => 0)
  case atStart => exact ⟨rfl, rfl, rfl⟩
  case round =>
    obtain ⟨rfl, rfl, rfl⟩ := hrel
    go_wp2_with fail
    go_ret
    exact ⟨rfl, D.out⟩
theorem made_row2 {k : DK} {g : DG} {w : World} {rest : List Int} (h : DM k g w rest) {N : Bd} {ab : Nat} {a : Array Value} {A : Nat → Nat} {vs : Value} {f : Nat → Array Value} (ga : GA N ab a g A vs f) {cell row : Nat} (hc9 : cell ≠ 9) (hr : row ≠ 0) {e : TypeId} {v : Value} (n : Nat) (hn : n ≤ 1000000) :
    ∃ g', DM k g' ((w.alloc (.cells (madeCells #[v] n) e)).setCell ⟨ab, cell, none⟩ (.slice (some ⟨w.heap.size, 0, none⟩) n n)) rest ∧ GA N ab (a.setIfInBounds cell (.slice (some ⟨w.heap.size, 0, none⟩) n n)) g' A vs f ∧ (∀ i, i ≠ row → g'.rw i = g.rw i) ∧ ∀ j, g'.bl (2 * j + 2) = g.bl (2 * j + 2) := by
  have h1 := h.made row (e := e) (sz := 1) (n := n) (c := n) (madeCells #[v] n) (by rw [size_madeCells, Nat.mul_one]) (Nat.le_refl _) (by simp [maxLen]; omega)
  have g1 : GA N ab a ((g.tag w.heap.size (.row row)).setR row ⟨e, 1, .slice (some ⟨w.heap.size, 0, none⟩) n n, n, (madeCells #[v] n).toList.take (n * 1)⟩) A vs f := ga.row rfl (by rw [DG.setR_rw, upO_ne _ _ (fun e => hr e.symm)]; rfl)
  refine ⟨_, h1.set g1.a1 cell (.slice (some ⟨w.heap.size, 0, none⟩) n n), g1.setA hc9 _, fun i hi => ?_, fun j => ?_⟩
  · rw [DG.setB_rw, DG.setR_rw, upO_ne _ _ hi]; rfl
  · rw [DG.setB_bl, upO_ne _ _ (by omega)]; rfl
def RdLa (N : Bd) (ab : Nat) (a : Array Value) (k : DK) (R : List Int) (A : Nat → Nat) (vs : Value) (f : Nat → Array Value) (cell row : Nat) (g0 : DG) (e : Ending) (w' : World) (p : DG → Array Value → Prop) : Prop := e = .returned (.tuple #[]) ∧ ∃ g a', DM k g w' R ∧ GA N ab a' g A vs f ∧ (∀ j, j ≠ cell → a'[j]? = a[j]?) ∧ (∀ i, i ≠ row → g.rw i = g0.rw i) ∧ p g a'
set_option maxRecDepth 100000 in
set_option maxHeartbeats 1000000 in
theorem rdla_any {N : Bd} {k : DK} {g : DG} {w : World} {R : List Int} {ab : Nat} {a : Array Value} {A : Nat → Nat} {vs : Value} {f : Nat → Array Value} (h : DM k g w (0 :: R)) (ga : GA N ab a g A vs f) (ha1 : a[1]? = some (.int .i64 0)) :
    Calls Tryz.prog 70 #[.pointer (some ⟨k.db, 0, none⟩), .pointer (some ⟨ab, 0, none⟩)] w fun e w' => RdLa N ab a k R A vs f 2 6 g e w' (fun g' _ => ∀ j, g'.bl (2 * j + 2) = g.bl (2 * j + 2)) := by
  have D := Lib.hid h
  have G := Lib.hid ga
  have hsz := ga.sz
  obtain ⟨i1, hi1, hx0, hx1, hx2⟩ := info_parts info305'
  have m1 : ∀ W, (Instr.makeSlice 110 (.int .i64 0) (.int .i64 0)).run Tryz.prog W = .ok (.slice (some ⟨W.heap.size, 0, none⟩) 0 0) (W.alloc (.cells (madeCells #[.nilIface] 0) 305)) := fun W => by
    have := mk_row (P := Tryz.prog) 110 305 i1 _ Tryz.underlying110 hi1 hx0 0 0 0 rfl (Nat.le_refl _) (by omega) (by omega) W
    rw [hx1] at this
    exact this
  obtain ⟨x2, h2⟩ : ∃ x, a[2]? = some x := ⟨a[2]'(by omega), by simp⟩
  have ca1 : w.cell? ⟨ab, 1, none⟩ = some (.int .i64 0) := ((h.bl 0 _ ga.a1).1.cell 1).trans ha1
  clear h ga
  go_enter Tryz.func70, Tryz.ntmps70
  go_upto_region 4 with (first | (go_at_call 92; refine (rdd_any D.out).mono ?_; rintro e w1 ⟨rfl, hd⟩; replace D := Lib.hid hd; clear hd; have b0 : Blk w1 ab 117 a := (D.out.bl 0 _ G.out.a1).1; have q2 : ∀ o, (w1.alloc o).cell? ⟨ab, 2, none⟩ = some x2 := (fun o => ((b0.alloc o).cell 2).trans h2); have q2f : ∀ o, (w1.alloc o).frozen? ⟨ab, 2, none⟩ = false := (fun o => (b0.alloc o).free 2); clear b0))
  obtain ⟨g2, hd2, hg2, hw2, hr2⟩ := made_row2 D.out G.out (cell := 2) (row := 6) (by omega) (by omega) (e := 305) (v := .nilIface) 0 (by omega)
  have HH := Lib.hid (show RdLa N ab a k R A vs f 2 6 g (.returned (.tuple #[])) ((w1.alloc (.cells (madeCells #[.nilIface] 0) 305)).setCell ⟨ab, 2, none⟩ (.slice (some ⟨w1.heap.size, 0, none⟩) 0 0)) (fun g' _ => ∀ j, g'.bl (2 * j + 2) = g.bl (2 * j + 2)) from ⟨rfl, g2, _, hd2, hg2, fun j hj => Array.getElem?_setIfInBounds_ne (fun e => hj e.symm), hw2, hr2⟩)
  clear hd2 hg2 hr2 hw2 D G m1 q2 q2f
  generalize (w1.alloc (.cells (madeCells #[.nilIface] 0) 305)).setCell ⟨ab, 2, none⟩ (.slice (some ⟨w1.heap.size, 0, none⟩) 0 0) = w2 at HH ⊢
  go_loopw [26] (fun t26 wr => t26 = .int .i64 0 ∧ wr = w2) (fun _ _ => 0)
  case atStart => exact ⟨rfl, rfl⟩
  case round =>
    obtain ⟨rfl, rfl⟩ := hrel
    go_wp2_with fail
    go_end0
    exact HH.out
def LpMo (N : Bd) (ab : Nat) (a : Array Value) (k : DK) (R : List Int) (A : Nat → Nat) (vs : Value) (f : Nat → Array Value) (g0 : DG) (t : Value) (w : World) : Prop :=
  ∃ b : Nat, ∃ g, b ≤ 1 ∧ t = .int .i64 b ∧ DM k g w (if b = 0 then 0 :: R else R) ∧ GA N ab a g A vs f ∧ RowIs g a 5 5 232 1 (fun x => b = 1 → x[0]? = some (.pointer (some ⟨A 0, 0, none⟩))) ∧ ∀ i, i ≠ 5 → g.rw i = g0.rw i
set_option maxRecDepth 100000 in
set_option maxHeartbeats 1000000 in
theorem rdmo_any {N : Bd} {k : DK} {g : DG} {w : World} {R : List Int} {ab : Nat} {a : Array Value} {A : Nat → Nat} {vs : Value} {f : Nat → Array Value} (h : DM k g w (1 :: 0 :: R)) (ga : GA N ab a g A vs f) (hM : 0 < N.st.length) (hk0 : N.kind 0 = 6) :
    Calls Tryz.prog 66 #[.pointer (some ⟨k.db, 0, none⟩), .pointer (some ⟨ab, 0, none⟩)] w fun e w' => RdLa N ab a k R A vs f 5 5 g e w' (fun g' a' => RowIs g' a' 5 5 232 1 (fun x => x[0]? = some (.pointer (some ⟨A 0, 0, none⟩)))) := by
  have D := Lib.hid h
  have G := Lib.hid ga
  have hsz := ga.sz
  obtain ⟨i1, hi1, hx0, hx1, hx2⟩ := info_parts info232
  have m1 : ∀ W, (Instr.makeSlice 112 (.int .i64 1) (.int .i64 1)).run Tryz.prog W = .ok (.slice (some ⟨W.heap.size, 0, none⟩) 1 1) (W.alloc (.cells (madeCells #[.pointer none] 1) 232)) := fun W => by
    have := mk_row (P := Tryz.prog) 112 232 i1 _ Tryz.underlying112 hi1 hx0 1 1 1 rfl (Nat.le_refl _) (by rw [hx2]; omega) (by omega) W
    rw [hx1] at this
    exact this
  obtain ⟨x5, h5⟩ : ∃ x, a[5]? = some x := ⟨a[5]'(by omega), by simp⟩
  clear h ga
  go_enter Tryz.func66, Tryz.ntmps66
  go_upto_region 3 with (first | (go_at_call 92; refine (rdd_any D.out).mono ?_; rintro e w1 ⟨rfl, hd⟩; replace D := Lib.hid hd; clear hd; have b0 : Blk w1 ab 117 a := (D.out.bl 0 _ G.out.a1).1; have q2 : ∀ o, (w1.alloc o).cell? ⟨ab, 5, none⟩ = some x5 := (fun o => ((b0.alloc o).cell 5).trans h5); have q2f : ∀ o, (w1.alloc o).frozen? ⟨ab, 5, none⟩ = false := (fun o => (b0.alloc o).free 5); clear b0))
  obtain ⟨g2, hd2, hg2, hr2, hw2⟩ := made_row D.out G.out (cell := 5) (row := 5) (by omega) (by omega) (by omega) (e := 232) (v := .pointer none) 1 (by omega)
  have HL0 := Lib.hid (show LpMo N ab (a.setIfInBounds 5 (.slice (some ⟨w1.heap.size, 0, none⟩) 1 1)) k R A vs f g (.int .i64 0) ((w1.alloc (.cells (madeCells #[.pointer none] 1) 232)).setCell ⟨ab, 5, none⟩ (.slice (some ⟨w1.heap.size, 0, none⟩) 1 1)) from
    ⟨0, g2, by omega, rfl, hd2, hg2, hr2.of rfl rfl (fun _ _ h => by omega), hw2⟩)
  have ho : ∀ j, j ≠ 5 → (a.setIfInBounds 5 (.slice (some ⟨w1.heap.size, 0, none⟩) 1 1))[j]? = a[j]? := fun j hj => Array.getElem?_setIfInBounds_ne (fun e => hj e.symm)
  clear hd2 hg2 hr2 hw2 D G m1 q2 q2f
  generalize (w1.alloc (.cells (madeCells #[.pointer none] 1) 232)).setCell ⟨ab, 5, none⟩ (.slice (some ⟨w1.heap.size, 0, none⟩) 1 1) = w2 at HL0 ⊢
  generalize a.setIfInBounds 5 (.slice (some ⟨w1.heap.size, 0, none⟩) 1 1) = a2 at *
  have HO := Lib.hid ho
  clear ho
  go_loopw [19] (fun t19 wr => LpMo N ab a2 k R A vs f g t19 wr) (fun t19 _ => 1 - (intOf t19).toNat)
  case atStart => exact HL0.out
  case round =>
    clear HL0
    obtain ⟨b, gi, hb, rfl, hd, hg, hr, hw⟩ := hrel
    by_cases h0 : b = 0
    · subst h0
      rw [if_pos rfl] at hd
      have D := Lib.hid hd
      have G := Lib.hid hg
      have HW := Lib.hid hw
      obtain ⟨q5, c5, x5', h55, h5r, _⟩ := hr
      have o5 : wr.ownsRow k.base 232 1 (.slice (some ⟨q5, 0, none⟩) 1 c5) 1 x5' := (hd.rw 5 _ h5r).1
      have hc5 : (1 : Int) ≤ (c5 : Int) := by have := own_cap o5; omega
      have l5 : x5'.length = 1 := by have := o5.1; omega
      have o0 := (hd.rw 0 _ hg.a2).1
      simp only at o0
      obtain ⟨q0, c0, hq0, _⟩ := own_form o0 (by omega)
      subst hq0
      have hc0 : (N.st.length : Int) ≤ (c0 : Int) := by have := own_cap o0; omega
      have hMi : (0 : Int) < (N.st.length : Int) := by omega
      have d1 := fun a w => taTS a w
      have H5r := Lib.hid h5r
      clear hd hg hw o5 o0 h5r
      go_upto_region 6 with (first | (go_at_call 92; refine (rdd_any D.out).mono ?_; rintro e wn ⟨rfl, hd⟩; replace D := Lib.hid hd; clear hd))
      have ba : Blk wn ab 117 a2 := (D.out.bl 0 _ G.out.a1).1
      have c9 : wn.cell? ⟨ab, 9, none⟩ = some (.slice (some ⟨q0, 0, none⟩) N.st.length c0) := (ba.cell 9).trans G.out.a9
      have cc5 : wn.cell? ⟨ab, 5, none⟩ = some (.slice (some ⟨q5, 0, none⟩) 1 c5) := (ba.cell 5).trans h55
      have cs : wn.cell? ⟨q0, 0, none⟩ = some (.iface 232 (.pointer (some ⟨A 0, 0, none⟩))) := own_cell (D.out.rw 0 _ G.out.a2).1 _ _ (by simp [hM, ifA, hk0]; rfl)
      have o5 : wn.ownsRow k.base 232 1 (.slice (some ⟨q5, 0, none⟩) 1 c5) 1 x5' := (D.out.rw 5 _ H5r.out).1
      obtain ⟨u5, hu5⟩ : ∃ u, x5'[0]? = some u := ⟨x5'[0]'(by omega), by simp⟩
      have t5 : wn.cell? ⟨q5, 0, none⟩ = some u5 := own_cell o5 _ _ hu5
      have t5f : wn.frozen? ⟨q5, 0, none⟩ = false := own_free o5 (by omega)
      have hD2 := (D.out.rset H5r.out (q := q5) (cap := c5) rfl (j := 0) (show 0 < 1 * 1 by decide) (.pointer (some ⟨A 0, 0, none⟩))).drew
      have HH := Lib.hid (show LpMo N ab a2 k R A (.slice (some ⟨q0, 0, none⟩) N.st.length c0) f g (.int .i64 1) ((wn.setCell ⟨q5, 0, none⟩ (.pointer (some ⟨A 0, 0, none⟩))).drew) from
        ⟨1, _, Nat.le_refl _, rfl, hD2, G.out.row rfl (by rw [DG.setR_rw, upO_ne _ _ (by omega)]), ⟨q5, c5, _, h55, by rw [DG.setR_rw, upO_self], fun _ => by rw [List.getElem?_set_self (by rw [l5]; decide)]⟩, fun i hi => by rw [DG.setR_rw, upO_ne _ _ hi]; exact HW.out i hi⟩)
      clear hD2 D ba o5 G HW
      go_still_tail 14, (by kernel_rfl)
      change wpList _ _ _ _ _ wn.drew
      go_wp2_with fail
      exact ⟨HH.out, by simp [intOf]⟩
    · obtain rfl : b = 1 := by omega
      rw [if_neg h0] at hd
      have HH := Lib.hid (show RdLa N ab a k R A vs f 5 5 g (.returned (.tuple #[])) wr (fun g' a' => RowIs g' a' 5 5 232 1 (fun x => x[0]? = some (.pointer (some ⟨A 0, 0, none⟩)))) from
        ⟨rfl, gi, a2, hd, hg, HO.out, hw, hr.of rfl rfl (fun _ h => h rfl)⟩)
      clear hd hg hr hw
      go_wp2_with fail
      go_end0
      exact HH.out
def D7 (N : Bd) (f : Nat → Array Value) : Prop := ∀ s, s < N.st.length → kTy (N.kind s) ∈ dcTypes → ∃ d : Nat, (f s)[7]? = some (.int .i64 d)
structure DeI (N : Bd) (ab : Nat) (a0 : Array Value) (A : Nat → Nat) (vs : Value) (f0 : Nat → Array Value) (g0 : DG) (L : List Nat) (g : DG) (a : Array Value) (f : Nat → Array Value) (v : Value) : Prop where
  ga : GA N ab a g A vs f
  cs : Cs N A f
  d7 : D7 N f
  a0' : a[0]? = some v
  r1 : g.rw 1 = some ⟨119, 1, v, L.length, L.map (ifA N A)⟩
  ao : ∀ j, j ≠ 0 → a[j]? = a0[j]?
  ro : ∀ i, i ≠ 1 → g.rw i = g0.rw i
  fo : ∀ s c, ¬ (kTy (N.kind s) ∈ dcTypes ∧ c = 7) → (f s)[c]? = (f0 s)[c]?
  bo : ∀ j, g.bl (2 * j + 2) = g0.bl (2 * j + 2)
def LpDe (N : Bd) (ab : Nat) (a0 : Array Value) (k : DK) (R : List Int) (A : Nat → Nat) (vs : Value) (f0 : Nat → Array Value) (g0 : DG) (de : List Nat) (t : Value) (w : World) : Prop := ∃ i g a f v, t = .int .i64 (i : Nat) ∧ i ≤ de.length ∧ DM k g w (serN (de.drop i) ++ R) ∧ DeI N ab a0 A vs f0 g0 (de.take i) g a f v
def RdDe (N : Bd) (ab : Nat) (a : Array Value) (k : DK) (R : List Int) (A : Nat → Nat) (vs : Value) (f : Nat → Array Value) (g : DG) (de : List Nat) (e : Ending) (w' : World) : Prop := e = .returned (.tuple #[]) ∧ ∃ g' a' f' v, DM k g' w' R ∧ DeI N ab a A vs f g de g' a' f' v
theorem dc_kd {k : Nat} (h : kTy k ∈ dcTypes) : k ≠ 12 ∧ k ≠ 2 ∧ k ≠ 8 ∧ k ≠ 7 ∧ k ≠ 1 ∧ k ≠ 9 := by
  refine ⟨?_, ?_, ?_, ?_, ?_, ?_⟩ <;> · rintro rfl; revert h; decide
theorem dc_sz {k : Nat} (h : kTy k ∈ dcTypes) (h1 : 1 ≤ k) (h2 : k ≤ 12) : 9 ≤ nC k := by
  revert h
  exact kd_cases (P := fun k => kTy k ∈ dcTypes → 9 ≤ nC k) h1 h2 (by refine ⟨?_, ?_, ?_, ?_, ?_, ?_, ?_, ?_, ?_, ?_, ?_, ?_⟩ <;> decide)
set_option maxRecDepth 100000 in
set_option maxHeartbeats 1000000 in
theorem rdde_any {N : Bd} (ko : KOk N) {k : DK} {g : DG} {w : World} {R : List Int} {ab : Nat} {a : Array Value} {A : Nat → Nat} {vs : Value} {f : Nat → Array Value} {de : List Nat} (h : DM k g w ((de.length : Int) :: (serN de ++ R))) (ga : GA N ab a g A vs f) (cs : Cs N A f) (d7 : D7 N f) (ha0 : a[0]? = some (.slice none 0 0)) (hde : ∀ s ∈ de, s < N.st.length ∧ kTy (N.kind s) ∈ dcTypes) (hfew : de.length ≤ 1000) :
    Calls Tryz.prog 69 #[.pointer (some ⟨k.db, 0, none⟩), .pointer (some ⟨ab, 0, none⟩)] w fun e w' => RdDe N ab a k R A vs f g de e w' := by
  have D := Lib.hid h
  have KO := Lib.hid ko
  have HDE := Lib.hid hde
  have I0 := Lib.hid (show DeI N ab a A vs f g (de.take 0) (g.setR 1 ⟨119, 1, .slice none 0 0, 0, []⟩) a f (.slice none 0 0) from
    ⟨ga.row rfl (by rw [DG.setR_rw, upO_ne _ _ (by omega)]), cs, d7, ha0, by rw [DG.setR_rw, upO_self]; simp, fun _ _ => rfl, fun i hi => by rw [DG.setR_rw, upO_ne _ _ hi], fun _ _ _ => rfl, fun _ => rfl⟩)
  clear h ko hde ga cs d7 ha0
  go_enter Tryz.func69, Tryz.ntmps69
  go_upto_region 2 with (first | (go_at_call 92; refine (rdd_any D.out).mono ?_; rintro e w1 ⟨rfl, hd⟩; replace D := Lib.hid hd; clear hd))
  go_loopw [5] (fun t5 wr => LpDe N ab a k R A vs f g de t5 wr) (fun t5 _ => de.length - (intOf t5).toNat)
  case atStart => exact ⟨0, _, a, f, _, rfl, Nat.zero_le _, D.out.nilR 1 119 1, I0.out⟩
  case round =>
    clear D I0
    obtain ⟨i, gi, ai, fi, v, rfl, hi, hd, hI⟩ := hrel
    obtain ⟨L, hLe⟩ : ∃ L, L = de.take i := ⟨_, rfl⟩
    have hl : L.length = i := by rw [hLe]; simp; omega
    rw [← hLe] at hI
    subst hl
    have HLe := Lib.hid hLe
    clear hLe
    by_cases hil : L.length < de.length
    · have hil' : (L.length : Int) < (de.length : Int) := by omega
      obtain ⟨s, hs⟩ : ∃ s, de[L.length]? = some s := ⟨de[L.length]'hil, by simp⟩
      obtain ⟨hsM, hsT⟩ := HDE.out s (List.mem_of_getElem? hs)
      have hsMi : (s : Int) < (N.st.length : Int) := by omega
      have ed : serN (de.drop L.length) = (s : Int) :: serN (de.drop (L.length + 1)) := by
        obtain ⟨hl, rfl⟩ := List.getElem?_eq_some_iff.1 hs
        rw [List.drop_eq_getElem_cons hl]; rfl
      rw [ed] at hd
      have D : Hid (DM k gi wr ((s : Int) :: (serN (de.drop (L.length + 1)) ++ R))) := Lib.hid hd
      have HI := Lib.hid hI
      have o0 := (hd.rw 0 _ hI.ga.a2).1
      simp only at o0
      obtain ⟨q0, c0, hq0, _⟩ := own_form o0 (by omega)
      subst hq0
      obtain ⟨va, vc, rfl⟩ : ∃ a c, v = .slice a L.length c := own_slice (hd.rw 1 _ hI.r1).1
      have hc0 : (N.st.length : Int) ≤ (c0 : Int) := by have := own_cap o0; omega
      have d1 := fun a w => taDc hsT a w
      have d2 := fun a w => dSetDec hsT a w
      obtain ⟨i2, hi2, hy0, hy1, hy2⟩ := info_parts info119
      clear hd hI o0
      go_upto_region 5 with (first | (go_at_call 92; refine (rdd_any D.out).mono ?_; rintro e wn ⟨rfl, hd⟩; replace D := Lib.hid hd; clear hd))
      have ba : Blk wn ab 117 ai := (D.out.bl 0 _ HI.out.ga.a1).1
      have c9 : wn.cell? ⟨ab, 9, none⟩ = some (.slice (some ⟨q0, 0, none⟩) N.st.length c0) := (ba.cell 9).trans HI.out.ga.a9
      have cc0 : wn.cell? ⟨ab, 0, none⟩ = some (.slice va L.length vc) := (ba.cell 0).trans HI.out.a0'
      have cs : wn.cell? ⟨q0, s, none⟩ = some (ifA N A s) := own_cell (D.out.rw 0 _ HI.out.ga.a2).1 _ _ (by simp [hsM])
      unfold ifA at cs
      clear ba
      have hcell : (fi s)[7]? ≠ none := by
        obtain ⟨d, h⟩ := HI.out.d7 s hsM hsT
        rw [h]; simp
      generalize hTT : kTy (N.kind s) = T at *
      go_upto_region 7 with (first | (at_builtin; refine wpList_append_lies _ rfl _ _ 109 rfl k.base 119 i2 _ 1 16 Tryz.underlying109 hi2 hy0 hy1 hy2 rfl (by omega) (.slice va L.length vc) L.length (L.map (ifA N A)) rfl ((D.out.rw 1 _ HI.out.r1).1.alloc _) ⟨wn.heap.size, 0, none⟩ 1 1 [.iface T (.pointer (some ⟨A s, 0, none⟩))] rfl rfl (World.news_of_block (cs := #[.iface T (.pointer (some ⟨A s, 0, none⟩))]) (t := 119) (fr := (0, 0)) (heap_alloc_new wn _)) (by simp [Value.oneCell']) (by omega) (by simp [maxLen]; omega) (by omega) (by simp; exact Nat.le_succ_of_le D.out.bs) (wn.heap.size + 1) (by simp) ?_; intro gg cap w3 hown hgrow hat hlt; have k3 : Kp (fun q => some q ≠ (Value.slice va L.length vc).ownBlock) wn w3 := (Kp.alloc _ _).trans (Kp.grown hgrow (fun q hq => hq)); have hp := D.out.putR (i := 1) hown k3 (D.out.rw 1 _ HI.out.r1).2 (hat.imp id (fun e => by omega)); obtain ⟨g3, hd3, hb3, hr3⟩ : ∃ g3, DM k g3 w3 (serN (de.drop (L.length + 1)) ++ R) ∧ g3.bl = gi.bl ∧ g3.rw = upO gi.rw 1 ⟨119, 1, .slice (some ⟨gg, 0, none⟩) (L.length + 1) cap, L.length + 1, L.map (ifA N A) ++ [.iface T (.pointer (some ⟨A s, 0, none⟩))]⟩ := ⟨_, hp, rfl, rfl⟩; replace D := Lib.hid hd3; have B3 := Lib.hid hb3; have R3 := Lib.hid hr3; clear hp hown hgrow hat hlt k3 hd3 hb3 hr3 c9 cs cc0; have ba : Blk w3 ab 117 ai := (D.out.bl 0 _ (by rw [B3.out]; exact HI.out.ga.a1)).1; have cc0 : w3.cell? ⟨ab, 0, none⟩ = some (.slice va L.length vc) := (ba.cell 0).trans HI.out.a0'; have cc0f : w3.frozen? ⟨ab, 0, none⟩ = false := ba.free 0; clear ba))
      have G3 : GA N ab ai g3 A (.slice (some ⟨q0, 0, none⟩) N.st.length c0) fi := HI.out.ga.row B3.out (by rw [R3.out, upO_ne _ _ (by omega)])
      have G4 := G3.setA (j := 0) (by omega) (.slice (some ⟨gg, 0, none⟩) (L.length + 1) cap)
      have D4 := D.out.set G3.a1 0 (.slice (some ⟨gg, 0, none⟩) (L.length + 1) cap)
      obtain ⟨g4, hD4, hG4, hr4, hb4⟩ : ∃ g4, DM k g4 (w3.setCell ⟨ab, 0, none⟩ (.slice (some ⟨gg, 0, none⟩) (L.length + 1) cap)) (serN (de.drop (L.length + 1)) ++ R) ∧ GA N ab (ai.setIfInBounds 0 (.slice (some ⟨gg, 0, none⟩) (L.length + 1) cap)) g4 A (.slice (some ⟨q0, 0, none⟩) N.st.length c0) fi ∧ g4.rw = g3.rw ∧ ∀ j, g4.bl (2 * j + 2) = g3.bl (2 * j + 2) := ⟨_, D4, G4, rfl, fun j => by rw [DG.setB_bl, upO_ne _ _ (by omega)]⟩
      have E := Lib.hid hD4
      have G := Lib.hid hG4
      have R4 := Lib.hid hr4
      have HB4 := Lib.hid hb4
      have ksT : kTy (N.kind s) ∈ dcTypes := by rw [hTT]; exact hsT
      have nk := dc_kd ksT
      clear D4 hD4 hG4 hr4 hb4 D cc0 cc0f G3 G4
      generalize w3.setCell ⟨ab, 0, none⟩ (.slice (some ⟨gg, 0, none⟩) (L.length + 1) cap) = w4 at E ⊢
      have b7 : Blk w4 (A s) (bTy (N.kind s)) (fi s) := (E.out.bl _ _ (G.out.st s hsM)).1
      have z7 : (w4.cell? ⟨A s, 7, none⟩).isSome = true := by rw [b7.cell 7]; exact Option.isSome_iff_ne_none.2 hcell
      have z7f : w4.frozen? ⟨A s, 7, none⟩ = false := b7.free 7
      have hz9 : 7 < (fi s).size := by
        have := HI.out.cs.sz s hsM
        have h9 := dc_sz ksT (KO.out.kd s hsM).1 (KO.out.kd s hsM).2
        omega
      have hD5 := E.out.set (G.out.st s hsM) 7 (.int .i64 (L.length : Nat))
      have hG5 := G.out.set (s := s) 7 (.int .i64 (L.length : Nat))
      have hL1 : L ++ [s] = de.take (L.length + 1) := by rw [List.take_add_one, hs, ← HLe.out]; rfl
      have hI5 : DeI N ab a A (.slice (some ⟨q0, 0, none⟩) N.st.length c0) f g (de.take (L.length + 1)) (g4.setB (2 * s + 1) ⟨A s, bTy (N.kind s), (fi s).setIfInBounds 7 (.int .i64 (L.length : Nat))⟩) (ai.setIfInBounds 0 (.slice (some ⟨gg, 0, none⟩) (L.length + 1) cap)) (upF fi s ((fi s).setIfInBounds 7 (.int .i64 (L.length : Nat)))) (.slice (some ⟨gg, 0, none⟩) (L.length + 1) cap) := by
        rw [← hL1]
        refine ⟨hG5, HI.out.cs.set _ (.inr (.inr (.inl ⟨rfl, nk.1⟩))), fun q hq hk => ?_, ?_, ?_, fun j hj => ?_, fun j hj => ?_, fun q c hqc => ?_, fun j => ?_⟩
        · by_cases e : q = s
          · subst e; exact ⟨L.length, by rw [upF_self, Array.getElem?_setIfInBounds_self_of_lt hz9]⟩
          · rw [upF_ne _ _ e]; exact HI.out.d7 q hq hk
        · rw [Array.getElem?_setIfInBounds_self_of_lt (by rw [HI.out.ga.sz]; omega)]
        · rw [DG.setB_rw, R4.out, R3.out, upO_self]
          simp [ifA, hTT]
        · rw [Array.getElem?_setIfInBounds_ne (fun e => hj e.symm)]; exact HI.out.ao j hj
        · rw [DG.setB_rw, R4.out, R3.out, upO_ne _ _ hj]; exact HI.out.ro j hj
        · rw [upF_at _ _ _ _ _ _ (by rintro ⟨rfl, rfl⟩; exact hqc ⟨ksT, rfl⟩)]
          exact HI.out.fo q c hqc
        · rw [DG.setB_bl, upO_ne _ _ (by omega), HB4.out, B3.out]; exact HI.out.bo j
      have D5 := Lib.hid hD5
      have I5 := Lib.hid hI5
      clear hD5 hG5 hI5 b7 E G HI
      go_wp2_with (first | (go_at_call 287; refine (sDec _ _ _ z7 z7f).mono ?_; rintro e w6 ⟨rfl, hw⟩; replace D5 := Lib.hid (show DM k _ w6 (serN (de.drop (L.length + 1)) ++ R) from hw ▸ D5.out); clear hw z7 z7f))
      exact ⟨⟨L.length + 1, _, _, _, _, by simp, by omega, D5.out, I5.out⟩, by simp [intOf]; omega⟩
    · have hil' : ¬ (L.length : Int) < (de.length : Int) := by omega
      have hle : L.length = de.length := by omega
      have hLd : L = de := by rw [HLe.out, hle, List.take_length]
      subst hLd
      have D := Lib.hid (show DM k gi wr R by simpa [serN] using hd)
      have HI := Lib.hid hI
      clear hd hI hil hle
      go_wp2_with fail
      go_end0
      exact ⟨rfl, gi, ai, fi, v, D.out, HI.out⟩
end Go.Proofs
end
section
namespace Go.Proofs
open Go.RowKit
open Pl
/-! ## edges are made -/
theorem info348 : (Tryz.prog.info? 348).map (fun i => (i.zero, i.size, i.bytes)) = some (some (.agg #[.int .i64 0, .int .i64 0]), 2, 16) := by kernel_rfl
set_option maxRecDepth 100000 in
set_option maxHeartbeats 1000000 in
theorem addI_any {w : World} {ib : Nat} (h : Blk w ib 345 #[.slice none 0 0, .bool false]) (a b : Int) :
    Calls Tryz.prog 140 #[.pointer (some ⟨ib, 0, none⟩), .agg #[.int .i64 a, .int .i64 b]] w fun e w' => e = .returned (.tuple #[]) ∧ Kp (fun j => j ≠ ib) w w' := by
  obtain ⟨i5, hi5, hy0, hy1, hy2⟩ := info_parts info348
  have lb := h.lt
  have H := Lib.hid h
  have c0 : (w.alloc (.cells #[.int .i64 a, .int .i64 b] 348)).cell? ⟨ib, 0, none⟩ = some (.slice none 0 0) := (h.alloc _).cell 0
  have c1 : ∀ o, ((w.alloc (.cells #[.int .i64 a, .int .i64 b] 348)).alloc o).cell? ⟨ib, 0, none⟩ = some (.slice none 0 0) := fun o => ((h.alloc _).alloc _).cell 0
  have c1f : ∀ o, ((w.alloc (.cells #[.int .i64 a, .int .i64 b] 348)).alloc o).frozen? ⟨ib, 0, none⟩ = false := fun o => ((h.alloc _).alloc _).free 0
  have m1 : ∀ W, (Instr.makeSlice 343 (.int .i64 0) (.int .i64 0)).run Tryz.prog W = .ok (.slice (some ⟨W.heap.size, 0, none⟩) 0 0) (W.alloc (.cells #[] 348)) := fun W => by
    have := run_make (P := Tryz.prog) W 343 348 i5 _ Tryz.underlying343 hi5 hy0 .i64 .i64 0 0 (by omega) (by omega) (by rw [hy2]; omega) (by omega)
    rw [hy1] at this
    exact this.trans (by rw [show madeCells (Value.agg #[.int .i64 0, .int .i64 0]).cells (Int.toNat 0 * 2) = #[] from by unfold madeCells; rw [show Int.toNat 0 * 2 = 0 from rfl, show Array.range 0 = #[] from rfl, Array.map_empty]]; rfl)
  have e1 : ∀ W, (binOp BinOp.eql 343 (.slice none 0 0) (.slice none 0 0)).run Tryz.prog W = .ok (.bool true) W := fun W => by kernel_rfl
  clear h
  go_enter Tryz.func140, Tryz.ntmps140
  go_upto_region 3 with fail
  obtain ⟨bx, hbx⟩ : ∃ bx, bx = w.heap.size := ⟨_, rfl⟩
  obtain ⟨w3, hw3⟩ : ∃ w3, w3 = ((w.setCell ⟨ib, 0, none⟩ (.slice (some ⟨w.heap.size + 1, 0, none⟩) 0 0)).alloc (.cells #[.int .i64 a, .int .i64 b] 348)).alloc (.cells #[] 348) := ⟨_, rfl⟩
  have HS := H.out.set 0 (.slice (some ⟨w.heap.size + 1, 0, none⟩) 0 0) _ rfl
  have k3 : Kp (fun j => j ≠ ib) w w3 := by rw [hw3]; exact ((Kp.setCell _ _ _ (fun h => h rfl)).trans (Kp.alloc _ _)).trans (Kp.alloc _ _)
  have x0 : w3.cell? ⟨ib, 0, none⟩ = some (.slice (some ⟨bx + 1, 0, none⟩) 0 0) := by rw [hw3, hbx]; exact ((HS.alloc _).alloc _).cell 0
  have x0f : w3.frozen? ⟨ib, 0, none⟩ = false := by rw [hw3]; exact ((HS.alloc _).alloc _).free 0
  have bb : Blk w3 bx 348 #[.int .i64 a, .int .i64 b] := by
    rw [hw3, hbx]
    have := (Blk.new (w.setCell ⟨ib, 0, none⟩ (.slice (some ⟨w.heap.size + 1, 0, none⟩) 0 0)) 348 #[.int .i64 a, .int .i64 b]).alloc (.cells #[] 348)
    simpa using this
  have b0 : w3.cell? ⟨bx, 0, none⟩ = some (.int .i64 a) := bb.cell 0
  have b1 : w3.cell? ⟨bx, 1, none⟩ = some (.int .i64 b) := bb.cell 1
  have own : w3.ownsRow (bx + 1) 348 2 (.slice (some ⟨bx + 1, 0, none⟩) 0 0) 0 [] := by
    refine ⟨by simp, .inr ⟨bx + 1, 0, #[], rfl, Nat.le_refl _, ?_, Nat.le_refl _, by simp [maxLen], by simp, by simp⟩⟩
    rw [hw3, hbx]
    have := heap_alloc_new ((w.setCell ⟨ib, 0, none⟩ (.slice (some ⟨w.heap.size + 1, 0, none⟩) 0 0)).alloc (.cells #[.int .i64 a, .int .i64 b] 348)) (.cells #[] 348)
    simpa using this
  have hs3 : w3.heap.size = bx + 2 := by rw [hw3, hbx]; simp
  have OW := Lib.hid own
  have K3 := Lib.hid k3
  have BX := Lib.hid (show Blk w3 ib 345 #[.slice (some ⟨bx + 1, 0, none⟩) 0 0, .bool false] from by rw [hw3, hbx]; exact (HS.alloc _).alloc _)
  have lb2 : ib < bx := by omega
  have x0a : ∀ o, (w3.alloc o).cell? ⟨ib, 0, none⟩ = some (.slice (some ⟨bx + 1, 0, none⟩) 0 0) := fun o => ((World.cell?_of_block (Below.heap_alloc w3 o ib (by omega)))).trans x0
  have HBX := Lib.hid hbx
  simp only [← hbx] at hw3 lb ⊢
  rw [← hw3]
  clear hw3 c0 c1 c1f m1 H HS own bb k3 hbx e1 lb
  have HS3 := Lib.hid hs3
  clear hs3
  go_region_law (first | (refine step_append_lies _ (by rfl) _ _ _ (by rfl) (bx + 1) 348 i5 _ 2 16 Tryz.underlying343 hi5 hy0 hy1 hy2 rfl (by omega) (.slice (some ⟨bx + 1, 0, none⟩) 0 0) 0 [] (by rfl) (by first | exact (OW.out.alloc _).drew | exact (OW.out.drew).alloc _) ⟨w3.heap.size, 0, none⟩ 1 1 [.int .i64 a, .int .i64 b] (by rfl) (by rfl) (World.news_of_block (cs := #[.int .i64 a, .int .i64 b]) (t := 348) (fr := (0, 0)) (heap_alloc_new w3 _)) (by simp [Value.oneCell']) (by omega) (by simp [maxLen]) (by omega) (by have := HS3.out; simp; omega) (w3.heap.size + 1) (by simp) ?_; intro gg cap w4 hown1 hgrow hat hlt; have k1 : Kp (fun k => some k ≠ some (bx + 1)) w3 w4 := (by first | exact ((Kp.drew _).trans (Kp.alloc _ _)).trans (Kp.grown hgrow (fun k hk => hk)) | exact ((Kp.alloc _ _).trans (Kp.drew _)).trans (Kp.grown hgrow (fun k hk => hk))); have B1 := BX.out.kept (k1.blk ib BX.out.lt (fun e => by simp at e; omega)); have c01 : w4.cell? ⟨ib, 0, none⟩ = some (.slice (some ⟨bx + 1, 0, none⟩) 0 0) := B1.cell 0; have f01 : w4.frozen? ⟨ib, 0, none⟩ = false := B1.free 0; have K4 : Hid (Kp (fun j => j ≠ ib) w w4) := Lib.hid ⟨SO.trans (K3.out.so) (k1.so), Nat.le_trans K3.out.size k1.size, fun j hj hne => (k1.blk j (Nat.lt_of_lt_of_le hj K3.out.size) (fun e => by simp at e; have := HBX.out; omega)).trans (K3.out.blk j hj hne)⟩; clear hown1 hgrow hat hlt k1 B1))
  all_goals
    have FIN : Hid (Kp (fun j => j ≠ ib) w (w4.setCell ⟨ib, 0, none⟩ (.slice (some ⟨gg, 0, none⟩) (0 + 1) cap))) := Lib.hid (K4.out.trans (Kp.setCell _ _ _ (fun h => h rfl)))
    simp only [Nat.zero_add] at FIN
    generalize w4.setCell ⟨ib, 0, none⟩ (.slice (some ⟨gg, 0, none⟩) 1 cap) = w5 at FIN ⊢
    go_end0
    exact ⟨rfl, FIN.out⟩
theorem newI_any (a b : Int) (w : World) : Calls Tryz.prog 141 #[.int .i64 a, .int .i64 b] w fun e w' => e = .returned (.agg #[.int .i64 a, .int .i64 b]) ∧ Kp (fun _ => True) w w' := by
  have b0 := (Blk.new w 348 #[.int .i64 a, .int .i64 b]).cell
  go_enter Tryz.func141, Tryz.ntmps141
  go_wp2_with fail
  refine bodyPost_ret (v := .agg #[.int .i64 a, .int .i64 b]) ?_ rfl ⟨rfl, Kp.alloc _ _⟩
  simp [results, Tryz.results141, go_sem, b0]
theorem newS_any (w : World) : Calls Tryz.prog 97 #[] w fun e w' => ∃ ib : Nat, e = .returned (.pointer (some ⟨ib, 0, none⟩)) ∧ w.heap.size ≤ ib ∧ Blk w' ib 345 #[.slice none 0 0, .bool false] ∧ Kp (fun _ => True) w w' := by
  go_enter Tryz.func97, Tryz.ntmps97
  go_wp2_with fail
  go_ret
  exact ⟨_, rfl, Nat.le_refl _, Blk.new _ _ _, Kp.alloc _ _⟩
theorem newEp_any (T : TypeId) (a : Addr) (o : Int) (w : World) : Calls Tryz.prog 102 #[.iface T (.pointer (some a)), .int .i64 o] w fun e w' => e = .returned (.pointer (some ⟨w.heap.size, 0, none⟩)) ∧ w' = w.alloc (.cells #[.iface T (.pointer (some a)), .bool true, .int .i64 0, .pointer none, .int .i64 1, .int .i64 o] 369) := by
  go_enter Tryz.func102, Tryz.ntmps102
  go_wp2_with fail
  go_ret
  exact ⟨rfl, rfl⟩
theorem Kp.tt {w w1 w2 : World} {b : Nat} (h : Kp (fun _ => True) w w1) (hb : w.heap.size ≤ b) (k : Kp (fun j => j ≠ b) w1 w2) : Kp (fun _ => True) w w2 :=
  ⟨SO.trans (h.so) (k.so), Nat.le_trans h.size k.size, fun j hj _ => (k.blk j (Nat.lt_of_lt_of_le hj h.size) (by omega)).trans (h.blk j hj trivial)⟩
set_option maxHeartbeats 1000000 in
theorem addO_any {w : World} {ib : Nat} (h : Blk w ib 345 #[.slice none 0 0, .bool false]) (a : Int) :
    Calls Tryz.prog 98 #[.pointer (some ⟨ib, 0, none⟩), .int .i64 a] w fun e w' => e = .returned (.tuple #[]) ∧ Kp (fun j => j ≠ ib) w w' := by
  have H := Lib.hid h
  clear h
  go_enter Tryz.func98, Tryz.ntmps98
  go_wp2_with (first | (go_at_call 141; refine (newI_any _ _ _).mono ?_; rintro e w1 ⟨rfl, k1⟩; have K1 := Lib.hid k1; clear k1) | (go_at_call 140; refine (addI_any (H.out.kept (K1.out.blk _ H.out.lt trivial)) _ _).mono ?_; rintro e w2 ⟨rfl, k2⟩; have K2 := Lib.hid k2; clear k2))
  go_end0
  exact ⟨rfl, (K1.out.weak (fun _ _ => trivial)).trans K2.out⟩
set_option maxHeartbeats 1000000 in
theorem addR_any {w : World} {ib : Nat} (h : Blk w ib 345 #[.slice none 0 0, .bool false]) (a b : Int) :
    Calls Tryz.prog 99 #[.pointer (some ⟨ib, 0, none⟩), .int .i64 a, .int .i64 b] w fun e w' => e = .returned (.tuple #[]) ∧ Kp (fun j => j ≠ ib) w w' := by
  have H := Lib.hid h
  clear h
  go_enter Tryz.func99, Tryz.ntmps99
  go_wp2_with (first | (go_at_call 141; refine (newI_any _ _ _).mono ?_; rintro e w1 ⟨rfl, k1⟩; have K1 := Lib.hid k1; clear k1) | (go_at_call 140; refine (addI_any (H.out.kept (K1.out.blk _ H.out.lt trivial)) _ _).mono ?_; rintro e w2 ⟨rfl, k2⟩; have K2 := Lib.hid k2; clear k2))
  go_end0
  exact ⟨rfl, (K1.out.weak (fun _ _ => trivial)).trans K2.out⟩
def MlRet (w : World) (e : Ending) (w' : World) : Prop := ∃ ib : Nat, e = .returned (.pointer (some ⟨ib, 0, none⟩)) ∧ Kp (fun _ => True) w w'
set_option maxHeartbeats 1000000 in
theorem mlA_any {w : World} {b : Nat} {c : Array Value} {l : Int} (h : Blk w b 422 c) (h2 : c[2]? = some (.int .i64 l)) :
    Calls Tryz.prog 183 #[.pointer (some ⟨b, 0, none⟩)] w fun e w' => MlRet w e w' := by
  have H := Lib.hid h
  clear h
  go_enter Tryz.func183, Tryz.ntmps183
  go_wp2_with (first | (go_at_call 97; refine (newS_any _).mono ?_; rintro e w1 ⟨ib, rfl, hib, hb, k1⟩; have K1 := Lib.hid k1; have HB := Lib.hid hb; have c2 : w1.cell? ⟨b, 2, none⟩ = some (.int .i64 l) := ((H.out.kept (k1.blk _ H.out.lt trivial)).cell 2).trans h2; clear k1 hb) | (go_at_call 98; refine (addO_any HB.out _).mono ?_; rintro e w2 ⟨rfl, k2⟩; have K2 := Lib.hid k2; clear k2))
  go_ret
  exact ⟨ib, rfl, K1.out.tt hib K2.out⟩
set_option maxHeartbeats 1000000 in
theorem mlR_any {w : World} {b : Nat} {c : Array Value} {x y : Int} (h : Blk w b 415 c) (h5 : c[5]? = some (.int .i64 x)) (h6 : c[6]? = some (.int .i64 y)) :
    Calls Tryz.prog 182 #[.pointer (some ⟨b, 0, none⟩)] w fun e w' => MlRet w e w' := by
  have H := Lib.hid h
  clear h
  go_enter Tryz.func182, Tryz.ntmps182
  go_wp2_with (first | (go_at_call 97; refine (newS_any _).mono ?_; rintro e w1 ⟨ib, rfl, hib, hb, k1⟩; have K1 := Lib.hid k1; have HB := Lib.hid hb; have c5 : w1.cell? ⟨b, 5, none⟩ = some (.int .i64 x) := ((H.out.kept (k1.blk _ H.out.lt trivial)).cell 5).trans h5; have c6 : w1.cell? ⟨b, 6, none⟩ = some (.int .i64 y) := ((H.out.kept (k1.blk _ H.out.lt trivial)).cell 6).trans h6; have lb1 : b < w1.heap.size := Nat.lt_of_lt_of_le H.out.lt k1.size; have hne : b ≠ ib := (by have := H.out.lt; omega); clear k1 hb))
  go_region_held3 (fun W => W.cell? ⟨b, 5, none⟩ = some (.int .i64 x) ∧ W.cell? ⟨b, 6, none⟩ = some (.int .i64 y)) ((first | assumption | go_keep)) (first | (go_at_call 99; refine (addR_any (HB.out.drewN) _ _).mono ?_; rintro e w2 ⟨rfl, k2⟩; have c5' := (World.cell?_of_block (k2.blk b lb1 hne)).trans c5; have c6' := (World.cell?_of_block (k2.blk b lb1 hne)).trans c6; have K2 := Lib.hid k2; clear k2))
  all_goals
    clear c5' c6'
    go_wp2_with fail
    go_ret
    exact ⟨ib, rfl, (K1.out.trans (Kp.drewN _ _)).tt hib K2.out⟩
/-- What a transition's making leaves. -/
def TrRet (T : TypeId) (c : Array Value) (w : World) (e : Ending) (w' : World) : Prop := ∃ (tb : Nat) (i : Value), e = .returned (.pointer (some ⟨tb, 0, none⟩)) ∧ w.heap.size ≤ tb ∧ Blk w' tb T (c.setIfInBounds 3 i) ∧ Kp (fun _ => True) w w'
set_option maxHeartbeats 1000000 in
theorem newAt_any (T : TypeId) (a : Addr) (l : Int) (w : World) : Calls Tryz.prog 146 #[.iface T (.pointer (some a)), .int .i64 l] w fun e w' => TrRet 422 #[.iface T (.pointer (some a)), .bool false, .int .i64 l, .pointer none, .int .i64 5] w e w' := by
  have b0 := Blk.new w 422 #[.iface T (.pointer (some a)), .bool false, .int .i64 l, .pointer none, .int .i64 5]
  have B0 := Lib.hid b0
  clear b0
  go_enter Tryz.func146, Tryz.ntmps146
  go_wp2_with (first | (go_at_call 183; refine (mlA_any B0.out rfl).mono ?_; rintro e w2 ⟨ib, rfl, k2⟩; have K2 := Lib.hid k2; have B2 := Lib.hid (B0.out.kept (k2.blk _ B0.out.lt trivial)); have c3 : w2.cell? ⟨w.heap.size, 3, none⟩ = some (.pointer none) := B2.out.cell 3; have c3f : w2.frozen? ⟨w.heap.size, 3, none⟩ = false := B2.out.free 3; clear k2))
  have B3 := B2.out.set 3 (.pointer (some ⟨ib, 0, none⟩)) _ rfl
  have FIN : Hid (Kp (fun _ => True) w (w2.setCell ⟨w.heap.size, 3, none⟩ (.pointer (some ⟨ib, 0, none⟩)))) := Lib.hid (((Kp.alloc _ _).trans K2.out).tt (Nat.le_refl _) (Kp.setCell _ _ _ (fun h => h rfl)))
  have B3' := Lib.hid B3
  clear B3
  go_ret
  exact ⟨_, _, rfl, Nat.le_refl _, B3'.out, FIN.out⟩
set_option maxHeartbeats 1000000 in
theorem newRa_any (T : TypeId) (a : Addr) (x y : Int) (w : World) : Calls Tryz.prog 142 #[.iface T (.pointer (some a)), .int .i64 x, .int .i64 y] w fun e w' => TrRet 415 #[.iface T (.pointer (some a)), .bool false, .int .i64 0, .pointer none, .int .i64 2, .int .i64 x, .int .i64 y] w e w' := by
  have b0 := Blk.new w 415 #[.iface T (.pointer (some a)), .bool false, .int .i64 0, .pointer none, .int .i64 2, .int .i64 x, .int .i64 y]
  have B0 := Lib.hid b0
  clear b0
  go_enter Tryz.func142, Tryz.ntmps142
  go_wp2_with (first | (go_at_call 182; refine (mlR_any B0.out rfl rfl).mono ?_; rintro e w2 ⟨ib, rfl, k2⟩; have K2 := Lib.hid k2; have B2 := Lib.hid (B0.out.kept (k2.blk _ B0.out.lt trivial)); have c3 : w2.cell? ⟨w.heap.size, 3, none⟩ = some (.pointer none) := B2.out.cell 3; have c3f : w2.frozen? ⟨w.heap.size, 3, none⟩ = false := B2.out.free 3; clear k2))
  have B3 := B2.out.set 3 (.pointer (some ⟨ib, 0, none⟩)) _ rfl
  have FIN : Hid (Kp (fun _ => True) w (w2.setCell ⟨w.heap.size, 3, none⟩ (.pointer (some ⟨ib, 0, none⟩)))) := Lib.hid (((Kp.alloc _ _).trans K2.out).tt (Nat.le_refl _) (Kp.setCell _ _ _ (fun h => h rfl)))
  have B3' := Lib.hid B3
  clear B3
  go_ret
  exact ⟨_, _, rfl, Nat.le_refl _, B3'.out, FIN.out⟩
end Go.Proofs
end
