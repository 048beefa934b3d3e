/- A part of the proof of the statement on the law FnStates, which the last text proves: part G27. -/
import Derived.Test.YtlceacefhnllbaaGreatDoorG26
set_option linter.all false
section
namespace Go.Proofs
open Go.RowKit
open Pl
/-! ## a state is added -/
theorem info156 : (Tryz.prog.info? 156).map (fun i => (i.zero, i.size, i.bytes)) = some (some .nilIface, 1, 16) := by kernel_rfl
/-- The row of the states. -/
theorem upO2 {α : Type} (f : Nat → Option α) (i : Nat) (x y : α) : upO (upO f i x) i y = upO f i y := by funext j; unfold upO; split <;> rfl

theorem naSSN {T : TypeId} (hT : T ∈ stTypes) (a : Addr) (w : World) : (nilAhead 715 T (.pointer (some a)) "SetStateNumber").run Tryz.prog w = .ok (some false) w := by
  unfold stTypes at hT
  simp only [List.mem_cons, List.not_mem_nil, or_false] at hT
  rcases hT with rfl | rfl | rfl | rfl | rfl | rfl | rfl | rfl | rfl | rfl | rfl | rfl
  all_goals kernel_rfl
set_option maxRecDepth 100000 in
set_option maxHeartbeats 1000000 in
theorem addSt_any {k : DK} {g : DG} {w : World} {rest : List Int} (h : DM k g w rest) {ab i n kd sb : Nat} {a : Array Value} {v : Value} {xs : List Value} {ru : Int}
    (hb0 : g.bl 0 = some ⟨ab, 117, a⟩) (ha : a[9]? = some v) (hr : g.rw 0 = some ⟨156, 1, v, n, xs⟩) (hi : i ≠ 0) (hbi : g.bl i = some ⟨sb, bTy kd, sC kd (.pointer none) ru (-1)⟩) (hn : n ≤ 1000000) :
    Calls Tryz.prog 95 #[.pointer (some ⟨ab, 0, none⟩), .iface (kTy kd) (.pointer (some ⟨sb, 0, none⟩))] w fun e w' => e = .returned (.tuple #[]) ∧
      ∃ g' gg cap, DM k g' w' rest ∧ g'.bl = upO (upO g.bl i ⟨sb, bTy kd, sC kd (.pointer (some ⟨ab, 0, none⟩)) ru n⟩) 0 ⟨ab, 117, a.setIfInBounds 9 (.slice (some ⟨gg, 0, none⟩) (n + 1) cap)⟩ ∧
        g'.rw = upO g.rw 0 ⟨156, 1, .slice (some ⟨gg, 0, none⟩) (n + 1) cap, n + 1, xs ++ [.iface (kTy kd) (.pointer (some ⟨sb, 0, none⟩))]⟩ := by
  have hT := kTy_mem kd
  have d1 := fun a w => dSATN hT a w
  have d2 := fun a w => dSSN hT a w
  have d3 := fun a w => naSSN hT a w
  generalize hTT : kTy kd = T at *
  have D0 := Lib.hid h
  obtain ⟨ba, _⟩ := h.bl 0 _ hb0
  obtain ⟨bs, _⟩ := h.bl i _ hbi
  have s1 : w.cell? ⟨sb, 1, none⟩ = some (.pointer none) := by rw [bs.cell 1]; simp [sC]
  have s1f : w.frozen? ⟨sb, 1, none⟩ = false := bs.free 1
  have hs1 : (w.cell? ⟨sb, 1, none⟩).isSome = true := by rw [s1]; rfl
  have B0 := Lib.hid hb0
  have BI := Lib.hid hbi
  have HA := Lib.hid ha
  have HR := Lib.hid hr
  have HI := Lib.hid hi
  have HTT := Lib.hid hTT
  clear h hb0 hbi ha hr ba bs s1 hi hTT
  go_enter Tryz.func95, Tryz.ntmps95
  go_wp2_with (first | (go_at_call 280; refine (sATN _ _ _ hs1 s1f).mono ?_; rintro e w' ⟨rfl, hw⟩; have DM1 := D0.out.set BI.out 1 (.pointer (some ⟨ab, 0, none⟩)); simp only [sC_set1] at DM1; rw [hw] at DM1; replace D0 := Lib.hid DM1; clear DM1 hw))
  have a1 : Blk w' ab 117 a := (D0.out.bl 0 _ (by rw [DG.setB_bl, upO_ne _ _ HI.out.symm]; exact B0.out)).1
  have a9 : w'.cell? ⟨ab, 9, none⟩ = some v := by rw [a1.cell 9]; exact HA.out
  obtain ⟨va, vc, rfl⟩ : ∃ va vc, v = .slice va n vc := own_slice (D0.out.rw 0 _ HR.out).1
  clear a1 s1f hs1
  go_still_tail 9, (by kernel_rfl)
  change wpList _ _ _ _ _ w'.drew
  have E0 := Lib.hid (D0.out.drew)
  clear D0 a9
  generalize w'.drew = wd at E0 ⊢
  have hb1 : (g.setB i ⟨sb, bTy kd, sC kd (.pointer (some ⟨ab, 0, none⟩)) ru (-1)⟩).bl i = some ⟨sb, bTy kd, sC kd (.pointer (some ⟨ab, 0, none⟩)) ru (-1)⟩ := by rw [DG.setB_bl, upO_self]
  have b1 : Blk wd sb (bTy kd) (sC kd (.pointer (some ⟨ab, 0, none⟩)) ru (-1)) := (E0.out.bl i _ (by rw [DG.setB_bl, upO_self])).1
  have s4 : (wd.cell? ⟨sb, 4, none⟩).isSome = true := by rw [b1.cell 4]; simp [sC]
  have s4f : wd.frozen? ⟨sb, 4, none⟩ = false := b1.free 4
  clear b1
  obtain ⟨i2, hi2, hy0, hy1, hy2⟩ := info_parts info156
  go_wp2_with (first | (at_builtin; refine wpList_append_lies _ rfl _ _ 115 rfl k.base 156 i2 _ 1 16 Tryz.underlying115 hi2 hy0 hy1 hy2 rfl (by omega) (.slice va n vc) n xs rfl (OW.out.alloc _) ⟨w2.heap.size, 0, none⟩ 1 1 [.iface T (.pointer (some ⟨sb, 0, none⟩))] rfl rfl (World.news_of_block (cs := #[.iface T (.pointer (some ⟨sb, 0, none⟩))]) (t := 156) (fr := (0, 0)) (heap_alloc_new w2 _)) (by simp [Value.oneCell']) (by omega) (by simp [maxLen]; omega) (by omega) (by simp; exact Nat.le_succ_of_le DM2.out.bs) (w2.heap.size + 1) (by simp) ?_; intro gg cap w3 hown hgrow hat hlt; have k3 : Kp (fun q => some q ≠ (Value.slice va n vc).ownBlock) w2 w3 := (Kp.alloc _ _).trans (Kp.grown hgrow (fun q hq => hq)); have D3 := Lib.hid (DM2.out.putR (i := 0) hown k3 (DM2.out.rw 0 _ HR.out).2 (hat.imp id (fun e => by omega))); clear hown hgrow hat hlt k3; have a3 : Blk w3 ab 117 a := (D3.out.bl 0 _ (by rw [DG.setR_bl, DG.tag_bl, DG.setB_bl, DG.setB_bl, upO_ne _ _ HI.out.symm, upO_ne _ _ HI.out.symm]; exact B0.out)).1; have a9 : (w3.cell? ⟨ab, 9, none⟩).isSome = true := (by rw [a3.cell 9, HA.out]; rfl); obtain ⟨a9u, a9v⟩ := Option.isSome_iff_exists.1 a9; have a9f : w3.frozen? ⟨ab, 9, none⟩ = false := a3.free 9; clear a3 a9; skip) | (go_at_call 283; refine (sSN _ _ _ s4 s4f).mono ?_; rintro e w2 ⟨rfl, hw⟩; have DM1 := E0.out.set hb1 4 (.int .i64 n); simp only [sC_set4] at DM1; rw [hw] at DM1; have DM2 := Lib.hid DM1; clear DM1 hw E0 s4 s4f hb1; have OW : Hid (w2.ownsRow k.base 156 1 (.slice va n vc) n xs) := Lib.hid (DM2.out.rw 0 _ HR.out).1; have a1 : Blk w2 ab 117 a := (DM2.out.bl 0 _ (by rw [DG.setB_bl, DG.setB_bl, upO_ne _ _ HI.out.symm, upO_ne _ _ HI.out.symm]; exact B0.out)).1; have a9 : w2.cell? ⟨ab, 9, none⟩ = some (.slice va n vc) := (by rw [a1.cell 9]; exact HA.out); clear a1))
  go_end0
  have hb3 : ((((g.setB i ⟨sb, bTy kd, sC kd (.pointer (some ⟨ab, 0, none⟩)) ru (-1)⟩).setB i ⟨sb, bTy kd, sC kd (.pointer (some ⟨ab, 0, none⟩)) ru n⟩).tag gg (.row 0)).setR 0 ⟨156, 1, .slice (some ⟨gg, 0, none⟩) (n + 1) cap, n + 1, xs ++ [.iface T (.pointer (some ⟨sb, 0, none⟩))]⟩).bl 0 = some ⟨ab, 117, a⟩ := by
    rw [DG.setR_bl, DG.tag_bl, DG.setB_bl, DG.setB_bl, upO_ne _ _ HI.out.symm, upO_ne _ _ HI.out.symm]; exact B0.out
  refine ⟨rfl, _, gg, cap, D3.out.set hb3 9 (.slice (some ⟨gg, 0, none⟩) (n + 1) cap), ?_, rfl⟩
  simp only [DG.setR_bl, DG.tag_bl, DG.setB_bl, upO2]
end Go.Proofs
end
