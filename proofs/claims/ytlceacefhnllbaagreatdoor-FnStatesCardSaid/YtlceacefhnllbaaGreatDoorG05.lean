/- A part of the proof of the statement on the law FnStates, which the last text proves: part G05. -/
import Derived.Test.YtlceacefhnllbaaGreatDoorG03
import Derived.Test.YtlceacefhnllbaaGreatDoorG04
set_option linter.all false
section
namespace Go.Proofs
open Go.RowKit
open Pl
set_option maxRecDepth 100000 in
set_option maxHeartbeats 1000000 in
/-- At a state whose edges read a character. -/
theorem closure_leaf (l ip : Value) (B : Nat) (w : World) (N : Bd) (v : AV) (hN : AtnAt B w N v) (u : SU) (adds : List Cf) (hs : SetD B w u adds) (x : Cf) (hx : CfB w u x) (s : Nat) (hxs : CfN N v x s) (hk7 : N.kind s ≠ 7) (hlf : N.leaf s = true) (hT : x.T ≠ 269) (hl : (adds.length + 1) * 88 ≤ 140737488355328) (ca sp eof : Bool) :
    Calls Tryz.prog 112 #[l, ip, .pointer (some ⟨x.b, 0, none⟩), .pointer (some ⟨u.sB, 0, none⟩), .bool ca, .bool sp, .bool eof] w fun e w' =>
      BoolRet e ∧ ∃ u', SetD B w' u' (adds ++ [x]) ∧ Fr w u w' u' ∧ u'.sB = u.sB := by
  have hxc := hx.blk.cell
  simp only [Cf.cells, confCells] at hxc
  have hst := hN s hxs.lt
  have h2 : w.cell? ⟨x.s, 2, none⟩ = some (.bool false) := by have := (hst.eps hk7).at; rw [hlf, ← hxs.b] at this; exact this
  have t1 := fun a w => taNoStop hx.x.ty hT a w
  have t2 := fun a w => dEps hx.x.ty a w
  have t3 := fun a w => dTrs hx.x.ty a w
  have H := Lib.hid hx
  have HS := Lib.hid hs
  clear hx hs hst
  cases ca
  all_goals
    go_enter Tryz.func112, Tryz.ntmps112
    go_wp2_with (first | (go_at_call 274; refine (gEps _ _ _ h2).mono ?_; rintro e w' ⟨rfl, rfl⟩) | (go_at_call 165; refine (add_any _ _ _ _ HS.out _ H.out hl).mono ?_; rintro e w' ⟨rfl, u', hs', f', e'⟩))
    have hs1 := Lib.hid hs'
    have H1 := H.out.fr f'
    have hN1 := hN.kept (SetU.kp HS.out f')
    have S1 := hN1 s hxs.lt
    have hxc1 := H1.blk.cell
    simp only [Cf.cells, confCells] at hxc1
    have hB1 : B ≤ w'.heap.size := Nat.le_trans hs'.bs (Nat.le_of_lt hs'.blk.lt)
    obtain ⟨ts, hts, hlen⟩ : ∃ ts, w'.cell? ⟨x.s, 6, none⟩ = some (.slice ts (N.out s).length (if ts.isSome then v.cap s else 0)) ∧ (∀ i, i < (N.out s).length → ts = some ⟨v.row s, 0, none⟩) := by
      rcases S1.trs with h | ⟨h1, h2⟩
      · exact ⟨_, by rw [hxs.b]; exact h.at, fun _ _ => rfl⟩
      · exact ⟨none, by rw [hxs.b, h1]; exact h2.at, fun i hi => by rw [h1] at hi; simp at hi⟩
    have hfew := S1.few
    go_loopw [4, 21] (fun c i wr => ∃ (k n : Nat) (r : Bool), k ≤ (N.out s).length ∧ c = .bool r ∧ i = .int .i64 k ∧ wr = w'.drewN n) (fun _ i _ => (N.out s).length - (intOf i).toNat)
    case atStart => exact ⟨0, 0, _, Nat.zero_le _, rfl, rfl, rfl⟩
    case round =>
      obtain ⟨k, n, r, hk, rfl, rfl, rfl⟩ := hrel
      by_cases hkl : k < (N.out s).length
      · obtain ⟨e, he⟩ : ∃ e, (N.out s)[k]? = some e := ⟨_, List.getElem?_eq_getElem hkl⟩
        obtain ⟨hr, ht⟩ := S1.tr k e he
        have hrc := hr.at
        obtain rfl := hlen k hkl
        have hnk := S1.lf hlf e (List.mem_of_getElem? he)
        rcases ht.kind with h | h | h
        · exact absurd h hnk
        · have hT2 : trTy e.kind = 350 := by rw [h]; rfl
          rw [hT2] at hrc
          go_wp2_with (first | (go_at_call 104; refine (gTrs _ _ (w'.drewN n) hts).mono ?_; rintro e w' ⟨rfl, rfl⟩) | (go_at_call 167; refine (get_range _ _ _ B (w'.drewN n) N v _ _ e h (ht.kept (Kp.drewN _ _)) _ _).mono ?_; rintro e w' ⟨rfl, n2, rfl⟩))
          exact ⟨⟨k + 1, n + n2, r, by omega, rfl, by simp, rfl⟩, by simp [intOf]; omega⟩
        · have hT2 : trTy e.kind = 357 := by rw [h]; rfl
          rw [hT2] at hrc
          go_wp2_with (first | (go_at_call 104; refine (gTrs _ _ (w'.drewN n) hts).mono ?_; rintro e w' ⟨rfl, rfl⟩) | (go_at_call 167; refine (get_atom _ _ _ B (w'.drewN n) N v _ _ e h (ht.kept (Kp.drewN _ _)) _ _).mono ?_; rintro e w' ⟨rfl, rfl⟩))
          exact ⟨⟨k + 1, n, r, by omega, rfl, by simp, rfl⟩, by simp [intOf]; omega⟩
      · obtain rfl : k = (N.out s).length := by omega
        go_wp2_with (first | (go_at_call 104; refine (gTrs _ _ (w'.drewN n) hts).mono ?_; rintro e w' ⟨rfl, rfl⟩))
        all_goals go_ret
        all_goals exact ⟨⟨r, rfl⟩, u', hs1.out.drewN n, f'.trans (Fr.drewN _ _ _), e'⟩
end Go.Proofs
end
