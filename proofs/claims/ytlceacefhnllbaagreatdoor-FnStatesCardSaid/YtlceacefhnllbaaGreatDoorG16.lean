/- A part of the proof of the statement on the law FnStates, which the last text proves: part G16. -/
import Derived.Test.YtlceacefhnllbaaGreatDoorG15
set_option linter.all false
section
namespace Go.Proofs
open Go.RowKit
open Pl
/-! ## reading what is told -/
theorem CfgRow2.up {B : Nat} {w W : World} {sl : Value} {L : List Cf} (h : CfgRow2 B w sl L) (k : Kp (fun _ => True) w W) : CfgRow2 B W sl L :=
  h.kept (Nat.le_refl _) (fun j _ _ _ hc _ => k.blk j (lt_of_block hc) trivial)
theorem MetRow2.up {B : Nat} {w W : World} {sl : Value} {ds : List DS} (h : MetRow2 B w sl ds) (k : Kp (fun _ => True) w W) : MetRow2 B W sl ds := by
  obtain ⟨ps, p1, p2, p3⟩ := h
  exact ⟨ps, p1, own_kept' p2 (fun j hj => k.blk j (own_blk p2 hj).2.1 trivial), fun x hx => ⟨(p3 x hx).1.up k, (p3 x hx).2.up k⟩⟩
theorem own_at {w : World} {B : Nat} {e : TypeId} {sz n g cap : Nat} {xs : List Value} (h : w.ownsRow B e sz (.slice (some ⟨g, 0, none⟩) n cap) n xs) (i : Nat) (u : Value) (hu : xs[i]? = some u) : w.cell? ⟨g, i, none⟩ = some u := by
  have h0 := h.cells (g := g) rfl i u hu
  have e : (⟨g, 0, none⟩ : Addr).add i = ⟨g, i, none⟩ := by
    by_cases hi : i = 0
    · rw [hi]; rfl
    · simp only [Addr.add, hi]; simp
  rw [e] at h0; exact h0

/-- An element of a row of configurations. -/
structure CfE (B : Nat) (w : World) (g o : Nat) (x : Cf) (c k : Nat) : Prop where
  e0 : w.cell? ⟨g, o, none⟩ = some (.int .i64 x.n)
  e1 : w.cell? ⟨g, o + 1, none⟩ = some (.int .i64 x.alt)
  e2 : w.cell? ⟨g, o + 2, none⟩ = some (.slice (some ⟨c, 0, none⟩) 3 k)
  e3 : w.cell? ⟨g, o + 3, none⟩ = some (.bool false)
  e4 : w.cell? ⟨g, o + 4, none⟩ = some (.bool false)
  e5 : w.cell? ⟨g, o + 5, none⟩ = some (.int .i64 (lhI x.n x.alt))
  cx : CxAt B w (.slice (some ⟨c, 0, none⟩) 3 k)
theorem CfgRow2.get {B : Nat} {w : World} {g n cap : Nat} {L : List Cf} (h : CfgRow2 B w (.slice (some ⟨g, 0, none⟩) n cap) L) {k : Nat} {x : Cf} (hx : L[k]? = some x) : ∃ c kk, CfE B w g (k * 6) x c kk := by
  obtain ⟨vs, v1, v2, v3⟩ := h
  obtain ⟨hk, _⟩ := List.getElem?_eq_some_iff.1 hx
  obtain ⟨u, hu⟩ : ∃ u, vs[k]? = some u := ⟨vs[k]'(by omega), by simp⟩
  have hcx := v3 u (List.mem_of_getElem? hu)
  obtain ⟨ug, uc, rfl, _⟩ := own_form hcx (by omega)
  have hn : n = L.length := by
    rcases v2.2 with ⟨e, _⟩ | ⟨g', cap', cur, e, _⟩
    · cases e
    · cases e; rfl
  subst hn
  have cl : ∀ i y, i < 6 → (cfgV x (.slice (some ⟨ug, 0, none⟩) 3 uc))[i]? = some y → w.cell? ⟨g, k * 6 + i, none⟩ = some y := fun i y hi hy => own_at v2 _ _ (by rw [flatG_at _ _ _ _ _ hx hu i hi]; exact hy)
  exact ⟨ug, uc, cl 0 _ (by omega) rfl, cl 1 _ (by omega) rfl, cl 2 _ (by omega) rfl, cl 3 _ (by omega) rfl, cl 4 _ (by omega) rfl, cl 5 _ (by omega) rfl, hcx⟩

/-- An element of the row of states. -/
structure MtE (B : Nat) (w : World) (g o : Nat) (d : DS) (c ck a ak : Nat) : Prop where
  e0 : w.cell? ⟨g, o, none⟩ = some (.int .i64 0)
  e1 : w.cell? ⟨g, o + 1, none⟩ = some (.int .i64 (dfaHashL (ddC d.L)))
  e2 : w.cell? ⟨g, o + 2, none⟩ = some (.slice (some ⟨c, 0, none⟩) (ddC d.L).length ck)
  e3 : w.cell? ⟨g, o + 3, none⟩ = some (.slice (some ⟨a, 0, none⟩) d.L.length ak)
  rc : CfgRow2 B w (.slice (some ⟨c, 0, none⟩) (ddC d.L).length ck) (ddC d.L)
  ra : CfgRow2 B w (.slice (some ⟨a, 0, none⟩) d.L.length ak) d.L
theorem MetRow2.get {B : Nat} {w : World} {g n cap : Nat} {ds : List DS} (h : MetRow2 B w (.slice (some ⟨g, 0, none⟩) n cap) ds) {k : Nat} {d : DS} (hd : ds[k]? = some d) (hne : d.L ≠ []) : ∃ c ck a ak, MtE B w g (k * 4) d c ck a ak := by
  obtain ⟨ps, p1, p2, p3⟩ := h
  obtain ⟨hk, _⟩ := List.getElem?_eq_some_iff.1 hd
  obtain ⟨p, hp⟩ : ∃ p, ps[k]? = some p := ⟨ps[k]'(by omega), by simp⟩
  have hmem : (d, p) ∈ ds.zip ps := List.mem_of_getElem? (i := k) ((List.getElem?_zip_eq_some (z := (d, p))).2 ⟨hd, hp⟩)
  have hne1 : d.L.length ≠ 0 := fun e => hne (List.eq_nil_of_length_eq_zero e)
  have hne2 : (ddC d.L).length ≠ 0 := fun e => ddC_ne hne (List.eq_nil_of_length_eq_zero e)
  obtain ⟨rc, ra⟩ := p3 _ hmem
  obtain ⟨pc, pa⟩ := p
  obtain ⟨cg, cc, hcg⟩ := rc.form hne2
  obtain ⟨ag, ac, hag⟩ := ra.form hne1
  simp only at hcg hag
  subst hcg hag
  have hn : n = ds.length := by
    rcases p2.2 with ⟨e, _⟩ | ⟨g', cap', cur, e, _⟩
    · cases e
    · cases e; rfl
  subst hn
  have cl : ∀ i y, i < 4 → (metV d (.slice (some ⟨cg, 0, none⟩) (ddC d.L).length cc, .slice (some ⟨ag, 0, none⟩) d.L.length ac))[i]? = some y → w.cell? ⟨g, k * 4 + i, none⟩ = some y := fun i y hi hy => own_at p2 _ _ (by rw [flatM_at _ _ _ _ _ hd hp i hi]; exact hy)
  exact ⟨cg, cc, ag, ac, cl 0 _ (by omega) rfl, cl 1 _ (by omega) rfl, cl 2 _ (by omega) rfl, cl 3 _ (by omega) rfl, rc, ra⟩

/-- What is asked of hashes. -/
def HashOk (N : Bd) (f : Nat) : Prop :=
  (∀ d1 d2, DOk N f d1 → DOk N f d2 → dfaHashL (ddC d1.L) = dfaHashL (ddC d2.L) → (ddC d1.L).length = (ddC d2.L).length → (ddC d1.L).map (fun x => (x.n, x.alt)) = (ddC d2.L).map (fun x => (x.n, x.alt))) ∧
  (∀ d, DOk N f d → ∀ x ∈ d.L, ∀ y ∈ d.L, lhI x.n x.alt = lhI y.n y.alt → x.n = y.n ∧ x.alt = y.alt)
/-- What a network's text is turned into. -/
def NxRet (N : Bd) (w : World) (e : Ending) (w' : World) : Prop :=
  ∃ x : NetV, e = .returned x.val ∧ Kp (fun _ => True) w w' ∧ ∀ V, Kp (fun _ => True) w' V → Calls Tryz.prog 19 #[x.val] V fun e v' => NtRet N V e v'

set_option maxRecDepth 100000 in
set_option maxHeartbeats 4000000 in
theorem apart_any {w : World} {N : Bd} {f : Nat} (nf : NetF N f) (ho : HashOk N f) (lv : Value) (HN : Calls Tryz.prog 8 #[lv] w fun e w' => NxRet N w e w') (s : ByteArray) (hs : s.size ≤ 60) :
    Calls Tryz.prog 11 #[lv, .string s] w fun e w' => e = .returned (.bool true) ∧ Kp (fun _ => True) w w' := by
  have H1 := Lib.hid HN
  have NF := Lib.hid nf
  have HO := Lib.hid ho
  clear HN nf ho
  go_enter Tryz.func11, Tryz.ntmps11
  go_wp2_with (first | (go_at_call 8; refine H1.out.mono ?_; rintro e w2 ⟨x, rfl, k2, hx⟩; have SX := Lib.hid (states_any NF.out x hx s hs); have K2 := Lib.hid k2; clear hx k2; unfold NetV.val) | (go_at_call 9; refine SX.out.mono ?_; rintro e w3 ⟨sl, ds, rfl, hmr, hd1, hd2, hdk, k3⟩; obtain ⟨mg, mgc, hsl, _⟩ := own_form hmr.choose_spec.2.1 (by omega); subst hsl; have MR := Lib.hid hmr; have DK := Lib.hid hdk; have K3 := Lib.hid k3; clear hmr hdk k3))
  have hcap : ds.length ≤ mgc := by
    obtain ⟨ps, p1, p2, p3⟩ := MR.out
    rcases p2.2 with ⟨e, _⟩ | ⟨g', cap', cur, e, _, _, hc, _⟩
    · cases e
    · cases e; exact hc
  have KW3 : Hid (Kp (fun _ => True) w w3) := Lib.hid (by first | exact (K2.out.trans (Kp.alloc _ _)).trans K3.out | exact K2.out.trans K3.out)
  clear H1 SX
  go_loopw [21] (fun t21 wr => ∃ i : Nat, t21 = .int .i64 i ∧ i ≤ ds.length ∧ Kp (fun _ => True) w3 wr) (fun t21 _ => ds.length - (intOf t21).toNat)
  case atStart => exact ⟨0, rfl, Nat.zero_le _, Kp.rfl'⟩
  case round =>
    obtain ⟨i, rfl, hi, kx⟩ := hrel
    by_cases hin : i < ds.length
    · have hin' : (i : Int) < (ds.length : Int) := by omega
      obtain ⟨d, hd⟩ : ∃ d, ds[i]? = some d := ⟨ds[i]'hin, by simp⟩
      have hok := DK.out d (List.mem_of_getElem? hd)
      obtain ⟨c, ck, a, ak, E⟩ := (MR.out.up kx).get hd hok.2.1
      have e0 := E.e0
      have e1 := E.e1
      have e2 := E.e2
      have e3 := E.e3
      have HE := Lib.hid E
      have KX := Lib.hid kx
      have OK1 := Lib.hid hok
      have hcap' : (i : Int) ≤ (mgc : Int) := by omega
      have hlq : d.L.length ≤ 1600000000000 := by
        obtain ⟨h1, _, v, h2, _⟩ := hok
        have := met_len NF.out h1
        have := h2.len
        omega
      have hlc : (ddC d.L).length ≤ 1600000000000 := Nat.le_trans (ddC_len _) hlq
      clear E kx hok
      go_upto_region 5 with fail
      have km : Kp (fun _ => True) wr (wr.alloc (.cells #[.int .i64 0, .int .i64 (dfaHashL (ddC d.L)), .slice (some ⟨c, 0, none⟩) (ddC d.L).length ck, .slice (some ⟨a, 0, none⟩) d.L.length ak] 38)) := Kp.alloc _ _
      have bm := Blk.new wr 38 #[.int .i64 0, .int .i64 (dfaHashL (ddC d.L)), .slice (some ⟨c, 0, none⟩) (ddC d.L).length ck, .slice (some ⟨a, 0, none⟩) d.L.length ak]
      obtain ⟨mb, hmb⟩ : ∃ mb, mb = wr.heap.size := ⟨_, rfl⟩
      rw [← hmb] at bm ⊢
      generalize wr.alloc (.cells #[.int .i64 0, .int .i64 (dfaHashL (ddC d.L)), .slice (some ⟨c, 0, none⟩) (ddC d.L).length ck, .slice (some ⟨a, 0, none⟩) d.L.length ak] 38) = wA at km bm ⊢
      have KA := Lib.hid (KX.out.trans km)
      have BM := Lib.hid bm
      have RC := Lib.hid (HE.out.rc.up km)
      have RA := Lib.hid (HE.out.ra.up km)
      clear km bm HE KX e0 e1 e2 e3 hmb
      go_wp2_with fail
      go_loopw [30] (fun t30 wr => ∃ j : Nat, t30 = .int .i64 j ∧ j ≤ i ∧ Kp (fun _ => True) wA wr) (fun t30 _ => i - (intOf t30).toNat)
      case atStart => exact ⟨0, rfl, Nat.zero_le _, Kp.rfl'⟩
      case round =>
        obtain ⟨j, rfl, hj, kx⟩ := hrel
        by_cases hjn : j < i
        · have hjn' : (j : Int) < (i : Int) := by omega
          obtain ⟨d2, hd2'⟩ : ∃ d2, ds[j]? = some d2 := ⟨ds[j]'(by omega), by simp⟩
          have hok2 := DK.out d2 (List.mem_of_getElem? hd2')
          obtain ⟨c2, ck2, a2, ak2, E2⟩ := (MR.out.up (KA.out.trans kx)).get hd2' hok2.2.1
          have e0 := E2.e0
          have e1 := E2.e1
          have e2 := E2.e2
          have e3 := E2.e3
          have HE2 := Lib.hid E2
          have KX := Lib.hid kx
          have OK2 := Lib.hid hok2
          clear E2 kx hok2
          go_upto_region 8 with fail
          have km : Kp (fun _ => True) wr (wr.alloc (.cells #[.int .i64 0, .int .i64 (dfaHashL (ddC d2.L)), .slice (some ⟨c2, 0, none⟩) (ddC d2.L).length ck2, .slice (some ⟨a2, 0, none⟩) d2.L.length ak2] 38)) := Kp.alloc _ _
          have bm := Blk.new wr 38 #[.int .i64 0, .int .i64 (dfaHashL (ddC d2.L)), .slice (some ⟨c2, 0, none⟩) (ddC d2.L).length ck2, .slice (some ⟨a2, 0, none⟩) d2.L.length ak2]
          obtain ⟨nb, hnb⟩ : ∃ nb, nb = wr.heap.size := ⟨_, rfl⟩
          rw [← hnb] at bm ⊢
          generalize wr.alloc (.cells #[.int .i64 0, .int .i64 (dfaHashL (ddC d2.L)), .slice (some ⟨c2, 0, none⟩) (ddC d2.L).length ck2, .slice (some ⟨a2, 0, none⟩) d2.L.length ak2] 38) = wB at km bm ⊢
          have KB := Lib.hid (KX.out.trans km)
          have BN := Lib.hid bm
          have RC2 := Lib.hid (HE2.out.rc.up km)
          have hmB := (BM.out.kept (KB.out.blk _ BM.out.lt trivial)).cell
          have hnB := bm.cell
          clear km bm HE2 KX e0 e1 e2 e3 hnb
          by_cases hh : dfaHashL (ddC d.L) = dfaHashL (ddC d2.L)
          · have hh1 : (dfaHashL (ddC d.L) == dfaHashL (ddC d2.L)) = true := by simpa using hh
            have hh2 : (dfaHashL (ddC d.L) != dfaHashL (ddC d2.L)) = false := by simp [hh]
            by_cases hl : (ddC d.L).length = (ddC d2.L).length
            · have hl1 : (((ddC d.L).length : Int) == ((ddC d2.L).length : Int)) = true := by simp [hl]
              have hl2 : (((ddC d.L).length : Int) != ((ddC d2.L).length : Int)) = false := by simp [hl]
              have HL := Lib.hid hl
              have HH := Lib.hid hh
              clear hh hl
              go_wp2_with fail
              clear hmB hnB hh1 hh2 hl1 hl2
              go_loopw [58] (fun t58 wr => ∃ k : Nat, t58 = .int .i64 k ∧ k ≤ (ddC d.L).length ∧ Kp (fun _ => True) wB wr) (fun t58 _ => (ddC d.L).length - (intOf t58).toNat)
              case atStart => exact ⟨0, rfl, Nat.zero_le _, Kp.rfl'⟩
              case round =>
                obtain ⟨k, rfl, hk, kx⟩ := hrel
                by_cases hkn : k < (ddC d.L).length
                · have hkn' : (k : Int) < ((ddC d.L).length : Int) := by omega
                  have hkn2 : (k : Int) < ((ddC d2.L).length : Int) := by have := HL.out; omega
                  obtain ⟨x1, hx1⟩ : ∃ x, (ddC d.L)[k]? = some x := ⟨(ddC d.L)[k]'hkn, by simp⟩
                  obtain ⟨x2, hx2⟩ : ∃ x, (ddC d2.L)[k]? = some x := ⟨(ddC d2.L)[k]'(by omega), by simp⟩
                  have hmm := congrArg (fun l => l[k]?) (HO.out.1 d d2 OK1.out OK2.out HH.out HL.out)
                  simp only [List.getElem?_map, hx1, hx2, Option.map_some, Option.some.injEq, Prod.mk.injEq] at hmm
                  obtain ⟨u1, v1, A⟩ := ((RC.out.up (KB.out.trans kx))).get hx1
                  obtain ⟨u2, v2, B⟩ := (RC2.out.up kx).get hx2
                  have bm2 := BM.out.kept ((KB.out.trans kx).blk _ BM.out.lt trivial)
                  have bn2 := BN.out.kept (kx.blk _ BN.out.lt trivial)
                  have hA := A.cx
                  have hB := B.cx
                  obtain ⟨a0, a1, a2', a3, a4, a5, _⟩ := A
                  obtain ⟨b0, b1, b2', b3, b4, b5, _⟩ := B
                  rw [← hmm.1] at b0
                  rw [← hmm.2] at b1
                  have m2 : wr.cell? ⟨mb, 2, none⟩ = some (.slice (some ⟨c, 0, none⟩) (ddC d.L).length ck) := bm2.cell 2
                  have n2 : wr.cell? ⟨nb, 2, none⟩ = some (.slice (some ⟨c2, 0, none⟩) (ddC d2.L).length ck2) := bn2.cell 2
                  have AL := Lib.hid (alike_any (w := wr.drew) x1.n x1.alt u1 v1 (lhI x1.n x1.alt) u2 v2 (lhI x2.n x2.alt) hA hB)
                  unfold cfgA at AL
                  have KX := Lib.hid kx
                  clear bm2 bn2 hA hB kx hx1 hx2 hmm
                  go_upto_region 12 with fail
                  go_still_tail 10, (by kernel_rfl)
                  change wpList _ _ _ _ _ wr.drew
                  go_wp2_with (first | (go_at_call 22; refine AL.out.mono ?_; rintro e w9 ⟨rfl, k9⟩; have K9 := Lib.hid k9; clear k9))
                  exact ⟨⟨k + 1, by simp, by omega, (KX.out.trans (Kp.drew _)).trans K9.out⟩, by simp [intOf]; omega⟩
                · have hkn' : ¬ (k : Int) < ((ddC d.L).length : Int) := by omega
                  have KX := Lib.hid kx
                  clear kx
                  go_wp2_with fail
                  exact ⟨⟨j + 1, by simp, by omega, KB.out.trans KX.out⟩, by simp [intOf]; omega⟩
            · have hl0 : ¬ ((ddC d.L).length : Int) = ((ddC d2.L).length : Int) := by omega
              have hl1 : (((ddC d.L).length : Int) == ((ddC d2.L).length : Int)) = false := by simpa using hl0
              have hl2 : (((ddC d.L).length : Int) != ((ddC d2.L).length : Int)) = true := by simpa using hl0
              go_wp2_with fail
              exact ⟨⟨j + 1, by simp, by omega, KB.out⟩, by simp [intOf]; omega⟩
          · have hh1 : (dfaHashL (ddC d.L) == dfaHashL (ddC d2.L)) = false := by simpa using hh
            have hh2 : (dfaHashL (ddC d.L) != dfaHashL (ddC d2.L)) = true := by simpa using hh
            go_wp2_with fail
            exact ⟨⟨j + 1, by simp, by omega, KB.out⟩, by simp [intOf]; omega⟩
        · have hjn' : ¬ (j : Int) < (i : Int) := by omega
          have hmB := (BM.out.kept (kx.blk _ BM.out.lt trivial)).cell
          have RA2 := Lib.hid (RA.out.up kx)
          have BM2 := Lib.hid (BM.out.kept (kx.blk _ BM.out.lt trivial))
          have KX := Lib.hid kx
          clear kx
          have hacap : d.L.length ≤ ak := by
            obtain ⟨vs, _, p2, _⟩ := RA.out
            rcases p2.2 with ⟨e, _⟩ | ⟨g', cap', cur, e, _, _, hc, _⟩
            · cases e
            · cases e; exact hc
          obtain ⟨wC, rfl⟩ : ∃ wC, wC = wr := ⟨_, rfl⟩
          go_wp2_with fail
          clear hmB
          go_loopw [78] (fun t78 wr => ∃ k : Nat, t78 = .int .i64 k ∧ k ≤ d.L.length ∧ Kp (fun _ => True) wC wr) (fun t78 _ => d.L.length - (intOf t78).toNat)
          case atStart => exact ⟨0, rfl, Nat.zero_le _, Kp.rfl'⟩
          case round =>
            obtain ⟨k, rfl, hk, kx⟩ := hrel
            by_cases hkn : k < d.L.length
            · have hkn' : (k : Int) < (d.L.length : Int) := by omega
              have hka : (k : Int) ≤ (ak : Int) := by omega
              obtain ⟨x, hx⟩ : ∃ x, d.L[k]? = some x := ⟨d.L[k]'hkn, by simp⟩
              obtain ⟨u1, v1, A⟩ := (RA2.out.up kx).get hx
              have cx1 := A.cx
              obtain ⟨a0, a1, a2', a3, a4, a5, _⟩ := A
              have HX := Lib.hid hx
              clear hx
              go_upto_region 19 with fail
              have km : Kp (fun _ => True) wr (wr.alloc (.cells #[.int .i64 x.n, .int .i64 x.alt, .slice (some ⟨u1, 0, none⟩) 3 v1, .bool false, .bool false, .int .i64 (lhI x.n x.alt)] 40)) := Kp.alloc _ _
              have bm := Blk.new wr 40 #[.int .i64 x.n, .int .i64 x.alt, .slice (some ⟨u1, 0, none⟩) 3 v1, .bool false, .bool false, .int .i64 (lhI x.n x.alt)]
              obtain ⟨ob, hob⟩ : ∃ ob, ob = wr.heap.size := ⟨_, rfl⟩
              rw [← hob] at bm ⊢
              generalize wr.alloc (.cells #[.int .i64 x.n, .int .i64 x.alt, .slice (some ⟨u1, 0, none⟩) 3 v1, .bool false, .bool false, .int .i64 (lhI x.n x.alt)] 40) = wD at km bm ⊢
              have KD := Lib.hid (kx.trans km)
              have BO := Lib.hid bm
              have CX1 := Lib.hid (cx1.kept (Nat.le_refl _) (fun j _ _ hj => km.blk j (lt_of_block hj) trivial))
              have m3 : wD.cell? ⟨mb, 3, none⟩ = some (.slice (some ⟨a, 0, none⟩) d.L.length ak) := (BM2.out.kept (KD.out.blk _ BM2.out.lt trivial)).cell 3
              clear km bm cx1 kx a0 a1 a2' a3 a4 a5 hob
              go_wp2_with fail
              clear m3
              go_loopw [88] (fun t88 wr => ∃ j : Nat, t88 = .int .i64 j ∧ j ≤ k ∧ Kp (fun _ => True) wD wr) (fun t88 _ => k - (intOf t88).toNat)
              case atStart => exact ⟨0, rfl, Nat.zero_le _, Kp.rfl'⟩
              case round =>
                obtain ⟨j, rfl, hj, kx⟩ := hrel
                by_cases hjn : j < k
                · have hjn' : (j : Int) < (k : Int) := by omega
                  obtain ⟨y, hy⟩ : ∃ y, d.L[j]? = some y := ⟨d.L[j]'(by omega), by simp⟩
                  obtain ⟨u2, v2, A⟩ := (RA2.out.up (KD.out.trans kx)).get hy
                  have cx2 := A.cx
                  obtain ⟨a0, a1, a2', a3, a4, a5, _⟩ := A
                  have HY := Lib.hid hy
                  clear hy
                  go_upto_region 22 with fail
                  have km : Kp (fun _ => True) wr (wr.alloc (.cells #[.int .i64 y.n, .int .i64 y.alt, .slice (some ⟨u2, 0, none⟩) 3 v2, .bool false, .bool false, .int .i64 (lhI y.n y.alt)] 40)) := Kp.alloc _ _
                  have bm := Blk.new wr 40 #[.int .i64 y.n, .int .i64 y.alt, .slice (some ⟨u2, 0, none⟩) 3 v2, .bool false, .bool false, .int .i64 (lhI y.n y.alt)]
                  obtain ⟨pb, hpb⟩ : ∃ pb, pb = wr.heap.size := ⟨_, rfl⟩
                  rw [← hpb] at bm ⊢
                  generalize wr.alloc (.cells #[.int .i64 y.n, .int .i64 y.alt, .slice (some ⟨u2, 0, none⟩) 3 v2, .bool false, .bool false, .int .i64 (lhI y.n y.alt)] 40) = wE at km bm ⊢
                  have KE := Lib.hid (kx.trans km)
                  have CX2 := Lib.hid (cx2.kept (Nat.le_refl _) (fun j _ _ hj => km.blk j (lt_of_block hj) trivial))
                  have CX3 := Lib.hid (CX1.out.kept (Nat.le_refl _) (fun j _ _ hj => KE.out.blk j (lt_of_block hj) trivial))
                  have hcE := (BO.out.kept (KE.out.blk _ BO.out.lt trivial)).cell
                  have hdE := bm.cell
                  clear km bm cx2 kx a0 a1 a2' a3 a4 a5 hpb
                  by_cases hh : lhI x.n x.alt = lhI y.n y.alt
                  · have hmm := HO.out.2 d OK1.out x (List.mem_of_getElem? HX.out) y (List.mem_of_getElem? HY.out) hh
                    have AL := Lib.hid (alike_any x.n x.alt u1 v1 (lhI x.n x.alt) u2 v2 (lhI y.n y.alt) CX3.out CX2.out)
                    unfold cfgA at AL
                    rw [← hmm.1, ← hmm.2] at hdE AL ⊢
                    clear hmm hh
                    go_wp2_with (first | (go_at_call 22; refine AL.out.mono ?_; rintro e w9 ⟨rfl, k9⟩; have K9 := Lib.hid k9; clear k9))
                    exact ⟨⟨j + 1, by simp, by omega, KE.out.trans K9.out⟩, by simp [intOf]; omega⟩
                  · have hh1 : (lhI x.n x.alt == lhI y.n y.alt) = false := by simpa using hh
                    go_wp2_with fail
                    exact ⟨⟨j + 1, by simp, by omega, KE.out⟩, by simp [intOf]; omega⟩
                · have hjn' : ¬ (j : Int) < (k : Int) := by omega
                  have KX := Lib.hid kx
                  clear kx
                  go_wp2_with fail
                  exact ⟨⟨k + 1, by simp, by omega, KD.out.trans KX.out⟩, by simp [intOf]; omega⟩
            · have hkn' : ¬ (k : Int) < (d.L.length : Int) := by omega
              have KX2 := Lib.hid kx
              clear kx
              go_wp2_with fail
              exact ⟨⟨i + 1, by simp, by omega, (KA.out.trans KX.out).trans KX2.out⟩, by simp [intOf]; omega⟩
    · have hin' : ¬ (i : Int) < (ds.length : Int) := by omega
      have KF := Lib.hid (KW3.out.trans kx)
      clear kx
      go_wp2_with fail
      go_ret
      exact ⟨rfl, KF.out⟩
end Go.Proofs
end
section
namespace Go.Proofs
open Go.RowKit
open Pl
/-! ## the law, over its callees' contracts -/
/-- What is known behind a good list of rules: its network, and, of a tiny one, its hashes. -/
structure LawC (rv : Value) (rn : Nat) (s : ByteArray) (w : World) (N : Bd) (f : Nat) : Prop where
  nf : NetF N f
  st : ∀ d, DOk N f d → ∀ c ∈ d.L, 0 ≤ c.n ∧ c.n < N.st.length ∧ 1 ≤ c.alt ∧ c.alt ≤ rn
  few : ∀ d, DOk N f d → (ddC d.L).length ≤ 1000
  nx : ∀ V, Kp (fun _ => True) w V → Calls Tryz.prog 8 #[rv] V fun e v' => ∃ x : NetV, e = .returned x.val ∧ x.sn = N.st.length ∧ Kp (fun _ => True) V v' ∧ ∀ U, Kp (fun _ => True) v' U → Calls Tryz.prog 19 #[x.val] U fun e u' => NtRet N U e u'
  tiny : ∀ V, Kp (fun _ => True) w V → Calls Tryz.prog 10 #[rv, .string s] V fun e v' => ∃ t : Bool, e = .returned (.bool t) ∧ Kp (fun _ => True) V v' ∧ (t = true → HashOk N f)

/-- What the rules' turning and looking at leave. -/
def RuRet (s : ByteArray) (w : World) (e : Ending) (w' : World) : Prop :=
  ∃ (rb rn rc : Nat), e = .returned (.slice (some ⟨rb, 0, none⟩) rn rc) ∧ rn ≤ 4 ∧ Kp (fun _ => True) w w' ∧
    ∀ V, Kp (fun _ => True) w' V → Calls Tryz.prog 6 #[.slice (some ⟨rb, 0, none⟩) rn rc] V fun e v' => ∃ t : Bool, e = .returned (.bool t) ∧ Kp (fun _ => True) V v' ∧ (t = true → ∃ N f, LawC (.slice (some ⟨rb, 0, none⟩) rn rc) rn s v' N f)

theorem LawC.up {rv : Value} {rn : Nat} {s : ByteArray} {w w' : World} {N : Bd} {f : Nat} (h : LawC rv rn s w N f) (k : Kp (fun _ => True) w w') : LawC rv rn s w' N f :=
  ⟨h.nf, h.st, h.few, fun V hV => h.nx V (k.trans hV), fun V hV => h.tiny V (k.trans hV)⟩


theorem row_news {B : Nat} {e : TypeId} {sz n cap g : Nat} {xs : List Value} {W0 W : World} (h : W0.ownsRow B e sz (.slice (some ⟨g, 0, none⟩) n cap) n xs) (k : Kp (fun _ => True) W0 W) : ∀ j u, xs[j]? = some u → W.cell? ((⟨g, 0, none⟩ : Addr).add j) = some u := by
  intro j u hu
  have h0 := h.cells (g := g) rfl j u hu
  have e : (⟨g, 0, none⟩ : Addr).add j = ⟨g, j, none⟩ := by
    by_cases hi : j = 0
    · rw [hi]; rfl
    · simp only [Addr.add, hi]; simp
  rw [e] at h0 ⊢
  exact (World.cell?_of_block (k.blk g (cell_lt h0) trivial)).trans h0
theorem flatG_one {B : Nat} {w : World} {L : List Cf} {vs : List Value} (h : ∀ v ∈ vs, CxAt B w v) : ∀ u ∈ flatG L vs, u.oneCell' = true := by
  intro u hu
  obtain ⟨p, hp, hu⟩ := List.mem_flatMap.1 hu
  have hv := h p.2 (List.of_mem_zip hp).2
  obtain ⟨g, c, e, _⟩ := own_form hv (by omega)
  simp only [cfgV, List.mem_cons, List.not_mem_nil, or_false] at hu
  rcases hu with rfl | rfl | rfl | rfl | rfl | rfl <;> first | rfl | (rw [e]; rfl)
theorem flatG_cat {L M : List Cf} {vs us : List Value} (h : vs.length = L.length) : flatG (L ++ M) (vs ++ us) = flatG L vs ++ flatG M us := by
  unfold flatG
  rw [List.zip_append h.symm, List.flatMap_append]
theorem SC38 {w6 W : World} {cb : Nat} {a b c d : Value} (b6 : Blk w6 cb 38 #[a, b, c, d]) (k : Kp (fun k => k < w6.heap.size) w6 W) : W.cell? ⟨cb, 2, none⟩ = some c ∧ W.cell? ⟨cb, 3, none⟩ = some d := by
  have b7 := b6.kept (k.blk _ b6.lt b6.lt)
  exact ⟨b7.cell 2, b7.cell 3⟩

set_option maxRecDepth 100000 in
set_option maxHeartbeats 4000000 in
theorem fn_any {w : World} (la : Option Addr) (ln lc : Nat) (s : ByteArray)
    (h4 : Calls Tryz.prog 4 #[.slice la ln lc, .slice none 0 0, .string s] w fun e w' => ∃ t : Bool, e = .returned (.bool t) ∧ Kp (fun _ => True) w w' ∧ (t = true → ∀ V, Kp (fun _ => True) w' V → Calls Tryz.prog 5 #[.slice la ln lc] V fun e v' => RuRet s V e v'))
    (h7 : ∀ V, Calls Tryz.prog 7 #[.string s] V fun e v' => ∃ t : Bool, e = .returned (.bool t) ∧ v' = V ∧ (t = true → s.size ≤ 60)) :
    Calls Tryz.prog 3 #[.slice la ln lc, .string s] w fun e w' => e = .returned (.bool true) ∧ Kp (fun _ => True) w w' := by
  have H4 := Lib.hid h4
  have H7 := Lib.hid h7
  clear h4 h7
  by_cases hl : (2147483647 : Int) < (ln : Int)
  · go_enter Tryz.func3, Tryz.ntmps3
    go_wp2
    go_ret
    exact ⟨rfl, Kp.rfl'⟩
  · by_cases hs : (2147483647 : Int) < (s.size : Int)
    · go_enter Tryz.func3, Tryz.ntmps3
      go_wp2
      go_ret
      exact ⟨rfl, Kp.rfl'⟩
    · go_enter Tryz.func3, Tryz.ntmps3
      go_wp2_with (first | (go_at_call 4; refine H4.out.mono ?_; rintro e w2 ⟨t, rfl, k2, h5⟩; have H5 := Lib.hid h5; have K2 := Lib.hid k2; clear h5 k2; cases t))
      · go_ret
        exact ⟨rfl, K2.out⟩
      · go_wp2_with (first | (go_at_call 5; refine (H5.out (by simp) _ Kp.rfl').mono ?_; rintro e w3 ⟨rb, rn, rc, rfl, hrn, k3, h6⟩; have H6 := Lib.hid h6; have K3 := Lib.hid k3; clear h6 k3) | (go_at_call 6; refine (H6.out _ Kp.rfl').mono ?_; rintro e w4 ⟨t, rfl, k4, hlaw⟩; have LW := Lib.hid hlaw; have K4 := Lib.hid k4; clear hlaw k4; cases t) | (go_at_call 7; refine (H7.out _).mono ?_; rintro e w5 ⟨t7, rfl, rfl, hs7⟩; cases t7))
        · go_ret
          exact ⟨rfl, (K2.out.trans K3.out).trans K4.out⟩
        · go_ret
          exact ⟨rfl, (K2.out.trans K3.out).trans K4.out⟩
        · have K234 := Lib.hid ((K2.out.trans K3.out).trans K4.out)
          obtain ⟨N, f, L⟩ := LW.out (by simp)
          have hs60 := hs7 (by simp)
          have LN := Lib.hid (L.nx _ Kp.rfl')
          have LL := Lib.hid L
          clear L
          have HST := Lib.hid LL.out.st
          go_wp2_with (first | (go_at_call 8; refine LN.out.mono ?_; rintro e w6 ⟨x, rfl, hxn, k6, hx⟩; have HX := Lib.hid hx; have K6 := Lib.hid k6; have HXN := Lib.hid hxn; clear hx k6 hxn; unfold NetV.val) | (go_at_call 9; refine (states_any LL.out.nf x (fun W hW => HX.out W ((Kp.alloc _ _).trans hW)) s hs60).mono ?_; rintro e w7 ⟨sl, ds, rfl, hmr, hd1, hd2, hdk, k7⟩; obtain ⟨mg, mgc, hsl, _⟩ := own_form hmr.choose_spec.2.1 (by omega); subst hsl; have MR := Lib.hid hmr; have DK := Lib.hid hdk; have K7 := Lib.hid k7; clear hmr hdk k7))
          clear LN H4 H5 H6
          have lnB : w6.heap.size < w7.heap.size := Nat.lt_of_lt_of_le (by simp) K7.out.size
          have BX : Hid (Blk w7 w6.heap.size 32 #[.int .i64 x.mt, .slice (some ⟨x.sB, 0, none⟩) x.sn x.sc, .slice (some ⟨x.aB, 0, none⟩) x.an x.ac, .slice (some ⟨x.kB, 0, none⟩) x.kn x.kc, .slice (some ⟨x.eB, 0, none⟩) x.en x.ec, .slice (some ⟨x.dB, 0, none⟩) x.dn x.dc]) := Lib.hid ((Blk.new w6 32 _).kept (K7.out.blk _ (by simp) trivial))
          go_loopw [41] (fun t41 wr => ∃ i : Nat, t41 = .int .i64 i ∧ i ≤ ds.length ∧ Kp (fun _ => True) w7 wr) (fun t41 _ => ds.length - (intOf t41).toNat)
          case atStart => exact ⟨0, rfl, Nat.zero_le _, Kp.rfl'⟩
          case round =>
            obtain ⟨i, rfl, hi, kx⟩ := hrel
            by_cases hin : i < ds.length
            · have hin' : (i : Int) < (ds.length : Int) := by omega
              obtain ⟨d, hd⟩ : ∃ d, ds[i]? = some d := ⟨ds[i]'hin, by simp⟩
              have hok := DK.out d (List.mem_of_getElem? hd)
              have hbnd := HST.out d hok
              obtain ⟨c, ck, a, ak, E⟩ := (MR.out.up kx).get hd hok.2.1
              have e0 := E.e0
              have e1 := E.e1
              have e2 := E.e2
              have e3 := E.e3
              have hcap' : (i : Int) ≤ (mgc : Int) := by
                obtain ⟨ps, p1, p2, p3⟩ := MR.out
                rcases p2.2 with ⟨e, _⟩ | ⟨g', cap', cur, e, _, _, hc, _⟩
                · cases e
                · cases e; omega
              have hlq : d.L.length ≤ 1600000000000 := by
                obtain ⟨h1, _, v, h2, _⟩ := hok
                have := met_len LL.out.nf h1
                have := h2.len
                omega
              have hlc : (ddC d.L).length ≤ 1000 := LL.out.few d hok
              have hn1 : 0 < d.L.length := List.length_pos_iff.2 hok.2.1
              have hn2 : 0 < (ddC d.L).length := List.length_pos_iff.2 (ddC_ne hok.2.1)
              have HE := Lib.hid E
              have KX := Lib.hid kx
              have HB := Lib.hid hbnd
              clear E kx hok hbnd
              go_upto_region 13 with fail
              have km : Kp (fun _ => True) wr (wr.alloc (.cells #[.int .i64 0, .int .i64 (dfaHashL (ddC d.L)), .slice (some ⟨c, 0, none⟩) (ddC d.L).length ck, .slice (some ⟨a, 0, none⟩) d.L.length ak] 38)) := Kp.alloc _ _
              have bm := Blk.new wr 38 #[.int .i64 0, .int .i64 (dfaHashL (ddC d.L)), .slice (some ⟨c, 0, none⟩) (ddC d.L).length ck, .slice (some ⟨a, 0, none⟩) d.L.length ak]
              obtain ⟨mb, hmb⟩ : ∃ mb, mb = wr.heap.size := ⟨_, rfl⟩
              rw [← hmb] at bm ⊢
              generalize wr.alloc (.cells #[.int .i64 0, .int .i64 (dfaHashL (ddC d.L)), .slice (some ⟨c, 0, none⟩) (ddC d.L).length ck, .slice (some ⟨a, 0, none⟩) d.L.length ak] 38) = wA at km bm ⊢
              have KA := Lib.hid (KX.out.trans km)
              have BM := Lib.hid bm
              obtain ⟨vc, c1, c2, c3⟩ := HE.out.rc.up km
              obtain ⟨va, a1, a2, a3⟩ := HE.out.ra.up km
              have C2 := Lib.hid c2
              have C3 := Lib.hid c3
              have A2 := Lib.hid a2
              have A3 := Lib.hid a3
              clear km bm HE e0 e1 e2 e3 hmb c2 c3 a2 a3
              obtain ⟨wC, rfl⟩ : ∃ wC, wC = wr := ⟨_, rfl⟩
              obtain ⟨i4, hi4, hv0, hv1, hv2⟩ := info_parts info40
              go_region_held3 (fun w' => w'.cell? ⟨mb, 2, none⟩ = some (.slice (some ⟨c, 0, none⟩) (ddC d.L).length ck) ∧ w'.cell? ⟨mb, 3, none⟩ = some (.slice (some ⟨a, 0, none⟩) d.L.length ak))
                ((first | (refine SC38 BM.out ?_; first | (with_reducible exact Kp.drew _) | (with_reducible exact (Kp.alloc _ _).trans (Kp.drew _)) | (with_reducible exact k61) | (with_reducible exact k62)))) 
                (first | (refine step_append_lies _ (by rfl) _ _ _ (by rfl) wA.heap.size 40 i4 _ 6 56 Tryz.underlying36 hi4 hv0 hv1 hv2 rfl (by omega) (.slice (some ⟨wA.heap.size, 0, none⟩) 0 0) 0 [] (by rfl) (own_nil wA _ (Nat.le_refl _) 40 6) ⟨c, 0, none⟩ (ddC d.L).length ck (flatG (ddC d.L) vc) (by rfl) C2.out.1 (row_news C2.out ((Kp.alloc _ _).trans (Kp.drew _))) (flatG_one C3.out) hn2 (by simp [maxLen]; omega) (by omega) (by simp) (wA.heap.size + 1) (by simp) ?_; intro g1 cap1 w1; rw [Nat.zero_add, List.nil_append]; intro hown1 hgrow1 hat1 hlt1; have k61 : Kp (fun k => k < wA.heap.size) wA w1 := ((Kp.alloc _ _).trans (Kp.drew _)).trans (Kp.grown hgrow1 (fun k hk e => by simp [Value.ownBlock] at e; omega)); have KT1 : Hid (Kp (fun _ => True) wA w1) := Lib.hid ⟨⟨k61.so.os, k61.so.out⟩, k61.size, fun j hj _ => k61.blk j hj hj⟩; have O1 := Lib.hid hown1; have K61 := Lib.hid k61; have lw1 : wA.heap.size ≤ w1.heap.size := k61.size; clear hown1 hgrow1 hat1 hlt1) | (refine step_append_lies _ (by rfl) _ _ _ (by rfl) wA.heap.size 40 i4 _ 6 56 Tryz.underlying36 hi4 hv0 hv1 hv2 rfl (by omega) (.slice (some ⟨g1, 0, none⟩) (ddC d.L).length cap1) (ddC d.L).length (flatG (ddC d.L) vc) (by rfl) O1.out ⟨a, 0, none⟩ d.L.length ak (flatG d.L va) (by rfl) A2.out.1 (row_news A2.out KT1.out) (flatG_one A3.out) hn1 (by simp [maxLen]; omega) (by omega) (by omega) w1.heap.size rfl ?_; intro g2 cap2 w2 hown2 hgrow2 hat2 hlt2; have k62 : Kp (fun k => k < wA.heap.size) wA w2 := K61.out.trans (Kp.grown hgrow2 (fun k hk e => by have := (own_blk O1.out e.symm).1; omega)); have RW := Lib.hid hown2; have K62 := Lib.hid k62; clear hgrow2 hat2 hlt2 hown2))
              all_goals
                have RWL : Hid (CfgRow2 (w6.alloc (.cells #[.int .i64 x.mt, .slice (some ⟨x.sB, 0, none⟩) x.sn x.sc, .slice (some ⟨x.aB, 0, none⟩) x.an x.ac, .slice (some ⟨x.kB, 0, none⟩) x.kn x.kc, .slice (some ⟨x.eB, 0, none⟩) x.en x.ec, .slice (some ⟨x.dB, 0, none⟩) x.dn x.dc] 32)).heap.size w2 (.slice (some ⟨g2, 0, none⟩) ((ddC d.L).length + d.L.length) cap2) (ddC d.L ++ d.L)) := by
                  refine Lib.hid ⟨vc ++ va, by simp [c1, a1], ?_, fun v hv => ?_⟩
                  · rw [List.length_append, flatG_cat c1]
                    exact own_low RW.out (Nat.le_trans K7.out.size KA.out.size)
                  · rcases List.mem_append.1 hv with hv | hv
                    · exact (C3.out v hv).kept (Nat.le_refl _) (fun j c _ hj => K62.out.blk j (lt_of_block hj) (lt_of_block hj))
                    · exact (A3.out v hv).kept (Nat.le_refl _) (fun j c _ hj => K62.out.blk j (lt_of_block hj) (lt_of_block hj))
                have K72 : Hid (Kp (fun _ => True) w7 w2) := Lib.hid (KA.out.trans ⟨⟨K62.out.so.os, K62.out.so.out⟩, K62.out.size, fun j hj _ => K62.out.blk j hj hj⟩)
                have HBT : Hid (∀ y ∈ ddC d.L ++ d.L, 0 ≤ y.n ∧ y.n < (N.st.length : Int) ∧ 1 ≤ y.alt ∧ y.alt ≤ (rn : Int)) := Lib.hid (fun y hy => HB.out y ((List.mem_append.1 hy).elim ddC_mem id))
                obtain ⟨T, hT⟩ : ∃ T, T = ddC d.L ++ d.L := ⟨_, rfl⟩
                have hTl : (ddC d.L).length + d.L.length = T.length := by rw [hT, List.length_append]
                rw [← hT] at RWL HBT
                simp only [hTl] at RWL ⊢
                have hTq : T.length ≤ 2000000000000 := by omega
                have HTC : Hid (((ddC d.L).length : Int) + (d.L.length : Int) = (T.length : Int)) := Lib.hid (by omega)
                clear hTl hT RW K62 C2 C3 A2 A3 BM HB KT1 O1 K61 lw1 KX KA
              all_goals go_wp2_with fail
              all_goals
                simp only [HTC.out]
                go_loopw [53] (fun t53 wr => ∃ j : Nat, t53 = .int .i64 j ∧ j ≤ T.length ∧ Kp (fun _ => True) w2 wr) (fun t53 _ => T.length - (intOf t53).toNat)
                case atStart => exact ⟨0, rfl, Nat.zero_le _, Kp.rfl'⟩
                case round =>
                  obtain ⟨j, rfl, hj, ky⟩ := hrel
                  by_cases hjn : j < T.length
                  · have hjn' : (j : Int) < (T.length : Int) := by omega
                    obtain ⟨y, hy⟩ : ∃ y, T[j]? = some y := ⟨T[j]'hjn, by simp⟩
                    obtain ⟨b0, b1, b2, b3⟩ := HBT.out y (List.mem_of_getElem? hy)
                    obtain ⟨u, v, F⟩ := (RWL.out.up ky).get hy
                    have bx := (BX.out.kept ((K72.out.trans ky).blk _ lnB trivial)).cell 1
                    obtain ⟨f0, f1, f2, f3, f4, f5, _⟩ := F
                    have hcap2 : (j : Int) ≤ (cap2 : Int) := by
                      obtain ⟨ps, p1, p2, p3⟩ := RWL.out
                      rcases p2.2 with ⟨e, _⟩ | ⟨g', cap', cur, e, _, _, hc, _⟩
                      · cases e
                      · cases e; omega
                    have KY := Lib.hid ky
                    clear ky
                    go_upto_region 16 with fail
                    have km : Kp (fun _ => True) wr (wr.alloc (.cells #[.int .i64 y.n, .int .i64 y.alt, .slice (some ⟨u, 0, none⟩) 3 v, .bool false, .bool false, .int .i64 (lhI y.n y.alt)] 40)) := Kp.alloc _ _
                    have bm := Blk.new wr 40 #[.int .i64 y.n, .int .i64 y.alt, .slice (some ⟨u, 0, none⟩) 3 v, .bool false, .bool false, .int .i64 (lhI y.n y.alt)]
                    obtain ⟨nb, hnb⟩ : ∃ nb, nb = wr.heap.size := ⟨_, rfl⟩
                    have bx2 := (World.cell?_of_block (km.blk _ (cell_lt bx) trivial)).trans bx
                    rw [← hnb] at bm ⊢
                    generalize wr.alloc (.cells #[.int .i64 y.n, .int .i64 y.alt, .slice (some ⟨u, 0, none⟩) 3 v, .bool false, .bool false, .int .i64 (lhI y.n y.alt)] 40) = wN at km bm bx2 ⊢
                    have n0 : wN.cell? ⟨nb, 0, none⟩ = some (.int .i64 y.n) := bm.cell 0
                    have n1 : wN.cell? ⟨nb, 1, none⟩ = some (.int .i64 y.alt) := bm.cell 1
                    have KN := Lib.hid (KY.out.trans km)
                    have hx0 := HXN.out
                    have g0 : ¬ y.n < 0 := by omega
                    have g1' : ¬ (x.sn : Int) ≤ y.n := by omega
                    have g2' : ¬ y.alt < 1 := by omega
                    have g3' : ¬ (rn : Int) < y.alt := by omega
                    clear km bm bx f0 f1 f2 f3 f4 f5 hnb b0 b1 b2 b3 hx0
                    go_wp2_with fail
                    exact ⟨⟨j + 1, by simp, by omega, KN.out⟩, by simp [intOf]; omega⟩
                  · have hjn' : ¬ (j : Int) < (T.length : Int) := by omega
                    go_wp2_with fail
                    exact ⟨⟨i + 1, by simp, by omega, K72.out.trans ky⟩, by simp [intOf]; omega⟩
            · have hin' : ¬ (i : Int) < (ds.length : Int) := by omega
              have hd0 : (0 : Int) < (ds.length : Int) := by omega
              have hd3 : ¬ ds.length = 0 := by omega
              have hd4 : 0 < ds.length := by omega
              have KW := Lib.hid (((K6.out.trans (Kp.alloc _ _)).trans K7.out).trans kx)
              clear kx
              go_wp2_with (first | (go_at_call 10; refine (LL.out.tiny _ KW.out).mono ?_; rintro e w8 ⟨t, rfl, k8, hho⟩; have HHO := Lib.hid hho; have K8 := Lib.hid k8; clear hho k8; cases t) | (go_at_call 11; refine (apart_any LL.out.nf (HHO.out (by simp)) _ ((LL.out.nx _ (KW.out.trans K8.out)).mono (fun e w' ⟨x, h1, _, h3, h4⟩ => ⟨x, h1, h3, h4⟩)) s hs60).mono ?_; rintro e w9 ⟨rfl, k9⟩; have K9 := Lib.hid k9; clear k9))
              all_goals go_ret
              all_goals first
                | exact ⟨rfl, ((K234.out.trans KW.out).trans K8.out).trans K9.out⟩
                | exact ⟨rfl, (K234.out.trans KW.out).trans K8.out⟩
end Go.Proofs
end
