/- A part of the proof of the statement on the law FnStates, which the last text proves: part G08. -/
import Derived.Test.YtlceacefhnllbaaGreatDoorG07
set_option linter.all false
section
namespace Go.Proofs
open Go.RowKit
open Pl
/-- It returned a state that is known, and a truth value. -/
def DRet (g : GS) (e : Ending) : Prop := ∃ (d : DS) (ex : Bool), e = .returned (.tuple #[d.ptr, .bool ex]) ∧ g.ty d.b = some (.proper d)

theorem dH1d (a : Addr) (w : World) : (method 715 400 (.pointer (some a)) "Hash1").run Tryz.prog w = .ok (362, .pointer (some a)) w := by kernel_rfl
theorem dE2d (a : Addr) (w : World) : (method 715 400 (.pointer (some a)) "Equals2").run Tryz.prog w = .ok (361, .pointer (some a)) w := by kernel_rfl

theorem lookup_mem {h : Int} {u : Value} : ∀ {kvs : List (Int × Value)}, kvs.lookup h = some u → (h, u) ∈ kvs
  | [], e => by simp at e
  | (a, b) :: r, e => by
    rw [List.lookup_cons] at e
    by_cases hk : h = a
    · subst hk; simp at e; subst e; simp
    · have h3 : (h == a) = false := by simpa using hk
      rw [h3] at e
      exact List.mem_cons_of_mem _ (lookup_mem e)

/-- The bucket that stands under a hash, or none. -/
theorem JsAt.bucket {w : World} {g : GS} {j : JG} (h : JsAt w g j) (k : Int) : ∃ (ds : List DS) (a : Option Addr) (cap : Nat), (j.kvs.lookup k).getD (.slice none 0 0) = .slice a ds.length cap ∧
    w.ownsRow 0 139 1 (.slice a ds.length cap) ds.length (ds.map DS.ptr) ∧ (∀ d ∈ ds, g.ty d.b = some (.proper d)) ∧ ds.length ≤ j.cnt ∧ (∀ i d, ds[i]? = some d → ∃ gb, a = some ⟨gb, 0, none⟩ ∧ w.cell? ⟨gb, i, none⟩ = some d.ptr) := by
  cases hl : j.kvs.lookup k with
  | none => exact ⟨[], none, 0, rfl, ⟨rfl, .inl ⟨rfl, rfl⟩⟩, fun d hd => by simp at hd, by simp, fun i d hd => by simp at hd⟩
  | some u =>
    obtain ⟨ds, h1, h2, h3, h4⟩ := h.bks _ (lookup_mem hl)
    obtain ⟨gb, cap, e1, e2⟩ := own_form h2 (fun e => h1 (List.eq_nil_of_length_eq_zero e))
    simp only at e1
    subst e1
    exact ⟨ds, _, cap, rfl, h2, h3, h4, fun i d hd => ⟨gb, rfl, own_cell h2 i _ (by rw [List.getElem?_map, hd]; rfl)⟩⟩

set_option maxRecDepth 100000 in
set_option maxHeartbeats 2000000 in
theorem jget_any {B0 : Nat} {w : World} {N : Bd} {v : AV} {f : Nat} {g : GS} (h : LX B0 w N v f g) (j : JG) (hj : g.js = some j) (d : DS) (hd : g.ty d.b = some (.proper d)) :
    Calls Tryz.prog 168 #[.pointer (some ⟨j.jB, 0, none⟩), d.ptr] w fun e w' => DRet g e ∧ LX B0 w' N v f g ∧ Fm w g w' g := by
  have hc := (h.js j hj).blk.cell
  have H := Lib.hid h
  have d1 := fun a w => dH1d a w
  have d2 := fun a w => dE2d a w
  unfold DS.ptr
  clear h
  go_enter Tryz.func168, Tryz.ntmps168
  go_wp2_with (first | (go_at_call 362; refine (hash1_lx _ H.out d hd).mono ?_; rintro e w1 ⟨rfl, h1, f1⟩; have J1 := Lib.hid (h1.js j hj); have hc1 := J1.out.blk.cell; obtain ⟨ds, ba, bc, hb0, hb1, hb2, hb3, hb4⟩ := J1.out.bucket (dfaHashL (ddC d.L)); have hb3 : ds.length ≤ 1000000 := Nat.le_trans hb3 (Nat.le_trans J1.out.cnt h1.few); have hlk := run_lookupI w1 461 137 Tryz.underlying461 Tryz.underlying3 (.slice none 0 0) rfl j.mB j.kvs J1.out.map (dfaHashL (ddC d.L)); rw [hb0] at hlk; have hb0' := Lib.hid hb0; have hb4' := Lib.hid hb4; have hb2' := Lib.hid hb2; have h1' := Lib.hid h1; have hd' := Lib.hid hd; clear hb0 hb4 hb2 h1 hd))
  go_loopw [22] (fun i wr => ∃ (k n : Nat), k ≤ ds.length ∧ i = .int .i64 k ∧ wr = w1.drewN n) (fun i _ => ds.length - (intOf i).toNat)
  case atStart => exact ⟨0, 0, Nat.zero_le _, rfl, rfl⟩
  case round =>
    obtain ⟨k, n, hk, rfl, rfl⟩ := hrel
    by_cases hkl : k < ds.length
    · obtain ⟨dk, hdk⟩ : ∃ dk, ds[k]? = some dk := ⟨_, List.getElem?_eq_getElem hkl⟩
      obtain ⟨gb, rfl, hcell⟩ := hb4'.out k dk hdk
      unfold DS.ptr at hcell
      have hdp := Lib.hid (hb2'.out dk (List.mem_of_getElem? hdk))
      have h2' := Lib.hid (h1'.out.drewN n)
      clear hdk
      go_wp2_with (first | (go_at_call 361; refine (eq2_lx _ h2'.out d dk hd'.out hdp.out).mono ?_; rintro e w3 ⟨⟨r, rfl⟩, n3, rfl⟩))
      all_goals first
        | (go_ret2; exact ⟨⟨dk, true, by simp [DS.ptr], hdp.out⟩, h1'.out.drewN _, f1.trans (Fm.drewN _ _ _)⟩)
        | exact ⟨⟨k + 1, n + n3, by omega, by simp, by simp⟩, by simp [intOf]; omega⟩
    · obtain rfl : k = ds.length := by omega
      go_wp2
      go_ret2
      exact ⟨⟨d, false, by simp [DS.ptr], hd'.out⟩, h1'.out.drewN n, f1.trans (Fm.drewN _ _ n)⟩
end Go.Proofs
end
section
namespace Go.Proofs
open Go.RowKit
open Pl
theorem upK_split (k : Int) (u v : Value) : ∀ kvs : List (Int × Value), kvs.lookup k = some u → ∃ pre post, kvs = pre ++ (k, u) :: post ∧ upK k v kvs = pre ++ (k, v) :: post
  | [], h => by simp at h
  | (a, b) :: r, h => by
    rw [List.lookup_cons] at h
    by_cases hk : k = a
    · subst hk
      simp at h; subst h
      exact ⟨[], r, rfl, by simp [upK]⟩
    · have h3 : (k == a) = false := by simpa using hk
      rw [h3] at h
      obtain ⟨pre, post, e1, e2⟩ := upK_split k u v r h
      exact ⟨(a, b) :: pre, post, by rw [e1]; rfl, by simp [upK, Ne.symm hk, e2]⟩
theorem upK_none (k : Int) (v : Value) : ∀ kvs : List (Int × Value), kvs.lookup k = none → upK k v kvs = kvs ++ [(k, v)]
  | [], _ => rfl
  | (a, b) :: r, h => by
    rw [List.lookup_cons] at h
    by_cases hk : k = a
    · subst hk; simp at h
    · have h3 : (k == a) = false := by simpa using hk
      rw [h3] at h
      simp [upK, Ne.symm hk, upK_none k v r h]
/-- A store's list with one value changed or put: the others' rows stay apart from it. -/
theorem upK_apart (k : Int) (u v : Value) (kvs : List (Int × Value)) (hu : kvs.lookup k = some u ∨ (kvs.lookup k = none ∧ u.ownBlock = none)) (hs : ∀ x ∈ kvs, x.2.ownBlock ≠ none) (pw : kvs.Pairwise (fun a b => a.2.ownBlock ≠ b.2.ownBlock)) :
    (∀ x ∈ upK k v kvs, x = (k, v) ∨ (x ∈ kvs ∧ x.2.ownBlock ≠ u.ownBlock)) ∧ ((∀ x ∈ kvs, x.2.ownBlock ≠ u.ownBlock → x.2.ownBlock ≠ v.ownBlock) → (upK k v kvs).Pairwise (fun a b => a.2.ownBlock ≠ b.2.ownBlock)) := by
  rcases hu with h | ⟨h, hn⟩
  · obtain ⟨pre, post, e1, e2⟩ := upK_split k u v kvs h
    rw [e2]
    subst e1
    rw [List.pairwise_append, List.pairwise_cons] at pw
    obtain ⟨p1, ⟨p2, p3⟩, p4⟩ := pw
    refine ⟨fun x hx => ?_, fun hv => ?_⟩
    · rcases List.mem_append.1 hx with hx | hx
      · exact .inr ⟨by simp [hx], p4 x hx (k, u) (by simp)⟩
      · rcases List.mem_cons.1 hx with rfl | hx
        · exact .inl rfl
        · exact .inr ⟨by simp [hx], fun e => p2 x hx e.symm⟩
    · rw [List.pairwise_append, List.pairwise_cons]
      refine ⟨p1, ⟨fun y hy e => hv y (by simp [hy]) (fun e' => p2 y hy e'.symm) e.symm, p3⟩, fun x hx y hy => ?_⟩
      rcases List.mem_cons.1 hy with rfl | hy
      · exact hv x (by simp [hx]) (p4 x hx (k, u) (by simp))
      · exact p4 x hx y (by simp [hy])
  · rw [upK_none k v kvs h]
    refine ⟨fun x hx => ?_, fun hv => ?_⟩
    · rcases List.mem_append.1 hx with hx | hx
      · exact .inr ⟨hx, by rw [hn]; exact hs x hx⟩
      · exact .inl (List.mem_singleton.1 hx)
    · rw [List.pairwise_append]
      refine ⟨pw, by simp, fun x hx y hy => ?_⟩
      rw [List.mem_singleton.1 hy]
      exact hv x hx (by rw [hn]; exact hs x hx)

theorem JsAt.bsome {w : World} {g : GS} {j : JG} (h : JsAt w g j) : ∀ x ∈ j.kvs, x.2.ownBlock ≠ none := by
  intro x hx
  obtain ⟨ds, h1, h2, _⟩ := h.bks x hx
  obtain ⟨gb, cap, e1, e2⟩ := own_form h2 (fun e => h1 (List.eq_nil_of_length_eq_zero e))
  rw [e2]; simp
theorem JsAt.ne {w : World} {g : GS} {j : JG} (h : JsAt w g j) : j.jB ≠ j.mB ∧ (∀ x ∈ j.kvs, x.2.ownBlock ≠ some j.jB ∧ x.2.ownBlock ≠ some j.mB) := by
  have hb := h.blk
  obtain ⟨es, c, hm, _⟩ := h.map
  unfold Blk at hb
  refine ⟨fun e => by rw [e, hm] at hb; simp at hb, fun x hx => ?_⟩
  obtain ⟨ds, _, ho, _⟩ := h.bks x hx
  constructor
  · intro e; obtain ⟨_, _, c, hc⟩ := own_blk ho e; rw [hb] at hc; simp at hc
  · intro e; obtain ⟨_, _, c, hc⟩ := own_blk ho e; rw [hm] at hc; simp at hc

/-- A state is put into the store. -/
theorem LX.jput {B0 : Nat} {w w' : World} {N : Bd} {v : AV} {f : Nat} {g : GS} (h : LX B0 w N v f g) (j : JG) (hj : g.js = some j) (d : DS) (hd : g.ty d.b = some (.proper d)) (key : Int) (ds : List DS) (u : Value)
    (hu : j.kvs.lookup key = some u ∨ (j.kvs.lookup key = none ∧ u.ownBlock = none)) (hds : ∀ d ∈ ds, g.ty d.b = some (.proper d)) (hdl : ds.length ≤ j.cnt) (hc : j.cnt + 1 ≤ g.asked.length) {gg cap' : Nat} {len' : Int}
    (kp : Kp (fun k => k ≠ j.jB ∧ k ≠ j.mB ∧ u.ownBlock ≠ some k) w w') (blk' : Blk w' j.jB 465 #[.map (some j.mB), .int .i64 len', .iface 400 (.pointer (some j.cmp))])
    (map' : MapI w' j.mB (upK key (.slice (some ⟨gg, 0, none⟩) (ds.length + 1) cap') j.kvs))
    (own' : w'.ownsRow 0 139 1 (.slice (some ⟨gg, 0, none⟩) (ds.length + 1) cap') (ds.length + 1) (ds.map DS.ptr ++ [d.ptr])) (hat : u.ownBlock = some gg ∨ w.heap.size ≤ gg) :
    LX B0 w' N v f { g with js := some { j with len := len', kvs := upK key (.slice (some ⟨gg, 0, none⟩) (ds.length + 1) cap') j.kvs, cnt := j.cnt + 1 } } ∧
    Fm w g w' { g with js := some { j with len := len', kvs := upK key (.slice (some ⟨gg, 0, none⟩) (ds.length + 1) cap') j.kvs, cnt := j.cnt + 1 } } := by
  have J := h.js j hj
  obtain ⟨a1, a2⟩ := upK_apart key u (.slice (some ⟨gg, 0, none⟩) (ds.length + 1) cap') j.kvs hu J.bsome J.pw
  have hnv : (Value.slice (some ⟨gg, 0, none⟩) (ds.length + 1) cap').ownBlock = some gg := rfl
  have oldj : ∀ k, u.ownBlock = some k → g.jown k := fun k hk => by
    rcases hu with hu | ⟨_, hn⟩
    · exact ⟨j, hj, .inr (.inr ⟨_, lookup_mem hu, hk⟩)⟩
    · rw [hn] at hk; cases hk
  have hgg : g.jown gg ∨ w.heap.size ≤ gg := hat.imp (oldj gg) id
  have hjD : ∀ k, (k = j.jB ∨ k = j.mB ∨ u.ownBlock = some k) → g.jown k := fun k hk => by
    rcases hk with e | e | e
    · exact ⟨j, hj, .inl e⟩
    · exact ⟨j, hj, .inr (.inl e)⟩
    · exact oldj k e
  have hjN : ∀ k, ({ g with js := some { j with len := len', kvs := upK key (.slice (some ⟨gg, 0, none⟩) (ds.length + 1) cap') j.kvs, cnt := j.cnt + 1 } } : GS).jown k → g.jown k ∨ w.heap.size ≤ k := by
    rintro k ⟨j', e, hk⟩
    cases e
    rcases hk with e | e | ⟨x, hx, e⟩
    · exact .inl ⟨j, hj, .inl e⟩
    · exact .inl ⟨j, hj, .inr (.inl e)⟩
    · rcases a1 x hx with rfl | ⟨hx', _⟩
      · rw [hnv] at e; cases e; exact hgg
      · exact .inl ⟨j, hj, .inr (.inr ⟨x, hx', e⟩)⟩
  have askb : ∀ k, g.ask.ownBlock = some k → ¬ (k = j.jB ∨ k = j.mB ∨ u.ownBlock = some k) := fun k hk hx => (h.apA k hk).2 (hjD k hx)
  refine h.roots { g with js := some { j with len := len', kvs := upK key (.slice (some ⟨gg, 0, none⟩) (ds.length + 1) cap') j.kvs, cnt := j.cnt + 1 } } rfl rfl rfl (fun k => k = j.jB ∨ k = j.mB ∨ u.ownBlock = some k)
    (kp.weak (fun k hk => ⟨fun e => hk (.inl e), fun e => hk (.inr (.inl e)), fun e => hk (.inr (.inr e))⟩)) (fun k hk => .inr (.inr (hjD k hk))) ?_ h.s0 ?_ h.askd h.few ?_ ?_ ?_
  · have : dfaK g = dfaK { g with js := some { j with len := len', kvs := upK key (.slice (some ⟨gg, 0, none⟩) (ds.length + 1) cap') j.kvs, cnt := j.cnt + 1 } } := by
      unfold dfaK; rw [hj]; rfl
    rw [← this]
    refine h.dfa.kept (kp.blk _ h.dfa.lt ?_)
    have := h.apD.2.1
    exact ⟨fun e => this (hjD _ (.inl e)), fun e => this (hjD _ (.inr (.inl e))), fun e => this (hjD _ (.inr (.inr e)))⟩
  · exact own_kept' h.ask (fun k hk => kp.blk k (own_blk h.ask hk).2.1 ⟨fun e => askb k hk (.inl e), fun e => askb k hk (.inr (.inl e)), fun e => askb k hk (.inr (.inr e))⟩)
  · intro j' e
    cases e
    refine ⟨blk', map', fun x hx => ?_, a2 (fun x hx hne => ?_), hc⟩
    · rcases a1 x hx with rfl | ⟨hx', hne⟩
      · refine ⟨ds ++ [d], by simp, ?_, ?_, ?_⟩
        · simpa using own'
        · intro y hy
          rcases List.mem_append.1 hy with hy | hy
          · exact hds y hy
          · rw [List.mem_singleton.1 hy]; exact hd
        · simp; omega
      · obtain ⟨ds', h1, h2, h3, h4⟩ := J.bks x hx'
        refine ⟨ds', h1, own_kept' h2 (fun k hk => kp.blk k (own_blk h2 hk).2.1 ⟨fun e => (J.ne.2 x hx').1 (e ▸ hk), fun e => (J.ne.2 x hx').2 (e ▸ hk), fun e => hne (hk.trans e.symm)⟩), h3, Nat.le_succ_of_le h4⟩
    · rw [hnv]
      rcases hat with e | e
      · rw [← e]; exact hne
      · intro e2
        obtain ⟨ds', _, h2, _⟩ := J.bks x hx
        have := (own_blk h2 e2).2.1
        omega
  · rintro k (hk | hk)
    · exact .inl (.inl hk)
    · exact (hjN k hk).imp .inr id
  · intro k hk hjk
    rcases hjN k hjk with e | e
    · exact (h.apA k hk).2 e
    · have := (own_blk h.ask hk).2.1; omega
end Go.Proofs
end
section
namespace Go.Proofs
open Go.RowKit
open Pl
theorem info139 : (Tryz.prog.info? 139).map (fun i => (i.zero, i.size, i.bytes)) = some (some (.pointer none), 1, 8) := by kernel_rfl

theorem jlen_any (jB : Nat) (len : Int) (w : World) (h : w.cell? ⟨jB, 1, none⟩ = some (.int .i64 len)) : Calls Tryz.prog 169 #[.pointer (some ⟨jB, 0, none⟩)] w fun e w' => e = .returned (.int .i64 len) ∧ w = w' := by
  go_enter Tryz.func169, Tryz.ntmps169
  go_wp2
  go_ret
  exact ⟨rfl, rfl⟩

theorem mkMap461 (w : World) : (Instr.makeMap 461 (some (Value.int IntKind.i64 1))).run Tryz.prog w = .ok (.map (some w.heap.size)) (w.alloc (.map #[] 0)) := by
  simp [Instr.makeMap, run_underlying Tryz.underlying461, asInt, asIntOf]

/-- The store of a DFA is made. -/
theorem njs_any (cmp : Addr) (c s : Value) (w : World) : Calls Tryz.prog 170 #[.iface 400 (.pointer (some cmp)), c, s] w fun e w' => e = .returned (.pointer (some ⟨w.heap.size + 1, 0, none⟩)) ∧
    (w.alloc (.map #[] 0)).alloc (.cells #[.map (some w.heap.size), .int .i64 0, .iface 400 (.pointer (some cmp))] 465) = w' := by
  have m1 := mkMap461
  go_enter Tryz.func170, Tryz.ntmps170
  go_wp2
  go_ret
  exact ⟨by simp, rfl⟩

set_option maxRecDepth 100000 in
set_option maxHeartbeats 4000000 in
theorem jput_any {B0 : Nat} {w : World} {N : Bd} {v : AV} {f : Nat} {g : GS} (h : LX B0 w N v f g) (j : JG) (hj : g.js = some j) (d : DS) (hd : g.ty d.b = some (.proper d)) (hcn : j.cnt + 1 ≤ g.asked.length) :
    Calls Tryz.prog 171 #[.pointer (some ⟨j.jB, 0, none⟩), d.ptr] w fun e w' => DRet g e ∧ ∃ j', j'.jB = j.jB ∧ j'.cnt ≤ j.cnt + 1 ∧ LX B0 w' N v f { g with js := some j' } ∧ Fm w g w' { g with js := some j' } := by
  obtain ⟨i0, hi0, hz0, hz1, hz2⟩ := info_parts info139
  have hc := (h.js j hj).blk.cell
  have H := Lib.hid h
  have d1 := fun a w => dH1d a w
  have d2 := fun a w => dE2d a w
  have hgj : { g with js := some j } = g := by cases g; cases hj; rfl
  have hgj' := Lib.hid hgj
  unfold DS.ptr
  clear h hgj
  go_enter Tryz.func171, Tryz.ntmps171
  go_wp2_with (first | (go_at_call 362; refine (hash1_lx _ H.out d hd).mono ?_; rintro e w1 ⟨rfl, h1, f1⟩; have J1 := Lib.hid (h1.js j hj); have hc1 := J1.out.blk.cell; obtain ⟨ds, ba, bc, hb0, hb1, hb2, hb3, hb4⟩ := J1.out.bucket (dfaHashL (ddC d.L)); have hfew : ds.length ≤ 1000000 := Nat.le_trans hb3 (Nat.le_trans J1.out.cnt h1.few); have hlk := run_lookupI w1 461 137 Tryz.underlying461 Tryz.underlying3 (.slice none 0 0) rfl j.mB j.kvs J1.out.map (dfaHashL (ddC d.L)); rw [hb0] at hlk; have hb0' := Lib.hid hb0; have hb4' := Lib.hid hb4; have hb2' := Lib.hid hb2; have h1' := Lib.hid h1; have hd' := Lib.hid hd; have hb1' := Lib.hid hb1; clear hb0 hb4 hb2 h1 hd hb1))
  go_loopw [22] (fun i wr => ∃ (k n : Nat), k ≤ ds.length ∧ i = .int .i64 k ∧ wr = w1.drewN n) (fun i _ => ds.length - (intOf i).toNat)
  case atStart => exact ⟨0, 0, Nat.zero_le _, rfl, rfl⟩
  case round =>
    obtain ⟨k, n, hk, rfl, rfl⟩ := hrel
    by_cases hkl : k < ds.length
    · obtain ⟨dk, hdk⟩ : ∃ dk, ds[k]? = some dk := ⟨_, List.getElem?_eq_getElem hkl⟩
      obtain ⟨gb, rfl, hcell⟩ := hb4'.out k dk hdk
      unfold DS.ptr at hcell
      have hdp := Lib.hid (hb2'.out dk (List.mem_of_getElem? hdk))
      have h2' := Lib.hid (h1'.out.drewN n)
      clear hdk
      go_wp2_with (first | (go_at_call 361; refine (eq2_lx _ h2'.out d dk hd'.out hdp.out).mono ?_; rintro e w3 ⟨⟨r, rfl⟩, n3, rfl⟩))
      all_goals first
        | (go_ret2; exact ⟨⟨dk, true, by simp [DS.ptr], hdp.out⟩, j, rfl, by omega, by rw [hgj'.out]; exact h1'.out.drewN _, by rw [hgj'.out]; exact f1.trans (Fm.drewN _ _ _)⟩)
        | exact ⟨⟨k + 1, n + n3, by omega, by simp, by simp⟩, by simp [intOf]; omega⟩
    · obtain rfl : k = ds.length := by omega
      go_wp2_with fail
      have h2 := h1'.out.drewN n
      have f2 := f1.trans (Fm.drewN w1 g n)
      have J2 : Hid (JsAt (w1.drewN n) g j) := Lib.hid (h2.js j hj)
      have hb12 : Hid ((w1.drewN n).ownsRow 0 139 1 (.slice ba ds.length bc) ds.length (ds.map DS.ptr)) := Lib.hid hb1'.out
      have h2' := Lib.hid h2
      have f2' := Lib.hid f2
      clear h2 f2 f1
      have hbk : Hid (j.kvs.lookup (dfaHashL (ddC d.L)) = some (Value.slice ba ds.length bc) ∨ (j.kvs.lookup (dfaHashL (ddC d.L)) = none ∧ (Value.slice ba ds.length bc).ownBlock = none)) := Lib.hid (by
        have e := hb0'.out
        cases hl : j.kvs.lookup (dfaHashL (ddC d.L)) with
        | none => rw [hl] at e; right; refine ⟨rfl, ?_⟩; rw [← e]; rfl
        | some u => rw [hl] at e; left; rw [← e]; rfl)
      have nb1 : some j.jB ≠ (Value.slice ba ds.length bc).ownBlock := fun e => by
        rcases hbk.out with h | ⟨_, h⟩
        · exact (J2.out.ne.2 _ (lookup_mem h)).1 e.symm
        · rw [h] at e; cases e
      have nb2 : some j.mB ≠ (Value.slice ba ds.length bc).ownBlock := fun e => by
        rcases hbk.out with h | ⟨_, h⟩
        · exact (J2.out.ne.2 _ (lookup_mem h)).2 e.symm
        · rw [h] at e; cases e
      clear hlk hk hkl hc1
      generalize w1.drewN n = wq at J2 hb12 h2' f2' ⊢
      have hne : j.jB ≠ j.mB := J2.out.ne.1
      have hcq := J2.out.blk.cell
      have hfq := J2.out.blk.free
      have lt1 := J2.out.blk.lt
      have lt2 := J2.out.map.lt
      have hmm : ∃ kvs, MapI wq j.mB kvs := ⟨_, J2.out.map⟩
      have hlq := run_lookupI wq 461 137 Tryz.underlying461 Tryz.underlying3 (.slice none 0 0) rfl j.mB j.kvs J2.out.map (dfaHashL (ddC d.L))
      rw [hb0'.out] at hlq
      have l0 : lkv wq j.mB (dfaHashL (ddC d.L)) (.slice none 0 0) = .slice ba ds.length bc := by rw [lkv_eq _ J2.out.map]; exact hb0'.out
      have l1 : lkv wq.drew j.mB (dfaHashL (ddC d.L)) (.slice none 0 0) = .slice ba ds.length bc := by rw [lkv_eq _ J2.out.map.drew]; exact hb0'.out
      have l2 : ∀ o, lkv (wq.drew.alloc o) j.mB (dfaHashL (ddC d.L)) (.slice none 0 0) = .slice ba ds.length bc := fun o => by rw [lkv_eq _ (J2.out.map.drew.alloc o)]; exact hb0'.out
      have c0 : wq.cell? ⟨j.jB, 0, none⟩ = some (.map (some j.mB)) := (hcq 0).trans rfl
      have hown := hb12.out
      go_region_held3 (fun w' => w'.cell? ⟨j.jB, 0, none⟩ = some (.map (some j.mB)) ∧ (Instr.lookup 461 (.map (some j.mB)) (.int .i64 (dfaHashL (ddC d.L))) false).run Tryz.prog w' = .ok (lkv w' j.mB (dfaHashL (ddC d.L)) (.slice none 0 0)) w' ∧
          (∀ v, (Instr.mapUpdate 461 (.map (some j.mB)) (.int .i64 (dfaHashL (ddC d.L))) v).run Tryz.prog w' = .ok () (updI w' j.mB (dfaHashL (ddC d.L)) v)) ∧ ∃ kvs, MapI w' j.mB kvs)
        ((go_split_ands; refine S_of _ _ Tryz.underlying461 (fun _ => rfl) ?_ ?_ <;> first | assumption | go_keep | exact EMapI.drew (by assumption) | exact EMapI.drew (EMapI.alloc _ (by assumption)) | exact EMapI.upd _ _ (by assumption) | (rw [updI_cell _ _ _ _ _ hne]; assumption) | (rw [hgrow.cell_far _ (by simp; omega) nb1]; first | assumption | go_keep) | exact EMapI.grown hgrow nb2 (by first | assumption | exact EMapI.drew (by assumption) | exact EMapI.drew (EMapI.alloc _ (by assumption)))))
        ((refine step_append_lies _ (by rfl) _ _ _ (by rfl) 0 139 i0 _ 1 8 Tryz.underlying137 hi0 hz0 hz1 hz2 rfl (by omega) (.slice ba ds.length bc) ds.length (ds.map DS.ptr) (by first | rfl | exact l1 | exact l2 _) (by first | exact (hown.alloc _).drew | exact hown.drew.alloc _) ⟨wq.heap.size, 0, none⟩ 1 1 [.pointer (some ⟨d.b, 0, none⟩)] (by rfl) (by rfl) (World.news_of_block (cs := #[.pointer (some ⟨d.b, 0, none⟩)]) (t := 139) (fr := (0, 0)) (heap_alloc_new wq _)) (by simp [Value.oneCell']) (by omega) (by simp [maxLen]; omega) (by omega) (by simp) (wq.heap.size + 1) (by simp) ?_; intro gg cap w1 hown1 hgrow hat hlt))
      all_goals go_split_ands
      all_goals have hm1 : MapI w1 j.mB j.kvs := by first | exact MapI.grown hgrow nb2 (MapI.drew (MapI.alloc _ J2.out.map)) | exact MapI.grown hgrow nb2 (MapI.alloc _ (MapI.drew J2.out.map))
      all_goals have g1 : (Value.slice ba ds.length bc).ownBlock = some gg ∨ wq.heap.size ≤ gg := by rcases hat with h | h <;> first | exact .inl h | (right; omega)
      all_goals have kp1 : Kp (fun k => (Value.slice ba ds.length bc).ownBlock ≠ some k) wq w1 := by first | exact (((Kp.alloc _ _).trans (Kp.drew _)).trans (Kp.grown hgrow (fun k hk e => hk e.symm))) | exact (((Kp.drew _).trans (Kp.alloc _ _)).trans (Kp.grown hgrow (fun k hk e => hk e.symm)))
      all_goals have kp2 : Kp (fun k => k ≠ j.mB ∧ (Value.slice ba ds.length bc).ownBlock ≠ some k) wq (updI w1 j.mB (dfaHashL (ddC d.L)) (.slice (some ⟨gg, 0, none⟩) (ds.length + 1) cap)) := (kp1.weak (fun _ h => h.2)).trans (Kp.updI _ _ _ _ (by simp))
      all_goals have b1 : Blk (updI w1 j.mB (dfaHashL (ddC d.L)) (.slice (some ⟨gg, 0, none⟩) (ds.length + 1) cap)) j.jB 465 _ := J2.out.blk.kept (kp2.blk j.jB lt1 ⟨hne, nb1.symm⟩)
      all_goals have b1c := b1.cell
      all_goals have b1f := b1.free
      all_goals have B1 := Lib.hid b1
      all_goals have ggj : gg ≠ j.jB ∧ gg ≠ j.mB := by rcases g1 with h | h <;> first | exact ⟨fun e => nb1 (e ▸ h.symm), fun e => nb2 (e ▸ h.symm)⟩ | exact ⟨by omega, by omega⟩
      all_goals have GJ := Lib.hid ggj
      all_goals clear b1 ggj
      all_goals go_wp2
      all_goals go_ret2
      all_goals
        obtain ⟨hx, fx⟩ := h2'.out.jput j hj d hd'.out (dfaHashL (ddC d.L)) ds (.slice ba ds.length bc) hbk.out hb2'.out hb3 hcn (gg := gg) (cap' := cap) (len' := wrap64 (j.len + 1))
          ((kp2.weak (fun k hk => ⟨hk.2.1, hk.2.2⟩)).trans (Kp.setCell _ _ _ (by simp))) (B1.out.set 1 _ _ rfl) ((hm1.upd _ _).of (heap_setCell_other _ _ _ _ (by simp; omega)))
          (own_kept (w := w1) hown1 (by rw [heap_setCell_other _ _ _ _ (by simpa using GJ.out.1), updI_other _ _ _ _ _ GJ.out.2])) g1
        exact ⟨⟨d, false, by simp [DS.ptr], hd'.out⟩, { j with len := wrap64 (j.len + 1), kvs := upK (dfaHashL (ddC d.L)) (.slice (some ⟨gg, 0, none⟩) (ds.length + 1) cap) j.kvs, cnt := j.cnt + 1 }, rfl, Nat.le_refl _, hx, f2'.out.trans fx⟩
end Go.Proofs
end
section
namespace Go.Proofs
open Go.RowKit
open Pl
/-- A state is told to have been asked for. -/
theorem LX.askp {B0 : Nat} {w w1 : World} {N : Bd} {v : AV} {f : Nat} {g : GS} (h : LX B0 w N v f g) (d : DS) (hd : g.ty d.b = some (.proper d)) (hl : g.asked.length + 1 ≤ 1000000) {gg cap : Nat}
    (hown : w1.ownsRow 0 139 1 (.slice (some ⟨gg, 0, none⟩) (g.asked.length + 1) cap) (g.asked.length + 1) (g.asked.map DS.ptr ++ [d.ptr])) (kp : Kp (fun k => g.ask.ownBlock ≠ some k) w w1) (hat : g.ask.ownBlock = some gg ∨ w.heap.size ≤ gg) :
    LX B0 (w1.setCell ⟨g.dfa, 0, none⟩ (.slice (some ⟨gg, 0, none⟩) (g.asked.length + 1) cap)) N v f { g with ask := .slice (some ⟨gg, 0, none⟩) (g.asked.length + 1) cap, asked := g.asked ++ [d] } ∧
    Fm w g (w1.setCell ⟨g.dfa, 0, none⟩ (.slice (some ⟨gg, 0, none⟩) (g.asked.length + 1) cap)) { g with ask := .slice (some ⟨gg, 0, none⟩) (g.asked.length + 1) cap, asked := g.asked ++ [d] } := by
  have hgd : gg ≠ g.dfa := by
    rcases hat with e | e
    · exact fun e2 => h.apD.2.2 (e2 ▸ e)
    · have := h.dfa.lt; omega
  have far : ∀ k, k ≠ g.dfa → (w1.setCell ⟨g.dfa, 0, none⟩ (.slice (some ⟨gg, 0, none⟩) (g.asked.length + 1) cap)).heap[k]? = w1.heap[k]? := fun k hk => heap_setCell_other _ _ _ _ hk
  have hb1 : Blk w1 g.dfa 141 (dfaK g) := h.dfa.kept (kp.blk _ h.dfa.lt h.apD.2.2)
  refine h.roots _ rfl rfl rfl (fun k => k = g.dfa ∨ g.ask.ownBlock = some k) ?_ (fun k hk => hk.imp id .inl) ?_ h.s0 ?_ ?_ ?_ ?_ ?_ ?_
  · exact (kp.weak (fun k hk e => hk (.inr e))).trans (Kp.setCell _ _ _ (by simp))
  · exact hb1.set 0 _ _ (by simp [dfaK])
  · have := own_kept' hown (w' := w1.setCell ⟨g.dfa, 0, none⟩ (.slice (some ⟨gg, 0, none⟩) (g.asked.length + 1) cap)) (fun k hk => far k (by
      have e' : gg = k := by simpa [Value.ownBlock] using hk
      rw [← e']; exact hgd))
    simpa using this
  · intro y hy
    rcases List.mem_append.1 hy with hy | hy
    · exact h.askd y hy
    · rw [List.mem_singleton.1 hy]; exact hd
  · simpa using hl
  · intro j hj
    have J := h.js j hj
    have hk : ∀ i, j.own i → (w1.setCell ⟨g.dfa, 0, none⟩ (.slice (some ⟨gg, 0, none⟩) (g.asked.length + 1) cap)).heap[i]? = w.heap[i]? := fun i hi => by
      rw [far i (fun e => h.apD.2.1 ⟨j, hj, e ▸ hi⟩)]
      exact kp.blk i (J.ownlt hi) (fun e => (h.apA i e).2 ⟨j, hj, hi⟩)
    have := J.kept hk
    exact ⟨this.blk, this.map, this.bks, this.pw, Nat.le_trans this.cnt (by simp)⟩
  · rintro k (hk | hk)
    · have e' : gg = k := by simpa [Value.ownBlock] using hk
      subst e'
      exact hat.imp .inl id
    · exact .inl (.inr hk)
  · intro k hk hj
    have e' : gg = k := by simpa [Value.ownBlock] using hk
    subst e'
    rcases hat with e | e
    · exact (h.apA _ e).2 hj
    · obtain ⟨j, hj, hi⟩ := hj
      have := (h.js j hj).ownlt hi
      omega

/-- The start is told. -/
theorem LX.s0put {B0 : Nat} {w : World} {N : Bd} {v : AV} {f : Nat} {g : GS} (h : LX B0 w N v f g) (d : DS) (hd : g.ty d.b = some (.proper d)) :
    LX B0 (w.setCell ⟨g.dfa, 5, none⟩ d.ptr) N v f { g with s0 := some d.b } ∧ Fm w g (w.setCell ⟨g.dfa, 5, none⟩ d.ptr) { g with s0 := some d.b } := by
  have far : ∀ k, k ≠ g.dfa → (w.setCell ⟨g.dfa, 5, none⟩ d.ptr).heap[k]? = w.heap[k]? := fun k hk => heap_setCell_other _ _ _ _ hk
  refine h.roots _ rfl rfl rfl (fun k => k = g.dfa) (Kp.setCell _ _ _ (by simp)) (fun k hk => .inl hk) ?_ ?_ ?_ h.askd h.few ?_ (fun k hk => .inl hk) (fun k hk => (h.apA k hk).2)
  · exact h.dfa.set 5 _ _ (by simp [dfaK, DS.ptr])
  · intro b hb; cases hb; exact ⟨d, hd⟩
  · exact own_kept' h.ask (fun k hk => far k (fun e => h.apD.2.2 (e ▸ hk)))
  · intro j hj
    have := (h.js j hj).kept (w' := w.setCell ⟨g.dfa, 5, none⟩ d.ptr) (fun i hi => far i (fun e => h.apD.2.1 ⟨j, hj, e ▸ hi⟩))
    exact ⟨this.blk, this.map, this.bks, this.pw, this.cnt⟩

/-- The store is made. -/
theorem LX.jnew {B0 : Nat} {w : World} {N : Bd} {v : AV} {f : Nat} {g : GS} (h : LX B0 w N v f g) (_ : g.js = none) (o : Obj) :
    LX B0 ((((w.alloc o).alloc (.map #[] 0)).alloc (.cells #[.map (some (w.heap.size + 1)), .int .i64 0, .iface 400 (.pointer (some ⟨w.heap.size, 0, none⟩))] 465)).setCell ⟨g.dfa, 3, none⟩ (.pointer (some ⟨w.heap.size + 1 + 1, 0, none⟩))) N v f { g with js := some ⟨w.heap.size + 1 + 1, w.heap.size + 1, ⟨w.heap.size, 0, none⟩, 0, [], 0⟩ } ∧
    Fm w g ((((w.alloc o).alloc (.map #[] 0)).alloc (.cells #[.map (some (w.heap.size + 1)), .int .i64 0, .iface 400 (.pointer (some ⟨w.heap.size, 0, none⟩))] 465)).setCell ⟨g.dfa, 3, none⟩ (.pointer (some ⟨w.heap.size + 1 + 1, 0, none⟩))) { g with js := some ⟨w.heap.size + 1 + 1, w.heap.size + 1, ⟨w.heap.size, 0, none⟩, 0, [], 0⟩ } := by
  have k3 : Kp (fun _ => True) w (((w.alloc o).alloc (.map #[] 0)).alloc (.cells #[.map (some (w.heap.size + 1)), .int .i64 0, .iface 400 (.pointer (some ⟨w.heap.size, 0, none⟩))] 465)) := ((Kp.alloc _ _).trans (Kp.alloc _ _)).trans (Kp.alloc _ _)
  have B3 : Blk (((w.alloc o).alloc (.map #[] 0)).alloc (.cells #[.map (some (w.heap.size + 1)), .int .i64 0, .iface 400 (.pointer (some ⟨w.heap.size, 0, none⟩))] 465)) (w.heap.size + 1 + 1) 465 #[.map (some (w.heap.size + 1)), .int .i64 0, .iface 400 (.pointer (some ⟨w.heap.size, 0, none⟩))] := by
    have := Blk.new ((w.alloc o).alloc (.map #[] 0)) 465 #[.map (some (w.heap.size + 1)), .int .i64 0, .iface 400 (.pointer (some ⟨w.heap.size, 0, none⟩))]
    simpa using this
  have M3 : MapI (((w.alloc o).alloc (.map #[] 0)).alloc (.cells #[.map (some (w.heap.size + 1)), .int .i64 0, .iface 400 (.pointer (some ⟨w.heap.size, 0, none⟩))] 465)) (w.heap.size + 1) [] := by
    have h0 : MapI ((w.alloc o).alloc (.map #[] 0)) (w.heap.size + 1) [] := ⟨#[], 0, by have := heap_alloc_new (w.alloc o) (Obj.map #[] 0); simpa using this, rfl⟩
    exact h0.alloc _
  generalize (((w.alloc o).alloc (.map #[] 0)).alloc (.cells #[.map (some (w.heap.size + 1)), .int .i64 0, .iface 400 (.pointer (some ⟨w.heap.size, 0, none⟩))] 465)) = w3 at k3 B3 M3 ⊢
  have ld := h.dfa.lt
  have far : ∀ k, k ≠ g.dfa → (w3.setCell ⟨g.dfa, 3, none⟩ (.pointer (some ⟨w.heap.size + 1 + 1, 0, none⟩))).heap[k]? = w3.heap[k]? := fun k hk => heap_setCell_other _ _ _ _ hk
  refine h.roots _ rfl rfl rfl (fun k => k = g.dfa) ((k3.weak (fun _ _ => trivial)).trans (Kp.setCell _ _ _ (by simp))) (fun k hk => .inl hk) ?_ h.s0 ?_ h.askd h.few ?_ ?_ ?_
  · exact (h.dfa.kept (k3.blk _ ld trivial)).set 3 _ _ (by simp [dfaK])
  · exact own_kept' h.ask (fun k hk => (far k (fun e => h.apD.2.2 (e ▸ hk))).trans (k3.blk k (own_blk h.ask hk).2.1 trivial))
  · intro j e
    cases e
    exact ⟨B3.kept (far (w.heap.size + 1 + 1) (by omega)), M3.of (far (w.heap.size + 1) (by omega)), fun x hx => by simp at hx, .nil, Nat.zero_le _⟩
  · rintro k (hk | ⟨j, e, hk⟩)
    · exact .inl (.inl hk)
    · cases e
      rcases hk with e | e | ⟨x, hx, _⟩
      · exact .inr (by have e' : k = w.heap.size + 1 + 1 := e; omega)
      · exact .inr (by have e' : k = w.heap.size + 1 := e; omega)
      · simp at hx
  · rintro k hk ⟨j, e, hj⟩
    cases e
    have lk := (own_blk h.ask hk).2.1
    rcases hj with e | e | ⟨x, hx, _⟩
    · have e' : k = w.heap.size + 1 + 1 := e; omega
    · have e' : k = w.heap.size + 1 := e; omega
    · simp at hx

theorem LX.jnew' {B0 : Nat} {w : World} {N : Bd} {v : AV} {f : Nat} {g : GS} (h : LX B0 w N v f g) (hj : g.js = none) (o : Obj) :
    LX B0 ((((w.setCell ⟨g.dfa, 3, none⟩ (.pointer (some ⟨w.heap.size + 1 + 1, 0, none⟩))).alloc o).alloc (.map #[] 0)).alloc (.cells #[.map (some (w.heap.size + 1)), .int .i64 0, .iface 400 (.pointer (some ⟨w.heap.size, 0, none⟩))] 465)) N v f { g with js := some ⟨w.heap.size + 1 + 1, w.heap.size + 1, ⟨w.heap.size, 0, none⟩, 0, [], 0⟩ } ∧
    Fm w g ((((w.setCell ⟨g.dfa, 3, none⟩ (.pointer (some ⟨w.heap.size + 1 + 1, 0, none⟩))).alloc o).alloc (.map #[] 0)).alloc (.cells #[.map (some (w.heap.size + 1)), .int .i64 0, .iface 400 (.pointer (some ⟨w.heap.size, 0, none⟩))] 465)) { g with js := some ⟨w.heap.size + 1 + 1, w.heap.size + 1, ⟨w.heap.size, 0, none⟩, 0, [], 0⟩ } := by
  have hl := h.dfa.lt
  have := h.jnew hj o
  rw [World.setCell_alloc_past _ _ _ _ (by simp; omega), World.setCell_alloc_past _ _ _ _ (by simp; omega), World.setCell_alloc_past _ _ _ _ hl] at this
  exact this
end Go.Proofs
end
section
namespace Go.Proofs
open Go.RowKit
open Pl
/-- What a look into the DFA returns. -/
def DGet (g : GS) (e : Ending) : Prop := ∃ (p : Option Nat) (ex : Bool), e = .returned (.tuple #[.pointer (p.map fun b => ⟨b, 0, none⟩), .bool ex]) ∧ (ex = true → ∃ d, p = some d.b ∧ g.ty d.b = some (.proper d))

theorem eqJ_none (w : World) : (binOp .eql 138 (.pointer none) (.pointer none)).run Tryz.prog w = .ok (.bool true) w := by kernel_rfl

set_option maxRecDepth 100000 in
set_option maxHeartbeats 2000000 in
theorem dget_any {B0 : Nat} {w : World} {N : Bd} {v : AV} {f : Nat} {g : GS} (h : LX B0 w N v f g) (d : DS) (hd : g.ty d.b = some (.proper d)) (hl : g.asked.length + 1 ≤ 1000000) :
    Calls Tryz.prog 115 #[.pointer (some ⟨g.dfa, 0, none⟩), d.ptr] w fun e w' => DGet g e ∧ ∃ g', g'.ty = g.ty ∧ g'.js = g.js ∧ g'.asked = g.asked ++ [d] ∧ LX B0 w' N v f g' ∧ Fm w g w' g' := by
  obtain ⟨i0, hi0, hz0, hz1, hz2⟩ := info_parts info139
  have hc := h.dfa.cell
  have hf := h.dfa.free
  have lt1 := h.dfa.lt
  have hask := h.ask
  have hna := h.apD.2.2
  have hD := Lib.hid h.dfa
  have H := Lib.hid h
  have hd' := Lib.hid hd
  have en := fun w => eqJ_none w
  simp only [dfaK] at hc
  unfold DS.ptr
  clear h hd
  obtain ⟨js, hjs⟩ : ∃ x, g.js = x := ⟨_, rfl⟩
  rw [hjs] at hc
  replace hjs := Lib.hid hjs
  cases js with
  | none =>
    simp only [Option.map_none] at hc
    go_enter Tryz.func115, Tryz.ntmps115
    go_wp2_with (first | (at_builtin; refine wpList_append_lies _ rfl _ _ 137 rfl 0 139 i0 _ 1 8 Tryz.underlying137 hi0 hz0 hz1 hz2 rfl (by omega) g.ask g.asked.length (g.asked.map DS.ptr) rfl (hask.alloc _) ⟨w.heap.size, 0, none⟩ 1 1 [.pointer (some ⟨d.b, 0, none⟩)] rfl rfl (World.news_of_block (cs := #[.pointer (some ⟨d.b, 0, none⟩)]) (t := 139) (fr := (0, 0)) (heap_alloc_new w _)) (by simp [Value.oneCell']) (by omega) (by simp [maxLen]; omega) (by omega) (by simp) _ rfl ?_; intro gg cap w1 hown1 hgrow hat hlt; have kp1 : Kp (fun k => g.ask.ownBlock ≠ some k) w w1 := (Kp.alloc _ _).trans (Kp.grown hgrow (fun k hk => fun e => hk e.symm)); have hB1 := Lib.hid (Blk.kept hD.out (kp1.blk _ lt1 hna)); have c1 : w1.cell? ⟨g.dfa, 0, none⟩ = some g.ask := hB1.out.cell 0; have f1 := hB1.out.free 0; have f13 := hB1.out.free 3; have lt5 : g.dfa < w1.heap.size := hB1.out.lt; have lt6 : g.dfa < w1.heap.size + 1 := Nat.lt_succ_of_lt lt5; have lt7 : g.dfa < w1.heap.size + 1 + 1 := Nat.lt_succ_of_lt lt6; have c3 : w1.cell? ⟨g.dfa, 3, none⟩ = some (.pointer none) := (hB1.out.cell 3).trans (by simp [dfaK, hjs.out]); have AK := Lib.hid (LX.askp H.out d hd'.out hl hown1 kp1 (hat.imp id (fun e => by simp at e; omega)))))
    go_ret2
    exact ⟨⟨none, false, by simp, fun h => by cases h⟩, { g with ask := .slice (some ⟨gg, 0, none⟩) (g.asked.length + 1) cap, asked := g.asked ++ [d] }, rfl, rfl, rfl, AK.out.1, AK.out.2⟩
  | some j =>
    simp only [Option.map_some] at hc
    go_enter Tryz.func115, Tryz.ntmps115
    go_wp2_with (first | (at_builtin; refine wpList_append_lies _ rfl _ _ 137 rfl 0 139 i0 _ 1 8 Tryz.underlying137 hi0 hz0 hz1 hz2 rfl (by omega) g.ask g.asked.length (g.asked.map DS.ptr) rfl (hask.alloc _) ⟨w.heap.size, 0, none⟩ 1 1 [.pointer (some ⟨d.b, 0, none⟩)] rfl rfl (World.news_of_block (cs := #[.pointer (some ⟨d.b, 0, none⟩)]) (t := 139) (fr := (0, 0)) (heap_alloc_new w _)) (by simp [Value.oneCell']) (by omega) (by simp [maxLen]; omega) (by omega) (by simp) _ rfl ?_; intro gg cap w1 hown1 hgrow hat hlt; have kp1 : Kp (fun k => g.ask.ownBlock ≠ some k) w w1 := (Kp.alloc _ _).trans (Kp.grown hgrow (fun k hk => fun e => hk e.symm)); have hB1 := Lib.hid (Blk.kept hD.out (kp1.blk _ lt1 hna)); have c1 : w1.cell? ⟨g.dfa, 0, none⟩ = some g.ask := hB1.out.cell 0; have f1 := hB1.out.free 0; have f13 := hB1.out.free 3; have lt5 : g.dfa < w1.heap.size := hB1.out.lt; have lt6 : g.dfa < w1.heap.size + 1 := Nat.lt_succ_of_lt lt5; have lt7 : g.dfa < w1.heap.size + 1 + 1 := Nat.lt_succ_of_lt lt6; have c3 : w1.cell? ⟨g.dfa, 3, none⟩ = some (.pointer (some ⟨j.jB, 0, none⟩)) := (hB1.out.cell 3).trans (by simp [dfaK, hjs.out]); have AK := Lib.hid (LX.askp H.out d hd'.out hl hown1 kp1 (hat.imp id (fun e => by simp at e; omega)))) | (go_at_call 168; refine (jget_any AK.out.1 j hjs.out d hd'.out).mono ?_; rintro e w3 ⟨⟨d3, ex, rfl, hp⟩, h3, f3⟩; unfold DS.ptr; have hp' := Lib.hid hp; have h3' := Lib.hid h3; clear hp h3))
    go_ret2
    exact ⟨⟨some d3.b, ex, by simp, fun _ => ⟨d3, rfl, hp'.out⟩⟩, { g with ask := .slice (some ⟨gg, 0, none⟩) (g.asked.length + 1) cap, asked := g.asked ++ [d] }, rfl, rfl, rfl, h3'.out, AK.out.2.trans f3⟩

set_option maxRecDepth 100000 in
set_option maxHeartbeats 2000000 in
theorem dput_any {B0 : Nat} {w : World} {N : Bd} {v : AV} {f : Nat} {g : GS} (h : LX B0 w N v f g) (d : DS) (hd : g.ty d.b = some (.proper d)) (hl : g.asked.length + 1 ≤ 1000000) :
    Calls Tryz.prog 117 #[.pointer (some ⟨g.dfa, 0, none⟩), d.ptr] w fun e w' => DRet g e ∧ ∃ g', g'.ty = g.ty ∧ g'.asked = g.asked ++ [d] ∧ LX B0 w' N v f g' ∧ Fm w g w' g' := by
  obtain ⟨i0, hi0, hz0, hz1, hz2⟩ := info_parts info139
  have hc := h.dfa.cell
  have hf := h.dfa.free
  have lt1 := h.dfa.lt
  have hask := h.ask
  have hna := h.apD.2.2
  have hD := Lib.hid h.dfa
  have H := Lib.hid h
  have hd' := Lib.hid hd
  have en := fun w => eqJ_none w
  simp only [dfaK] at hc
  unfold DS.ptr
  clear h hd
  obtain ⟨js, hjs⟩ : ∃ x, g.js = x := ⟨_, rfl⟩
  rw [hjs] at hc
  replace hjs := Lib.hid hjs
  cases js with
  | none =>
    simp only [Option.map_none] at hc
    go_enter Tryz.func117, Tryz.ntmps117
    go_wp2_with (first | (at_builtin; refine wpList_append_lies _ rfl _ _ 137 rfl 0 139 i0 _ 1 8 Tryz.underlying137 hi0 hz0 hz1 hz2 rfl (by omega) g.ask g.asked.length (g.asked.map DS.ptr) rfl (hask.alloc _) ⟨w.heap.size, 0, none⟩ 1 1 [.pointer (some ⟨d.b, 0, none⟩)] rfl rfl (World.news_of_block (cs := #[.pointer (some ⟨d.b, 0, none⟩)]) (t := 139) (fr := (0, 0)) (heap_alloc_new w _)) (by simp [Value.oneCell']) (by omega) (by simp [maxLen]; omega) (by omega) (by simp) _ rfl ?_; intro gg cap w1 hown1 hgrow hat hlt; have kp1 : Kp (fun k => g.ask.ownBlock ≠ some k) w w1 := (Kp.alloc _ _).trans (Kp.grown hgrow (fun k hk => fun e => hk e.symm)); have hB1 := Lib.hid (Blk.kept hD.out (kp1.blk _ lt1 hna)); have c1 : w1.cell? ⟨g.dfa, 0, none⟩ = some g.ask := hB1.out.cell 0; have f1 := hB1.out.free 0; have f13 := hB1.out.free 3; have lt5 : g.dfa < w1.heap.size := hB1.out.lt; have lt6 : g.dfa < w1.heap.size + 1 := Nat.lt_succ_of_lt lt5; have lt7 : g.dfa < w1.heap.size + 1 + 1 := Nat.lt_succ_of_lt lt6; have c3 : w1.cell? ⟨g.dfa, 3, none⟩ = some (.pointer none) := (hB1.out.cell 3).trans (by simp [dfaK, hjs.out]); have AK := Lib.hid (LX.askp H.out d hd'.out hl hown1 kp1 (hat.imp id (fun e => by simp at e; omega)))) | (go_at_call 170; refine (njs_any _ _ _ _).mono ?_; rintro e w3 ⟨rfl, rfl⟩; have JN := Lib.hid (LX.jnew' AK.out.1 hjs.out (.cells #[] 402))) | (go_at_call 171; refine (jput_any (g := { g with ask := .slice (some ⟨gg, 0, none⟩) (g.asked.length + 1) cap, asked := g.asked ++ [d], js := some ⟨w1.heap.size + 1 + 1, w1.heap.size + 1, ⟨w1.heap.size, 0, none⟩, 0, [], 0⟩ }) (by have := JN.out.1; simpa using this) _ rfl d hd'.out (by simp)).mono ?_; rintro e w3 ⟨⟨d3, ex, rfl, hp⟩, j', ej, ec, h3, f3⟩; unfold DS.ptr; have hp' := Lib.hid hp; have h3' := Lib.hid h3; clear hp h3))
    go_ret2
    exact ⟨⟨d3, ex, by simp [DS.ptr], hp'.out⟩, { g with ask := .slice (some ⟨gg, 0, none⟩) (g.asked.length + 1) cap, asked := g.asked ++ [d], js := some j' }, rfl, rfl, h3'.out, AK.out.2.trans ((by have := JN.out.2; simpa using this : Fm _ _ _ _).trans f3)⟩
  | some j =>
    have hcn := (H.out.js j hjs.out).cnt
    simp only [Option.map_some] at hc
    go_enter Tryz.func117, Tryz.ntmps117
    go_wp2_with (first | (at_builtin; refine wpList_append_lies _ rfl _ _ 137 rfl 0 139 i0 _ 1 8 Tryz.underlying137 hi0 hz0 hz1 hz2 rfl (by omega) g.ask g.asked.length (g.asked.map DS.ptr) rfl (hask.alloc _) ⟨w.heap.size, 0, none⟩ 1 1 [.pointer (some ⟨d.b, 0, none⟩)] rfl rfl (World.news_of_block (cs := #[.pointer (some ⟨d.b, 0, none⟩)]) (t := 139) (fr := (0, 0)) (heap_alloc_new w _)) (by simp [Value.oneCell']) (by omega) (by simp [maxLen]; omega) (by omega) (by simp) _ rfl ?_; intro gg cap w1 hown1 hgrow hat hlt; have kp1 : Kp (fun k => g.ask.ownBlock ≠ some k) w w1 := (Kp.alloc _ _).trans (Kp.grown hgrow (fun k hk => fun e => hk e.symm)); have hB1 := Lib.hid (Blk.kept hD.out (kp1.blk _ lt1 hna)); have c1 : w1.cell? ⟨g.dfa, 0, none⟩ = some g.ask := hB1.out.cell 0; have f1 := hB1.out.free 0; have f13 := hB1.out.free 3; have lt5 : g.dfa < w1.heap.size := hB1.out.lt; have lt6 : g.dfa < w1.heap.size + 1 := Nat.lt_succ_of_lt lt5; have lt7 : g.dfa < w1.heap.size + 1 + 1 := Nat.lt_succ_of_lt lt6; have c3 : w1.cell? ⟨g.dfa, 3, none⟩ = some (.pointer (some ⟨j.jB, 0, none⟩)) := (hB1.out.cell 3).trans (by simp [dfaK, hjs.out]); have AK := Lib.hid (LX.askp H.out d hd'.out hl hown1 kp1 (hat.imp id (fun e => by simp at e; omega)))) | (go_at_call 171; refine (jput_any AK.out.1 j hjs.out d hd'.out (by simp; omega)).mono ?_; rintro e w3 ⟨⟨d3, ex, rfl, hp⟩, j', ej, ec, h3, f3⟩; unfold DS.ptr; have hp' := Lib.hid hp; have h3' := Lib.hid h3; clear hp h3))
    go_ret2
    exact ⟨⟨d3, ex, by simp [DS.ptr], hp'.out⟩, { g with ask := .slice (some ⟨gg, 0, none⟩) (g.asked.length + 1) cap, asked := g.asked ++ [d], js := some j' }, rfl, rfl, h3'.out, AK.out.2.trans f3⟩
end Go.Proofs
end
section
namespace Go.Proofs
open Go.RowKit
open Pl
/-! ## new states of the DFA -/
theorem eqS_nil (a : Addr) (w : World) : (binOp .eql 148 (.pointer (some a)) (.pointer none)).run Tryz.prog w = .ok (.bool false) w := by kernel_rfl

theorem ndst_any (sn : Int) (cb : Nat) (w : World) : Calls Tryz.prog 46 #[.int .i64 sn, .pointer (some ⟨cb, 0, none⟩)] w fun e w' => e = .returned (.pointer (some ⟨w.heap.size, 0, none⟩)) ∧ w.alloc (.cells (dstK sn cb (.slice none 0 0) false 0) 152) = w' := by
  have e1 := fun a w => eqS_nil a w
  go_enter Tryz.func46, Tryz.ntmps46
  go_wp2
  go_ret
  exact ⟨rfl, rfl⟩

theorem njs2_any (cmp : Addr) (c s : Value) (w : World) : Calls Tryz.prog 75 #[.iface 224 (.pointer (some cmp)), c, s] w fun e w' => ∃ b, e = .returned (.pointer (some ⟨b, 0, none⟩)) ∧ Kp (fun _ => True) w w' := by
  have m1 := mkMap1
  go_enter Tryz.func75, Tryz.ntmps75
  go_wp2
  go_ret
  exact ⟨_, rfl, (Kp.alloc _ _).trans (Kp.alloc _ _)⟩

theorem nset2_any (b : Bool) (w : World) : Calls Tryz.prog 47 #[.bool b] w fun e w' => ∃ b, e = .returned (.pointer (some ⟨b, 0, none⟩)) ∧ Kp (fun _ => True) w w' := by
  go_enter Tryz.func47, Tryz.ntmps47
  go_wp2_with (first | (go_at_call 75; refine (njs2_any _ _ _ _).mono ?_; rintro e w3 ⟨b3, rfl, kp3⟩))
  go_ret
  exact ⟨_, rfl, ((Kp.alloc _ _).trans kp3).trans (Kp.alloc _ _)⟩

/-- A state that tells an error. -/
def ErrB (w : World) (b : Nat) : Prop := ∃ cs, Blk w b 152 cs ∧ cs[0]? = some (.int .i64 2147483647)

theorem err_any (w : World) : Calls Tryz.prog 123 #[] w fun e w' => ∃ b, e = .returned (.pointer (some ⟨b, 0, none⟩)) ∧ w.heap.size ≤ b ∧ ErrB w' b ∧ Kp (fun _ => True) w w' := by
  go_enter Tryz.func123, Tryz.ntmps123
  go_wp2_with (first | (go_at_call 47; refine (nset2_any _ _).mono ?_; rintro e w3 ⟨b3, rfl, kp3⟩) | (go_at_call 46; refine (ndst_any _ _ _).mono ?_; rintro e w4 ⟨rfl, rfl⟩))
  go_ret
  exact ⟨_, rfl, kp3.size, ⟨_, Blk.new _ _ _, rfl⟩, kp3.trans (Kp.alloc _ _)⟩

/-- It returned a number. -/
def IntRet (e : Ending) : Prop := ∃ n : Int, e = .returned (.int .i64 n)

theorem dlen_any {B0 : Nat} {w : World} {N : Bd} {v : AV} {f : Nat} {g : GS} (h : LX B0 w N v f g) : Calls Tryz.prog 116 #[.pointer (some ⟨g.dfa, 0, none⟩)] w fun e w' => IntRet e ∧ w = w' := by
  have en := fun w => eqJ_none w
  obtain ⟨js, hjs⟩ : ∃ x, g.js = x := ⟨_, rfl⟩
  have hc := h.dfa.cell
  simp only [dfaK] at hc
  rw [hjs] at hc
  replace hjs := Lib.hid hjs
  cases js with
  | none =>
    simp only [Option.map_none] at hc
    clear h
    go_enter Tryz.func116, Tryz.ntmps116
    go_wp2
    go_ret
    exact ⟨⟨0, rfl⟩, rfl⟩
  | some j =>
    have hj1 := (h.js j hjs.out).blk.cell 1
    simp only [Option.map_some] at hc
    clear h
    go_enter Tryz.func116, Tryz.ntmps116
    go_wp2_with (first | (go_at_call 169; refine (jlen_any _ _ _ hj1).mono ?_; rintro e w3 ⟨rfl, rfl⟩))
    go_ret
    exact ⟨⟨_, rfl⟩, rfl⟩

/-- A set that is finished. -/
theorem Frz.of {B : Nat} {w : World} {N : Bd} {v : AV} {f : Nat} {u : SU} {L : List Cf} {A : List (Nat × Nat)} (h : SetD B w u L) (hA : CfA N v A L) (hm : Met N f A) (hne : L ≠ []) (hl : A.length * 88 ≤ 140737488355328) (b : Nat) : Frz w N v f ⟨b, u.sB, u.ask, u.cfg, L, A⟩ where
  ask := ⟨h.ask.1, h.ask.2.imp id (fun ⟨g, cap, cur, h1, h2, h3⟩ => ⟨g, cap, cur, h1, Nat.zero_le _, h3⟩)⟩
  cfg := ⟨h.cfg.1, h.cfg.2.imp id (fun ⟨g, cap, cur, h1, h2, h3⟩ => ⟨g, cap, cur, h1, Nat.zero_le _, h3⟩)⟩
  ty := fun y hy => (h.x y hy).ty
  sn := fun y hy => (h.x y hy).sn
  ctx := fun y hy => (h.x y hy).ctx
  sem := fun y hy => (h.x y hy).sem
  b := fun y hy => (h.b y hy).blk
  keys := hA
  few := by have := hA.len; show L.length ≤ _; omega
  ne := hne
  met := hm
end Go.Proofs
end
