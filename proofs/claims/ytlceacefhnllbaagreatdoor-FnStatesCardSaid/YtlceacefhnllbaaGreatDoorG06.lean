/- A part of the proof of the statement on the law FnStates, which the last text proves: part G06. -/
import Derived.Test.YtlceacefhnllbaaGreatDoorG05
set_option linter.all false
section
namespace Go.Proofs
open Go.RowKit
open Pl
theorem clL_append {N : Bd} {f : Nat} : ∀ (ts bs : List Nat) (L : List Nat), clL N f (ts ++ bs) = some L → ∃ la lb, clL N f ts = some la ∧ clL N f bs = some lb ∧ L = la ++ lb
  | [], bs, L, h => ⟨[], L, rfl, h, rfl⟩
  | a :: ts, bs, L, h => by
    rw [List.cons_append, clL_cons] at h
    obtain ⟨l, hl, h⟩ := Option.bind_eq_some_iff.1 h
    obtain ⟨m, hm, rfl⟩ := Option.map_eq_some_iff.1 h
    obtain ⟨la, lb, h1, h2, rfl⟩ := clL_append ts bs m hm
    exact ⟨l ++ la, lb, by rw [clL_cons, hl, Option.bind_some, h1]; rfl, h2, by simp⟩

/-- What was added stands at these states, under one alternative. -/
structure CfL (N : Bd) (v : AV) (alt : Int) (l : List Nat) (L : List Cf) : Prop where
  keys : L.map (fun y => (y.n, y.alt)) = l.map (fun (t : Nat) => ((t : Int), alt))
  all : ∀ y ∈ L, ∃ t, CfN N v y t
theorem CfL.nil {N : Bd} {v : AV} {alt : Int} : CfL N v alt [] [] := ⟨rfl, fun _ h => by simp at h⟩
theorem CfL.append {N : Bd} {v : AV} {alt : Int} {l m : List Nat} {L M : List Cf} (h : CfL N v alt l L) (g : CfL N v alt m M) : CfL N v alt (l ++ m) (L ++ M) :=
  ⟨by rw [List.map_append, List.map_append, h.keys, g.keys], fun y hy => (List.mem_append.mp hy).elim (h.all y) (g.all y)⟩
theorem CfL.len {N : Bd} {v : AV} {alt : Int} {l : List Nat} {L : List Cf} (h : CfL N v alt l L) : L.length = l.length := by
  have := congrArg List.length h.keys; simpa using this
theorem CfL.one {N : Bd} {v : AV} {x : Cf} {s : Nat} (h : CfN N v x s) : CfL N v x.alt [s] [x] :=
  ⟨by simp [h.n], fun y hy => by obtain rfl := List.mem_singleton.mp hy; exact ⟨s, h⟩⟩

/-- Nothing but new blocks. -/
theorem SetU.news {B : Nat} {w w' : World} {u : SU} {adds cfs : List Cf} (h : SetU B w u adds cfs) (k : Kp (fun _ => True) w w') : SetU B w' u adds cfs ∧ Fr w u w' u := by
  have f : Fr w u w' u := ⟨k.so, k.size, fun j hj _ => k.blk j hj trivial, fun _ _ h => h⟩
  refine ⟨⟨h.blk.kept (k.blk _ h.blk.lt trivial), own_kept' h.ask (fun j hj => k.blk j (own_blk h.ask hj).2.1 trivial), own_kept' h.cfg (fun j hj => k.blk j (own_blk h.cfg hj).2.1 trivial),
    h.st.kept (k.blk _ h.st.blk.lt trivial) (k.blk _ h.st.map.lt trivial), h.bs, h.bt, h.bm, fun x hx => (h.x x hx).fr f, fun x hx => (h.b x hx).fr f, fun x hx => ?_, h.only⟩, f⟩
  obtain ⟨g, cap, h1, h2⟩ := h.bu x hx
  exact ⟨g, cap, h1, f.bu h2⟩
theorem SetU.own_lt {B : Nat} {w : World} {u : SU} {adds cfs : List Cf} (h : SetU B w u adds cfs) {k : Nat} (hk : u.own k) : k < w.heap.size := by
  rcases hk with rfl | rfl | rfl | e | e
  · exact h.blk.lt
  · exact h.st.blk.lt
  · exact h.st.map.lt
  · exact (own_blk h.ask e).2.1
  · exact (own_blk h.cfg e).2.1

/-- A new configuration with an old one's contexts. -/
theorem CfB.new {B : Nat} {w : World} {N : Bd} {v : AV} {u : SU} {adds cfs : List Cf} (hs : SetU B w u adds cfs) (hN : AtnAt B w N v) (s : Nat) (hlt : s < N.st.length) (alt : Int) (c p : Nat) (hc : Ctx w c) (hp : Sn w p) (mc : ¬ u.own c) (mp : ¬ u.own p) :
    CfB (w.alloc (.cells (confCells (kTy (N.kind s)) (v.st s) alt c p) 161)) u ⟨w.heap.size, kTy (N.kind s), v.st s, s, alt, c, p⟩ where
  blk := Blk.new _ _ _
  mb := fun h => Nat.lt_irrefl _ (hs.own_lt h)
  x := { ty := kTy_mem _, sn := ((hN s hlt).sn.kept (Kp.alloc w _)).at
         ctx := hc.alloc _, sem := hp.alloc _, ms := hs.below (hN s hlt).sn.lt, mc := mc, mp := mp }

/-- What a closure does. -/
def Clo (N : Bd) (v : AV) (f : Nat) : Prop :=
  ∀ s l, N.cl f s = some l → ∀ (lv ip : Value) (B : Nat) (w : World) (u : SU) (adds : List Cf) (x : Cf) (ca sp eof : Bool), AtnAt B w N v → SetD B w u adds → CfB w u x → CfN N v x s → (adds.length + l.length) * 88 ≤ 140737488355328 →
    Calls Tryz.prog 112 #[lv, ip, .pointer (some ⟨x.b, 0, none⟩), .pointer (some ⟨u.sB, 0, none⟩), .bool ca, .bool sp, .bool eof] w fun e w' =>
      BoolRet e ∧ ∃ u' L, CfL N v x.alt l L ∧ SetD B w' u' (adds ++ L) ∧ Fr w u w' u' ∧ u'.sB = u.sB

theorem kTy_seven {k : Nat} (h : kTy k = 269) : k = 7 := by
  unfold kTy at h
  by_cases hk : k < 13
  · have : ∀ k < 13, [330, 330, 268, 333, 295, 309, 232, 269, 264, 301, 173, 291, 253].getD k 330 = 269 → k = 7 := by decide
    exact this k hk h
  · rw [List.getD_eq_getElem?_getD, List.getElem?_eq_none (by simp; omega)] at h
    simp at h

set_option maxRecDepth 100000 in
set_option maxHeartbeats 2000000 in
theorem closure_inner (N : Bd) (v : AV) (f : Nat) (hf : Clo N v f) (s : Nat) (l : List Nat) (hlf : N.leaf s = false) (hcl : clL N f ((N.out s).map (·.dst)) = some l) (lv ip : Value) (B : Nat) (w : World) (u : SU) (adds : List Cf) (x : Cf) (ca sp eof : Bool)
    (hN : AtnAt B w N v) (hs : SetD B w u adds) (hx : CfB w u x) (hxs : CfN N v x s) (hl : (adds.length + l.length) * 88 ≤ 140737488355328) :
    Calls Tryz.prog 112 #[lv, ip, .pointer (some ⟨x.b, 0, none⟩), .pointer (some ⟨u.sB, 0, none⟩), .bool ca, .bool sp, .bool eof] w fun e w' =>
      BoolRet e ∧ ∃ u' L, CfL N v x.alt l L ∧ SetD B w' u' (adds ++ L) ∧ Fr w u w' u' ∧ u'.sB = u.sB := by
  have hk7 : N.kind s ≠ 7 := by intro e; simp [Bd.leaf, e] at hlf
  have hT : x.T ≠ 269 := by rw [hxs.T]; exact fun e => hk7 (kTy_seven e)
  have hxc := hx.blk.cell
  simp only [Cf.cells, confCells] at hxc
  have hst := hN s hxs.lt
  have h2 : w.cell? ⟨x.s, 2, none⟩ = some (.bool true) := by have := (hst.eps hk7).at; rw [hlf, ← hxs.b] at this; exact this
  have t1 := fun a w => taNoStop hx.x.ty hT a w
  have t2 := fun a w => dEps hx.x.ty a w
  have t3 := fun a w => dTrs hx.x.ty a w
  have hfew := hst.few
  have H := Lib.hid hx
  have HS := Lib.hid hs
  clear hx hs
  go_enter Tryz.func112, Tryz.ntmps112
  go_wp2_with (first | (go_at_call 274; refine (gEps _ _ _ h2).mono ?_; rintro e w' ⟨rfl, rfl⟩))
  go_loopw [4, 21] (fun c i wr => ∃ (k : Nat) (r : Bool) (u' : SU) (lk : List Nat) (L : List Cf), k ≤ (N.out s).length ∧ c = .bool r ∧ i = .int .i64 k ∧ clL N f (((N.out s).take k).map (·.dst)) = some lk ∧ CfL N v x.alt lk L ∧ SetD B wr u' (adds ++ L) ∧ Fr w u wr u' ∧ u'.sB = u.sB) (fun _ i _ => (N.out s).length - (intOf i).toNat)
  case atStart => exact ⟨0, _, u, [], [], Nat.zero_le _, rfl, rfl, rfl, .nil, by simpa using HS.out, Fr.refl _ _, rfl⟩
  case round =>
    obtain ⟨k, r, u1, lk, L, hk, rfl, rfl, hlk, hL, hs1, f1, e1⟩ := hrel
    have hN1 := hN.kept (SetU.kp HS.out f1)
    have H1 := Lib.hid (H.out.fr f1)
    have hs1' := Lib.hid hs1
    have S1 := hN1 s hxs.lt
    have hxc1 := H1.out.blk.cell
    simp only [Cf.cells, confCells] at hxc1
    by_cases hkl : k < (N.out s).length
    · obtain ⟨e, he⟩ : ∃ e, (N.out s)[k]? = some e := ⟨_, List.getElem?_eq_getElem hkl⟩
      have hts : wr.cell? ⟨x.s, 6, none⟩ = some (.slice (some ⟨v.row s, 0, none⟩) (N.out s).length (v.cap s)) := by
        rcases S1.trs with h | ⟨h1, h2⟩
        · rw [hxs.b]; exact h.at
        · rw [h1] at hkl; simp at hkl
      obtain ⟨hr, ht⟩ := S1.tr k e he
      have hrc := hr.at
      have hek : e.kind = 1 := by
        simp only [Bd.leaf, Bool.or_eq_false_iff, List.any_eq_false] at hlf
        simpa using hlf.2 e (List.mem_of_getElem? he)
      have hT2 : trTy e.kind = 286 := by rw [hek]; rfl
      rw [hT2] at hrc
      have hB1 : B ≤ wr.heap.size := Nat.le_trans hs1.bs (Nat.le_of_lt hs1.blk.lt)
      have S2 := hN1 e.dst ht.dst
      obtain ⟨hs2, f2⟩ := SetU.news hs1 (Kp.alloc wr (.cells (confCells (kTy (N.kind e.dst)) (v.st e.dst) x.alt x.c x.p) 161))
      have hy := CfB.new hs1 hN1 e.dst ht.dst x.alt x.c x.p H1.out.x.ctx H1.out.x.sem H1.out.x.mc H1.out.x.mp
      have hN2 := hN1.kept (SetU.kp hs1 f2)
      have hdrop : ∃ lt ld, N.cl f e.dst = some lt ∧ l = lk ++ lt ++ ld ∧ clL N f (((N.out s).take (k + 1)).map (·.dst)) = some (lk ++ lt) := by
        have e1 : (N.out s).map (·.dst) = ((N.out s).take k).map (·.dst) ++ (e.dst :: ((N.out s).drop (k + 1)).map (·.dst)) := by
          rw [← List.map_cons, ← List.map_append]
          congr 1
          have hd : (N.out s).drop k = e :: (N.out s).drop (k + 1) := by
            rw [List.drop_eq_getElem_cons hkl]
            congr 1
            rw [List.getElem?_eq_getElem hkl] at he
            exact Option.some.inj he
          rw [← hd, List.take_append_drop]
        rw [e1] at hcl
        obtain ⟨la, lb, h1, h2, rfl⟩ := clL_append _ _ _ hcl
        rw [hlk] at h1
        obtain rfl := Option.some.inj h1
        rw [clL_cons] at h2
        obtain ⟨lt, h3, h2⟩ := Option.bind_eq_some_iff.1 h2
        obtain ⟨ld, h4, rfl⟩ := Option.map_eq_some_iff.1 h2
        refine ⟨lt, ld, h3, by simp, ?_⟩
        have e2 : (N.out s).take (k + 1) = (N.out s).take k ++ [e] := by
          rw [List.take_succ, he]; rfl
        rw [e2, List.map_append]
        have : ∀ (ts : List Nat) (la : List Nat), clL N f ts = some la → clL N f (ts ++ [e.dst]) = some (la ++ lt) := by
          intro ts
          induction ts with
          | nil => intro la h; obtain rfl : [] = la := by simpa using h
                   simp [clL_cons, h3]
          | cons t ts ih =>
            intro la h
            rw [clL_cons] at h
            obtain ⟨p, hp, h⟩ := Option.bind_eq_some_iff.1 h
            obtain ⟨q, hq, rfl⟩ := Option.map_eq_some_iff.1 h
            rw [List.cons_append, clL_cons, hp, Option.bind_some, ih q hq]; simp
        exact this _ _ hlk
      obtain ⟨lt, ld, hlt, hll, hlk2⟩ := hdrop
      have hb2 : ((adds ++ L).length + lt.length) * 88 ≤ 140737488355328 := by
        rw [List.length_append, hL.len]; rw [hll] at hl; simp at hl; omega
      have R := Lib.hid (hf e.dst lt hlt lv ip B _ u1 (adds ++ L) ⟨wr.heap.size, _, _, _, _, _, _⟩ r sp eof hN2 hs2 hy ⟨rfl, rfl, ht.dst, rfl⟩ hb2)
      have G := Lib.hid (get_eps lv ip (.pointer (some ⟨u.sB, 0, none⟩)) B wr N v x.b (v.tr s k) x.s x.c x.p x.T x.alt H1.out.blk e hek ht (S2.tgt hB1) sp eof)
      rw [← e1] at *
      clear hs1 hs2 hy S1 S2 hN2 ht hr
      go_wp2_with (first | (go_at_call 104; refine (gTrs _ _ _ hts).mono ?_; rintro e w' ⟨rfl, rfl⟩) | (go_at_call 167; refine G.out.mono ?_; rintro e w' ⟨rfl, rfl⟩) | (go_at_call 112; refine R.out.mono ?_; rintro e w3 ⟨⟨r3, rfl⟩, u3, L3, hL3, hs3, f3, e3⟩))
      all_goals exact ⟨⟨k + 1, r3, u3, lk ++ lt, L ++ L3, by omega, rfl, by simp, hlk2, hL.append hL3, by rw [← List.append_assoc]; exact hs3, f1.trans (f2.trans f3), e3⟩, by simp [intOf]; omega⟩
    · obtain rfl : k = (N.out s).length := by omega
      obtain ⟨ts, hts⟩ : ∃ ts cp, wr.cell? ⟨x.s, 6, none⟩ = some (.slice ts (N.out s).length cp) := by
        rcases S1.trs with h | ⟨h1, h2⟩
        · exact ⟨_, _, by rw [hxs.b]; exact h.at⟩
        · exact ⟨none, 0, by rw [hxs.b, h1]; exact h2.at⟩
      obtain ⟨cp, hts⟩ := hts
      rw [List.take_length, hcl] at hlk
      obtain rfl := Option.some.inj hlk
      go_wp2_with (first | (go_at_call 104; refine (gTrs _ _ _ hts).mono ?_; rintro e w' ⟨rfl, rfl⟩))
      all_goals go_ret
      all_goals exact ⟨⟨r, rfl⟩, u1, L, hL, hs1'.out, f1, e1⟩

/-- The closure of every state. -/
theorem clo (N : Bd) (v : AV) : ∀ f, Clo N v f
  | 0 => fun s l h => by simp [Bd.cl] at h
  | f + 1 => fun s l h lv ip B w u adds x ca sp eof hN hs hx hxs hl => by
    rw [cl_succ] at h
    by_cases hlf : N.leaf s = true
    · rw [if_pos hlf] at h
      obtain rfl := Option.some.inj h
      by_cases h7 : N.kind s = 7
      · refine (closure_stop lv ip B w u adds hs x hx (by rw [hxs.T, h7]; rfl) hl ca sp eof).mono ?_
        rintro e w' ⟨rfl, u', h1, h2, h3⟩
        exact ⟨⟨_, rfl⟩, u', [x], .one hxs, h1, h2, h3⟩
      · refine (closure_leaf lv ip B w N v hN u adds hs x hx s hxs h7 hlf (by rw [hxs.T]; exact fun e => h7 (kTy_seven e)) hl ca sp eof).mono ?_
        rintro e w' ⟨hr, u', h1, h2, h3⟩
        exact ⟨hr, u', [x], .one hxs, h1, h2, h3⟩
    · rw [if_neg hlf] at h
      exact closure_inner N v f (clo N v f) s l (by simpa using hlf) h lv ip B w u adds x ca sp eof hN hs hx hxs hl
end Go.Proofs
end
section
namespace Go.Proofs
open Go.RowKit
open Pl
set_option maxRecDepth 100000 in
theorem mkMap1 (w : World) : (Instr.makeMap 312 (some (Value.int IntKind.i64 1))).run Tryz.prog w = .ok (.map (some w.heap.size)) (w.alloc (.map #[] 0)) := by
  simp [Instr.makeMap, run_underlying Tryz.underlying312, asInt, asIntOf]

/-- A set that is new. -/
theorem SetU.fresh (w : World) : SetU w.heap.size
    ((((w.alloc (Obj.cells #[] 395)).alloc (Obj.map #[] 0)).alloc (Obj.cells #[Value.map (some (w.heap.size + 1)), Value.int IntKind.i64 0, Value.iface 394 (Value.pointer (some { block := w.heap.size, off := 0 }))] 314)).alloc
      (Obj.cells #[Value.slice none 0 0, Value.int IntKind.i64 (-1), Value.pointer (some { block := w.heap.size + 1 + 1, off := 0 }), Value.slice none 0 0, Value.pointer none, Value.bool false, Value.bool false, Value.bool false, Value.bool false, Value.int IntKind.i64 0] 147))
    ⟨w.heap.size + 1 + 1 + 1, w.heap.size + 1 + 1, w.heap.size + 1, ⟨w.heap.size, 0, none⟩, .slice none 0 0, .slice none 0 0, 0, []⟩ [] [] where
  blk := by
    have := Blk.new (((w.alloc (Obj.cells #[] 395)).alloc (Obj.map #[] 0)).alloc (Obj.cells #[Value.map (some (w.heap.size + 1)), Value.int IntKind.i64 0, Value.iface 394 (Value.pointer (some { block := w.heap.size, off := 0 }))] 314)) 147 #[Value.slice none 0 0, Value.int IntKind.i64 (-1), Value.pointer (some { block := w.heap.size + 1 + 1, off := 0 }), Value.slice none 0 0, Value.pointer none, Value.bool false, Value.bool false, Value.bool false, Value.bool false, Value.int IntKind.i64 0]
    simpa [setCells] using this
  ask := ⟨rfl, .inl ⟨rfl, rfl⟩⟩
  cfg := ⟨rfl, .inl ⟨rfl, rfl⟩⟩
  st := ⟨by
      have := (Blk.new ((w.alloc (Obj.cells #[] 395)).alloc (Obj.map #[] 0)) 314 #[Value.map (some (w.heap.size + 1)), Value.int IntKind.i64 0, Value.iface 394 (Value.pointer (some { block := w.heap.size, off := 0 }))]).alloc (Obj.cells #[Value.slice none 0 0, Value.int IntKind.i64 (-1), Value.pointer (some { block := w.heap.size + 1 + 1, off := 0 }), Value.slice none 0 0, Value.pointer none, Value.bool false, Value.bool false, Value.bool false, Value.bool false, Value.int IntKind.i64 0] 147)
      simpa using this, by
      have h0 : MapI ((w.alloc (Obj.cells #[] 395)).alloc (Obj.map #[] 0)) (w.heap.size + 1) [] := ⟨#[], 0, by have := heap_alloc_new (w.alloc (Obj.cells #[] 395)) (Obj.map #[] 0); simpa using this, rfl⟩
      exact (h0.alloc _).alloc _⟩
  bs := by simp; omega
  bt := by simp; omega
  bm := by simp
  x := fun _ h => by simp at h
  b := fun _ h => by simp at h
  bu := fun _ h => by simp at h
  only := fun h hh => by simp at hh

set_option maxRecDepth 100000 in
set_option maxHeartbeats 2000000 in
theorem newset_any (w : World) : Calls Tryz.prog 109 #[] w fun e w' => ∃ u, e = .returned (.pointer (some ⟨u.sB, 0, none⟩)) ∧ SetD w.heap.size w' u [] ∧ Kp (fun _ => True) w w' := by
  have m1 := mkMap1
  go_enter Tryz.func109, Tryz.ntmps109
  go_wp2
  go_ret
  exact ⟨_, rfl, SetU.fresh w, ((((Kp.alloc _ _).trans (Kp.alloc _ _)).trans (Kp.alloc _ _)).trans (Kp.alloc _ _))⟩
end Go.Proofs
end
section
namespace Go.Proofs
open Go.RowKit
open Pl
/-- What the start of a text adds: for each rule the closure of its beginning. -/
structure StartL (N : Bd) (v : AV) (es : List LE) (i : Nat) (A : List (Int × Int)) (L : List Cf) : Prop where
  keys : L.map (fun y => (y.n, y.alt)) = A
  all : ∀ y ∈ L, ∃ t, CfN N v y t

/-- The closures of the first k rules. -/
def startA (N : Bd) (f : Nat) : List LE → Nat → Option (List (Nat × Nat))
  | [], _ => some []
  | e :: es, i => (N.cl f e.dst).bind fun l => (startA N f es (i + 1)).map fun r => l.map (fun s => (s, i + 1)) ++ r

def toI (l : List (Nat × Nat)) : List (Int × Int) := l.map fun x => ((x.1 : Int), (x.2 : Int))

/-- What was added, by states and alternatives. -/
structure CfA (N : Bd) (v : AV) (A : List (Nat × Nat)) (L : List Cf) : Prop where
  keys : L.map (fun y => (y.n, y.alt)) = toI A
  all : ∀ y ∈ L, ∃ t, CfN N v y t
theorem CfA.nil {N : Bd} {v : AV} : CfA N v [] [] := ⟨rfl, fun _ h => by simp at h⟩
theorem CfA.append {N : Bd} {v : AV} {l m : List (Nat × Nat)} {L M : List Cf} (h : CfA N v l L) (g : CfA N v m M) : CfA N v (l ++ m) (L ++ M) :=
  ⟨by rw [List.map_append, h.keys, g.keys]; simp [toI], fun y hy => (List.mem_append.mp hy).elim (h.all y) (g.all y)⟩
theorem CfL.toA {N : Bd} {v : AV} {a : Nat} {l : List Nat} {L : List Cf} (h : CfL N v (a : Int) l L) : CfA N v (l.map fun s => (s, a)) L :=
  ⟨by rw [h.keys]; simp [toI], h.all⟩
theorem CfA.len {N : Bd} {v : AV} {A : List (Nat × Nat)} {L : List Cf} (h : CfA N v A L) : L.length = A.length := by
  have := congrArg List.length h.keys; simpa [toI] using this

theorem startA_take {N : Bd} {f : Nat} : ∀ (es : List LE) (i : Nat) (A : List (Nat × Nat)), startA N f es i = some A → ∀ k, k < es.length → ∃ A1 e l A2, startA N f (es.take k) i = some A1 ∧ es[k]? = some e ∧ N.cl f e.dst = some l ∧
    startA N f (es.take (k + 1)) i = some (A1 ++ l.map (fun s => (s, i + k + 1))) ∧ A = A1 ++ l.map (fun s => (s, i + k + 1)) ++ A2
  | [], i, A, h, k, hk => by simp at hk
  | e :: es, i, A, h, k, hk => by
    simp only [startA] at h
    obtain ⟨l, hl, h⟩ := Option.bind_eq_some_iff.1 h
    obtain ⟨r, hr, rfl⟩ := Option.map_eq_some_iff.1 h
    cases k with
    | zero => exact ⟨[], e, l, r, rfl, rfl, hl, by simp [startA, hl], by simp⟩
    | succ k =>
      obtain ⟨A1, e', l', A2, h1, h2, h3, h4, h5⟩ := startA_take es (i + 1) r hr k (by simpa using hk)
      have ei : i + 1 + k + 1 = i + (k + 1) + 1 := by omega
      rw [ei] at h4 h5
      refine ⟨l.map (fun s => (s, i + 1)) ++ A1, e', l', A2, by simp [startA, hl, h1], by simpa using h2, h3, ?_, by rw [h5]; simp⟩
      rw [List.take_succ_cons]
      simp only [startA, hl, Option.bind_some, h4, Option.map_some]
      simp
end Go.Proofs
end
section
namespace Go.Proofs
open Go.RowKit
open Pl
theorem CfB.new2 {B : Nat} {w : World} {N : Bd} {v : AV} {u : SU} {adds cfs : List Cf} (hs : SetU B w u adds cfs) (hN : AtnAt B w N v) (s : Nat) (hlt : s < N.st.length) (alt : Int) (o1 o3 : Obj)
    (h1 : o1 = .cells #[.int .i64 0, .int .i64 0, .pointer none, .int .i64 2147483647, .slice none 0 0, .slice none 0 0] 329)
    (h3 : o3 = .cells #[.int .i64 (-1), .int .i64 (-1), .bool false] 483) :
    CfB (((w.alloc o1).alloc (.cells (confCells (kTy (N.kind s)) (v.st s) alt w.heap.size (w.heap.size + 1 + 1)) 161)).alloc o3) u ⟨w.heap.size + 1, kTy (N.kind s), v.st s, s, alt, w.heap.size, w.heap.size + 1 + 1⟩ where
  blk := by
    have := (Blk.new (w.alloc o1) 161 (confCells (kTy (N.kind s)) (v.st s) alt w.heap.size (w.heap.size + 1 + 1))).alloc o3
    simp at this; exact this
  mb := fun h => by have : w.heap.size + 1 < w.heap.size := hs.own_lt h; omega
  x := { ty := kTy_mem _, sn := ((hN s hlt).sn.kept (((Kp.alloc w _).trans (Kp.alloc _ _)).trans (Kp.alloc _ _))).at
         ctx := by subst h1; exact ((Blk.new w 329 _).alloc _).alloc _
         sem := by
           subst h3
           have := Blk.new ((w.alloc o1).alloc (.cells (confCells (kTy (N.kind s)) (v.st s) alt w.heap.size (w.heap.size + 1 + 1)) 161)) 483 #[.int .i64 (-1), .int .i64 (-1), .bool false]
           simp at this; exact this
         ms := hs.below (hN s hlt).sn.lt, mc := fun h => by have : w.heap.size < w.heap.size := hs.own_lt h; omega
         mp := fun h => by have : w.heap.size + 1 + 1 < w.heap.size := hs.own_lt h; omega }

set_option maxRecDepth 100000 in
set_option maxHeartbeats 2000000 in
theorem start_any (N : Bd) (v : AV) (f : Nat) (lv ip : Value) (B : Nat) (w : World) (hB : B ≤ w.heap.size) (hN : AtnAt B w N v) (h0 : 0 < N.st.length) (hk : ∀ e ∈ N.out 0, e.kind = 1) (hne : N.out 0 ≠ []) (A : List (Nat × Nat)) (hA : startA N f (N.out 0) 0 = some A) (hl : A.length * 88 ≤ 140737488355328) :
    Calls Tryz.prog 77 #[lv, ip, .iface (kTy (N.kind 0)) (.pointer (some ⟨v.st 0, 0, none⟩))] w fun e w' =>
      ∃ u L, e = .returned (.pointer (some ⟨u.sB, 0, none⟩)) ∧ CfA N v A L ∧ SetD w.heap.size w' u L ∧ Kp (fun _ => True) w w' := by
  have t3 := fun a w => dTrs (kTy_mem (N.kind 0)) a w
  have d2 := fun a w => dTgt (show (286 : TypeId) ∈ trTypes by decide) a w
  go_enter Tryz.func77, Tryz.ntmps77
  go_wp2_with (first | (go_at_call 109; refine (newset_any _).mono ?_; rintro e w1 ⟨u, rfl, hs, kp1⟩))
  have hst := hN 0 h0
  have hfew := hst.few
  have hN1 := hN.kept (kp1.weak (fun _ _ => trivial))
  have hsB := Lib.hid hs
  clear hs
  have hN1b : AtnAt w.heap.size w1 N v := fun s h => ⟨fun e => ⟨Nat.lt_of_lt_of_le ((hN1 s h).eps e).lt hB, ((hN1 s h).eps e).at⟩, (hN1 s h).lf, ⟨Nat.lt_of_lt_of_le (hN1 s h).sn.lt hB, (hN1 s h).sn.at⟩, ⟨Nat.lt_of_lt_of_le (hN1 s h).ri.lt hB, (hN1 s h).ri.at⟩, (hN1 s h).trs.imp (fun e => ⟨Nat.lt_of_lt_of_le e.lt hB, e.at⟩) (fun e => ⟨e.1, Nat.lt_of_lt_of_le e.2.lt hB, e.2.at⟩), fun e => ⟨Nat.lt_of_lt_of_le ((hN1 s h).ng e).lt hB, ((hN1 s h).ng e).at⟩, (hN1 s h).few, fun i e he => ⟨⟨Nat.lt_of_lt_of_le ((hN1 s h).tr i e he).1.lt hB, ((hN1 s h).tr i e he).1.at⟩, ((hN1 s h).tr i e he).2.up hB⟩⟩
  go_loopw [8] (fun i wr => ∃ (k : Nat) (u' : SU) (Ak : List (Nat × Nat)) (L : List Cf), k ≤ (N.out 0).length ∧ i = .int .i64 k ∧ startA N f ((N.out 0).take k) 0 = some Ak ∧ CfA N v Ak L ∧ SetD w.heap.size wr u' L ∧ Fr w1 u wr u' ∧ u'.sB = u.sB) (fun i _ => (N.out 0).length - (intOf i).toNat)
  case atStart => exact ⟨0, u, [], [], Nat.zero_le _, rfl, rfl, .nil, hsB.out, Fr.refl _ _, rfl⟩
  case round =>
    obtain ⟨k, u1, Ak, L, hk1, rfl, hAk, hL, hs1, f1, e1⟩ := hrel
    have hN2 := hN1b.kept (SetU.kp hsB.out f1)
    have S1 := hN2 0 h0
    obtain ⟨ts, hts⟩ : ∃ ts, wr.cell? ⟨v.st 0, 6, none⟩ = some (.slice (some ⟨v.row 0, 0, none⟩) (N.out 0).length ts) := by
      rcases S1.trs with h | ⟨h1, h2⟩
      · exact ⟨_, h.at⟩
      · exact absurd h1 hne
    have hs1' := Lib.hid hs1
    by_cases hkl : k < (N.out 0).length
    · obtain ⟨A1, e, l, A2, hA1, he, hcl, hA2, hA3⟩ := startA_take (N.out 0) 0 A hA k hkl
      rw [hAk] at hA1
      obtain rfl := Option.some.inj hA1
      obtain ⟨hr, ht⟩ := S1.tr k e he
      have hek := hk e (List.mem_of_getElem? he)
      have hT2 : trTy e.kind = 286 := by rw [hek]; rfl
      have hrc := hr.at
      rw [hT2] at hrc
      have htg := ht.tgt.at
      have kp3 : Kp (fun _ => True) wr (((wr.alloc (.cells #[.int .i64 0, .int .i64 0, .pointer none, .int .i64 2147483647, .slice none 0 0, .slice none 0 0] 329)).alloc (.cells (confCells (kTy (N.kind e.dst)) (v.st e.dst) ((k : Int) + 1) wr.heap.size (wr.heap.size + 1 + 1)) 161)).alloc (.cells #[.int .i64 (-1), .int .i64 (-1), .bool false] 483)) := ((Kp.alloc wr _).trans (Kp.alloc _ _)).trans (Kp.alloc _ _)
      obtain ⟨hs3, f3⟩ := SetU.news hs1 kp3
      have hy := CfB.new2 hs1 hN2 e.dst ht.dst ((k : Int) + 1) _ _ rfl rfl
      have hN3 := hN2.kept (SetU.kp hs1 f3)
      have hb2 : (L.length + l.length) * 88 ≤ 140737488355328 := by
        rw [hL.len]; rw [hA3] at hl; simp at hl; omega
      have R := Lib.hid (clo N v f e.dst l hcl lv ip w.heap.size _ u1 L ⟨wr.heap.size + 1, _, _, _, _, _, _⟩ false false false hN3 hs3 hy ⟨rfl, rfl, ht.dst, rfl⟩ hb2)
      rw [← e1] at *
      clear hs1 hs3 hy S1 hN3 ht hr hst
      go_wp2_with (first | (go_at_call 104; refine (gTrs _ _ _ hts).mono ?_; rintro e w' ⟨rfl, rfl⟩) | (go_at_call 101; refine (gTgt _ _ _ htg).mono ?_; rintro e w' ⟨rfl, rfl⟩) | (go_at_call 111; refine (empty_any _).mono ?_; rintro e w' ⟨rfl, rfl⟩) | (go_at_call 110; refine (cfg6_any _ _ _ _ _).mono ?_; rintro e w' ⟨rfl, rfl⟩) | (go_at_call 112; refine R.out.mono ?_; rintro e w3 ⟨⟨r3, rfl⟩, u3, L3, hL3, hs3, f4, e3⟩))
      have eA : (0 + k + 1 : Nat) = k + 1 := by omega
      rw [eA] at hA2
      all_goals exact ⟨⟨k + 1, u3, _, L ++ L3, by omega, by simp, hA2, hL.append (CfL.toA (by simpa using hL3)), hs3, (f1.trans f3).trans f4, e3⟩, by simp [intOf]; omega⟩
    · obtain rfl : k = (N.out 0).length := by omega
      rw [List.take_length, hA] at hAk
      obtain rfl := Option.some.inj hAk
      go_wp2_with (first | (go_at_call 104; refine (gTrs _ _ _ hts).mono ?_; rintro e w' ⟨rfl, rfl⟩))
      all_goals go_ret
      exact ⟨u1, L, by simp [e1], hL, hs1'.out, ⟨SO.trans (kp1.so) ((SetU.kp hsB.out f1).so), Nat.le_trans kp1.size (SetU.kp hsB.out f1).size, fun j hj _ => ((SetU.kp hsB.out f1).blk j (Nat.lt_of_lt_of_le hj kp1.size) hj).trans (kp1.blk j hj trivial)⟩⟩
end Go.Proofs
end
section
namespace Go.Proofs
open Go.RowKit
open Pl
set_option maxRecDepth 100000 in
set_option maxHeartbeats 2000000 in
theorem rtarget_any (lv : Value) (B : Nat) (w : World) (N : Bd) (v : AV) (e : LE) (tb : Nat) (ht : TrAt B w N v e tb) (c : Int) :
    Calls Tryz.prog 173 #[lv, .iface (trTy e.kind) (.pointer (some ⟨tb, 0, none⟩)), .int .i64 c] w fun r w' =>
      (r = .returned (if hitE e c then .iface (kTy (N.kind e.dst)) (.pointer (some ⟨v.st e.dst, 0, none⟩)) else .nilIface)) ∧ ∃ n, w.drewN n = w' := by
  have htg := ht.tgt.at
  rcases ht.kind with h | h | h
  · have hT : trTy e.kind = 286 := by rw [h]; rfl
    have hh : hitE e c = false := by simp [hitE, h]
    rw [hT, hh]
    have d1 := fun a => dMatchE a w
    go_enter Tryz.func173, Tryz.ntmps173
    go_wp2_with (first | (go_at_call 303; refine (matchE_any _ _ _ _ _).mono ?_; rintro e w' ⟨rfl, rfl⟩))
    go_ret
    exact ⟨by simp, 0, rfl⟩
  · have hT : trTy e.kind = 350 := by rw [h]; rfl
    have hh : hitE e c = (decide (e.a1 ≤ c) && decide (c ≤ e.a2)) := by simp [hitE, h]
    obtain ⟨h5, h6, _⟩ := ht.rng h
    have h5 := h5.at
    have h6 := h6.at
    rw [hT, hh]
    have d1 := fun a => dMatchR a w
    have d2 := fun a w => dTgt (show (350 : TypeId) ∈ trTypes by decide) a w
    generalize hg : (decide (e.a1 ≤ c) && decide (c ≤ e.a2)) = g
    cases g
    all_goals
      go_enter Tryz.func173, Tryz.ntmps173
      go_wp2_with (first | (go_at_call 309; refine (matchR_any _ _ _ _ _ _ _ h5 h6).mono ?_; rintro e w' ⟨rfl, n, rfl⟩) | (go_at_call 101; refine (gTgt _ _ (w.drewN n) htg).mono ?_; rintro e w' ⟨rfl, rfl⟩))
      go_ret
      exact ⟨by simp, n, rfl⟩
  · have hT : trTy e.kind = 357 := by rw [h]; rfl
    have hh : hitE e c = (e.a1 == c) := by simp [hitE, h]
    obtain ⟨h5, _⟩ := ht.atom h
    have h5 := h5.at
    rw [hT, hh]
    have d1 := fun a => dMatchA a w
    have d2 := fun a w => dTgt (show (357 : TypeId) ∈ trTypes by decide) a w
    generalize hg : (e.a1 == c) = g
    cases g
    all_goals
      go_enter Tryz.func173, Tryz.ntmps173
      go_wp2_with (first | (go_at_call 316; refine (matchA_any _ _ _ _ _ _ h5).mono ?_; rintro e w' ⟨rfl, rfl⟩) | (go_at_call 101; refine (gTgt _ _ w htg).mono ?_; rintro e w' ⟨rfl, rfl⟩))
      go_ret
      exact ⟨by simp, 0, rfl⟩
end Go.Proofs
end
section
namespace Go.Proofs
open Go.RowKit
open Pl
/-- A finished set, below block B. -/
structure FSrc (B : Nat) (w : World) (N : Bd) (v : AV) (cb : Nat) (src : List Cf) (S : List (Nat × Nat)) : Prop where
  cfg : ∃ g cap, LC B w cb 3 (.slice (some ⟨g, 0, none⟩) src.length cap) ∧ ∀ i x, src[i]? = some x → LC B w g i (.pointer (some ⟨x.b, 0, none⟩))
  lt : ∀ x ∈ src, x.b < B ∧ x.c < B ∧ x.p < B
  blk : ∀ x ∈ src, Blk w x.b 161 x.cells ∧ Ctx w x.c ∧ Sn w x.p
  all : CfA N v S src
  few : src.length ≤ 4000000000000

theorem FSrc.kept {B : Nat} {w w' : World} {N : Bd} {v : AV} {cb : Nat} {src : List Cf} {S : List (Nat × Nat)} (h : FSrc B w N v cb src S) (k : Kp (fun k => k < B) w w') : FSrc B w' N v cb src S where
  cfg := by obtain ⟨g, cap, h1, h2⟩ := h.cfg; exact ⟨g, cap, h1.kept k, fun i x hx => (h2 i x hx).kept k⟩
  lt := h.lt
  blk := fun x hx => by
    obtain ⟨h1, h2, h3⟩ := h.blk x hx
    obtain ⟨l1, l2, l3⟩ := h.lt x hx
    exact ⟨h1.kept (k.blk _ h1.lt l1), Blk.kept h2 (k.blk _ h2.lt l2), Blk.kept h3 (k.blk _ h3.lt l3)⟩
  all := h.all
  few := h.few

set_option maxRecDepth 100000 in
set_option maxHeartbeats 2000000 in
theorem reach_any (N : Bd) (v : AV) (f : Nat) (lv ip : Value) (B : Nat) (w : World) (u : SU) (hN : AtnAt B w N v) (hs : SetD B w u []) (cb : Nat) (src : List Cf) (S : List (Nat × Nat)) (hF : FSrc B w N v cb src S) (c : Int) (A : List (Nat × Nat)) (hA : stepA N f c S = some A) (hl : A.length * 88 ≤ 140737488355328) :
    Calls Tryz.prog 121 #[lv, ip, .pointer (some ⟨cb, 0, none⟩), .pointer (some ⟨u.sB, 0, none⟩), .int .i64 c] w fun e w' =>
      e = .returned (.tuple #[]) ∧ ∃ u' L, CfA N v A L ∧ SetD B w' u' L ∧ Fr w u w' u' ∧ u'.sB = u.sB := by
  obtain ⟨g, cap, hc3, hrow⟩ := hF.cfg
  have hc3 := hc3.at
  have hfew := hF.few
  have HF := Lib.hid hF
  have HS := Lib.hid hs
  clear hF hs
  go_enter Tryz.func121, Tryz.ntmps121
  go_wp2_with fail
  have hlen : S.length = src.length := HF.out.all.len.symm
  go_loopw [10, 25] (fun sk i wr => ∃ (k : Nat) (sk' : Int) (u' : SU) (Ak : List (Nat × Nat)) (L : List Cf), k ≤ src.length ∧ sk = .int .i64 sk' ∧ i = .int .i64 k ∧ stepA N f c (S.take k) = some Ak ∧ CfA N v Ak L ∧ SetD B wr u' L ∧ Fr w u wr u' ∧ u'.sB = u.sB) (fun _ i _ => src.length - (intOf i).toNat)
  case atStart => exact ⟨0, 0, u, [], [], Nat.zero_le _, rfl, rfl, rfl, .nil, HS.out, Fr.refl _ _, rfl⟩
  case round =>
    obtain ⟨k, sk, u1, Ak, L, hk1, rfl, rfl, hAk, hL, hs1, f1, e1⟩ := hrel
    obtain ⟨w1, hw1⟩ : ∃ w1, w1 = wr := ⟨_, rfl⟩
    subst hw1
    have hN1 := hN.kept (SetU.kp HS.out f1)
    have hF1 := HF.out.kept (SetU.kp HS.out f1)
    by_cases hkl : k < src.length
    · obtain ⟨A1, y, E, A2, hA1, hy, hE, hA2, hA3⟩ := stepA_take S A hA k (by omega)
      rw [hAk] at hA1
      obtain rfl := Option.some.inj hA1
      obtain ⟨x, hx⟩ : ∃ x, src[k]? = some x := ⟨_, List.getElem?_eq_getElem hkl⟩
      have hxm := List.mem_of_getElem? hx
      have hkey : x.n = (y.1 : Int) ∧ x.alt = (y.2 : Int) := by
        have := congrArg (fun l => l[k]?) hF1.all.keys
        simp only [List.getElem?_map, hx, hy, toI, Option.map_some, Option.some.injEq, Prod.mk.injEq] at this
        exact this
      obtain ⟨t, ht⟩ := hF1.all.all x hxm
      obtain rfl : t = y.1 := by have := ht.n.symm.trans hkey.1; omega
      have HK := Lib.hid hkey
      obtain ⟨hxb, hxctx, hxsem⟩ := hF1.blk x hxm
      have hcell : w1.cell? ⟨g, k, none⟩ = some (.pointer (some ⟨x.b, 0, none⟩)) := ((hrow k x hx).kept (SetU.kp HS.out f1)).at
      have hxc := hxb.cell
      simp only [Cf.cells, confCells] at hxc
      have t3 := fun a w => dTrs (show x.T ∈ stTypes by rw [ht.T]; exact kTy_mem _) a w
      have S1 := hN1 y.1 ht.lt
      have hout := S1.few
      obtain ⟨ts, cp, hts, htsr⟩ : ∃ ts cp, w1.cell? ⟨x.s, 6, none⟩ = some (.slice ts (N.out y.1).length cp) ∧ (∀ i, i < (N.out y.1).length → ts = some ⟨v.row y.1, 0, none⟩) := by
        rcases S1.trs with h | ⟨h1, h2⟩
        · exact ⟨_, _, by rw [ht.b]; exact h.at, fun _ _ => rfl⟩
        · exact ⟨none, 0, by rw [ht.b, h1]; exact h2.at, fun i hi => by rw [h1] at hi; simp at hi⟩
      have HS1 := Lib.hid hs1
      have HX := Lib.hid hxb
      clear hs1 hxb hkey
      by_cases hsk : x.alt = sk
      all_goals
        try subst hsk
        go_wp2_with (first | (go_at_call 172; refine (gAlt _ _ _ (by go_simp; first | done | rfl)).mono ?_; rintro e w' ⟨rfl, rfl⟩) | (go_at_call 113; refine (gState _ _ _ (by go_simp; first | done | rfl)).mono ?_; rintro e w' ⟨rfl, rfl⟩) | (go_at_call 104; refine (gTrs _ _ _ hts).mono ?_; rintro e w' ⟨rfl, rfl⟩))
        go_loopw [10, 44] (fun sk i w2 => ∃ (j : Nat) (sk' : Int) (u2 : SU) (Ej : List (Nat × Nat)) (L2 : List Cf), j ≤ (N.out y.1).length ∧ sk = .int .i64 sk' ∧ i = .int .i64 j ∧ edgeA N f c y.2 ((N.out y.1).take j) = some Ej ∧ CfA N v Ej L2 ∧ SetD B w2 u2 (L ++ L2) ∧ Fr w1 u1 w2 u2 ∧ u2.sB = u1.sB) (fun _ i _ => (N.out y.1).length - (intOf i).toNat)
        case atStart => exact ⟨0, _, u1, [], [], Nat.zero_le _, rfl, rfl, rfl, .nil, by simpa using HS1.out, Fr.refl _ _, rfl⟩
        case round =>
          obtain ⟨j, sk2, u2, Ej, L2, hj1, rfl, rfl, hEj, hL2, hs2, f2, e2⟩ := hrel
          have HS2 := Lib.hid hs2
          by_cases hjl : j < (N.out y.1).length
          · obtain ⟨E1, e, E2, hE1, he, hhit, hmiss⟩ := edgeA_take (N.out y.1) E hE j hjl
            rw [hEj] at hE1
            obtain rfl := Option.some.inj hE1
            obtain rfl := htsr j hjl
            obtain ⟨hr, hte⟩ := (hN1 y.1 ht.lt).tr j e he
            have hN2 := hN1.kept (SetU.kp HS1.out f2)
            have hr2 := (hr.kept (SetU.kp HS1.out f2)).at
            have hte2 := hte.kept (SetU.kp HS1.out f2)
            have RT := rtarget_any lv B wr N v e (v.tr y.1 j) hte2 c
            have hxb2 : Blk wr x.b 161 x.cells := HX.out.kept ((SetU.kp HS1.out f2).blk _ HX.out.lt (hF1.lt x hxm).1)
            have hxc2 := hxb2.cell
            simp only [Cf.cells, confCells] at hxc2
            by_cases hh : hitE e c = true
            · obtain ⟨l, hcl, hE2, hE3⟩ := hhit hh
              rw [hh, if_pos rfl] at RT
              have RT' := Lib.hid RT
              have hctx2 : Ctx wr x.c := Blk.kept hxctx ((SetU.kp HS1.out f2).blk _ hxctx.lt (hF1.lt x hxm).2.1)
              have hsem2 : Sn wr x.p := Blk.kept hxsem ((SetU.kp HS1.out f2).blk _ hxsem.lt (hF1.lt x hxm).2.2)
              have hb2 : ((L ++ L2).length + l.length) * 88 ≤ 140737488355328 := by
                rw [List.length_append, hL.len, hL2.len]; rw [hA3, hE3] at hl; simp at hl; omega
              have R : ∀ n ca sp eof, Calls Tryz.prog 112 #[lv, ip, .pointer (some ⟨(wr.drewN n).heap.size, 0, none⟩), .pointer (some ⟨u2.sB, 0, none⟩), .bool ca, .bool sp, .bool eof] ((wr.drewN n).alloc (.cells (confCells (kTy (N.kind e.dst)) (v.st e.dst) x.alt x.c x.p) 161)) fun e' w' =>
                  BoolRet e' ∧ ∃ u' L', CfL N v x.alt l L' ∧ SetD B w' u' (L ++ L2 ++ L') ∧ Fr ((wr.drewN n).alloc (.cells (confCells (kTy (N.kind e.dst)) (v.st e.dst) x.alt x.c x.p) 161)) u2 w' u' ∧ u'.sB = u2.sB := by
                intro n ca sp eof
                have hsd : SetD B (wr.drewN n) u2 (L ++ L2) := SetU.drewN HS2.out n
                have hNd := hN2.kept (Kp.drewN wr n)
                obtain ⟨hs3, f3⟩ := SetU.news hsd (Kp.alloc (wr.drewN n) (.cells (confCells (kTy (N.kind e.dst)) (v.st e.dst) x.alt x.c x.p) 161))
                have hy3 := CfB.new hsd hNd e.dst hte.dst x.alt x.c x.p hctx2 hsem2 (SetU.below HS2.out (hF1.lt x hxm).2.1) (SetU.below HS2.out (hF1.lt x hxm).2.2)
                exact clo N v f e.dst l hcl lv ip B _ u2 (L ++ L2) ⟨(wr.drewN n).heap.size, _, _, _, _, _, _⟩ ca sp eof (hNd.kept (SetU.kp hsd f3)) hs3 hy3 ⟨rfl, rfl, hte.dst, rfl⟩ hb2
              have R' := Lib.hid R
              have HX2 := Lib.hid hxb2
              have hB2 : B ≤ wr.heap.size := Nat.le_trans HS2.out.bs (Nat.le_of_lt HS2.out.blk.lt)
              have TG := Lib.hid ((hN2 e.dst hte.dst).tgt hB2)
              have eu : u2.sB = u.sB := e2.trans e1
              rw [eu] at R'
              clear R RT hxb2 hctx2 hsem2 hs2 hN2 hte hte2
              go_wp2_with (first | (go_at_call 173; refine RT'.out.mono ?_; rintro e w' ⟨rfl, n, rfl⟩) | (go_at_call 175; refine (cfg3_any x.b x.s x.c x.p (v.st e.dst) x.T (kTy (N.kind e.dst)) x.alt (wr.drewN n) HX2.out ⟨TG.out.ty, TG.out.ng, TG.out.lt⟩).mono ?_; rintro e w' ⟨rfl, rfl⟩) | (go_at_call 112; refine (R'.out n _ _ _).mono ?_; rintro e w3 ⟨⟨r3, rfl⟩, u3, L3, hL3, hs3, f3, e3⟩; have f23 := Lib.hid (((Fr.drewN wr u2 n).trans (Fr.alloc _ _ _)).trans f3); have hx3 : w3.cell? ⟨x.b, 2, none⟩ = some (.int .i64 x.alt) := (HX2.out.kept ((SetU.kp HS2.out f23.out).blk _ HX2.out.lt (hF1.lt x hxm).1)).cell 2) | (go_at_call 172; refine (gAlt _ _ _ hx3).mono ?_; rintro e w' ⟨rfl, rfl⟩))
              all_goals exact ⟨⟨j + 1, _, u3, _, L2 ++ L3, by omega, rfl, by simp, hE2, hL2.append (CfL.toA (by rw [← HK.out.2]; exact hL3)), by rw [← List.append_assoc]; exact hs3, f2.trans f23.out, e3.trans e1.symm⟩, by simp [intOf]; omega⟩
            · have hh' : hitE e c = false := by simpa using hh
              obtain ⟨hE2, hE3⟩ := hmiss hh'
              rw [hh', if_neg (by simp)] at RT
              have RT' := Lib.hid RT
              clear RT hxb2 hs2 hN2 hte hte2
              go_wp2_with (first | (go_at_call 173; refine RT'.out.mono ?_; rintro e w' ⟨rfl, n, rfl⟩))
              all_goals exact ⟨⟨j + 1, _, u2, _, L2, by omega, rfl, by simp, hE2, hL2, SetU.drewN HS2.out n, f2.trans (Fr.drewN _ _ _), e2⟩, by simp [intOf]; omega⟩
          · obtain rfl : j = (N.out y.1).length := by omega
            rw [List.take_length, hE] at hEj
            obtain rfl := Option.some.inj hEj
            go_wp2
            all_goals exact ⟨⟨k + 1, _, u2, _, L ++ L2, by omega, rfl, by simp, hA2, hL.append hL2, HS2.out, f1.trans f2, e2.trans e1⟩, by simp [intOf]; omega⟩
    · obtain rfl : k = src.length := by omega
      rw [← hlen, List.take_length, hA] at hAk
      obtain rfl := Option.some.inj hAk
      have HS1 := Lib.hid hs1
      clear hs1
      go_wp2
      go_end0
      exact ⟨rfl, u1, L, hL, HS1.out, f1, e1⟩
end Go.Proofs
end
section
namespace Go.Proofs
open Go.RowKit
open Pl
def hashL (l : List Cf) : Int := l.foldl (fun h x => wrap64 (wrap64 (31 * h) + x.h)) 1

set_option maxRecDepth 100000 in
set_option maxHeartbeats 2000000 in
theorem hcc_any (B : Nat) (w : World) (N : Bd) (v : AV) (hN : AtnAt B w N v) (cb : Nat) (src : List Cf) (S : List (Nat × Nat)) (hF : FSrc B w N v cb src S) :
    Calls Tryz.prog 85 #[.pointer (some ⟨cb, 0, none⟩)] w fun e w' => e = .returned (.int .i64 (hashL src)) ∧ w = w' := by
  obtain ⟨g, cap, hc3, hrow⟩ := hF.cfg
  have hc3 := hc3.at
  have hfew := hF.few
  have HF := Lib.hid hF
  clear hF
  go_enter Tryz.func85, Tryz.ntmps85
  go_wp2_with fail
  go_loop [3, 11] (fun h i => ∃ k : Nat, k ≤ src.length ∧ h = .int .i64 (hashL (src.take k)) ∧ i = .int .i64 k) (fun _ i => src.length - (intOf i).toNat)
  case atStart => exact ⟨0, Nat.zero_le _, rfl, rfl⟩
  case round =>
    obtain ⟨k, hk1, rfl, rfl⟩ := hrel
    by_cases hkl : k < src.length
    · obtain ⟨x, hx⟩ : ∃ x, src[k]? = some x := ⟨_, List.getElem?_eq_getElem hkl⟩
      have hxm := List.mem_of_getElem? hx
      obtain ⟨t, ht⟩ := HF.out.all.all x hxm
      obtain ⟨hxb, hxctx, hxsem⟩ := HF.out.blk x hxm
      have hcell := (hrow k x hx).at
      have CA : CfAt w x.b x.T x.s x.n x.alt x.c x.p := ⟨hxb, by rw [ht.T]; exact kTy_mem _, by rw [ht.b, ht.n]; exact (hN t ht.lt).sn.at, hxctx, hxsem⟩
      have CA' := Lib.hid CA
      have hT2 : hashL (src.take (k + 1)) = wrap64 (wrap64 (31 * hashL (src.take k)) + x.h) := by
        rw [List.take_add_one, hx]; simp [hashL, List.foldl_append]
      clear CA hxb
      go_wp2_with (first | (go_at_call 60; refine (chash_any _ _ _ _ _ _ _ _ CA'.out).mono ?_; rintro e w' ⟨rfl, rfl⟩))
      all_goals exact ⟨⟨k + 1, by omega, by rw [hT2]; rfl, by simp⟩, by simp [intOf]; omega⟩
    · obtain rfl : k = src.length := by omega
      go_wp2
      go_ret
      exact ⟨by simp, rfl⟩
end Go.Proofs
end
section
namespace Go.Proofs
open Go.RowKit
open Pl
set_option maxRecDepth 100000 in
set_option maxHeartbeats 2000000 in
theorem sethash_any (B : Nat) (w : World) (N : Bd) (v : AV) (hN : AtnAt B w N v) (cb : Nat) (src : List Cf) (S : List (Nat × Nat)) (hF : FSrc B w N v cb src S) (ro : Bool) (ch : Int) (h1 : w.cell? ⟨cb, 1, none⟩ = some (.int .i64 ch)) (hf1 : w.frozen? ⟨cb, 1, none⟩ = false) (h8 : w.cell? ⟨cb, 8, none⟩ = some (.bool ro))
    (hch : ro = true → ch = -1 ∨ ch = hashL src) :
    Calls Tryz.prog 57 #[.pointer (some ⟨cb, 0, none⟩)] w fun e w' => e = .returned (.int .i64 (hashL src)) ∧ (w = w' ∨ (ro = true ∧ w.setCell ⟨cb, 1, none⟩ (.int .i64 (hashL src)) = w')) := by
  have HF := Lib.hid hF
  clear hF
  cases ro
  · go_enter Tryz.func57, Tryz.ntmps57
    go_wp2_with (first | (go_at_call 85; refine (hcc_any B w N v hN cb src S HF.out).mono ?_; rintro e w' ⟨rfl, rfl⟩))
    go_ret
    exact ⟨rfl, .inl rfl⟩
  · by_cases hm : ch = -1
    · subst hm
      go_enter Tryz.func57, Tryz.ntmps57
      go_wp2_with (first | (go_at_call 85; refine (hcc_any B w N v hN cb src S HF.out).mono ?_; rintro e w' ⟨rfl, rfl⟩))
      go_ret
      exact ⟨by simp, .inr (by simp)⟩
    · obtain rfl := (hch rfl).resolve_left hm
      go_enter Tryz.func57, Tryz.ntmps57
      go_wp2_with (first | (go_at_call 85; refine (hcc_any B w N v hN cb src S HF.out).mono ?_; rintro e w' ⟨rfl, rfl⟩))
      go_ret
      exact ⟨by simp, .inl rfl⟩
end Go.Proofs
end
section
namespace Go.Proofs
open Go.RowKit
open Pl
def dfaHashL (l : List Cf) : Int := mFI (mUI 7 (hashL l)) 1

set_option maxRecDepth 100000 in
set_option maxHeartbeats 2000000 in
theorem dsthash_any (B : Nat) (w : World) (N : Bd) (v : AV) (hN : AtnAt B w N v) (db cb : Nat) (src : List Cf) (S : List (Nat × Nat)) (hF : FSrc B w N v cb src S) (hd : w.cell? ⟨db, 1, none⟩ = some (.pointer (some ⟨cb, 0, none⟩))) (ro : Bool) (ch : Int) (h1 : w.cell? ⟨cb, 1, none⟩ = some (.int .i64 ch)) (hf1 : w.frozen? ⟨cb, 1, none⟩ = false) (h8 : w.cell? ⟨cb, 8, none⟩ = some (.bool ro))
    (hch : ro = true → ch = -1 ∨ ch = hashL src) :
    Calls Tryz.prog 41 #[.pointer (some ⟨db, 0, none⟩)] w fun e w' => e = .returned (.int .i64 (dfaHashL src)) ∧ (w = w' ∨ (ro = true ∧ w.setCell ⟨cb, 1, none⟩ (.int .i64 (hashL src)) = w')) := by
  have R := Lib.hid (sethash_any B w N v hN cb src S hF ro ch h1 hf1 h8 hch)
  clear hF hch h1 h8 hf1
  go_enter Tryz.func41, Tryz.ntmps41
  go_wp2_with (first | (go_at_call 55; refine (murmurInit_any _ _).mono ?_; rintro e w' ⟨rfl, rfl⟩) | (go_at_call 56; refine (murmurUpdate_any _ _ _).mono ?_; rintro e w' ⟨rfl, rfl⟩) | (go_at_call 58; refine (murmurFinish_any _ _ _).mono ?_; rintro e w' ⟨rfl, rfl⟩) | (go_at_call 57; refine R.out.mono ?_; rintro e w' ⟨rfl, hw⟩))
  go_ret
  exact ⟨rfl, hw⟩
end Go.Proofs
end
section
namespace Go.Proofs
open Go.RowKit
open Pl
set_option maxRecDepth 100000 in
set_option maxHeartbeats 2000000 in
theorem cmp_any (B B2 : Nat) (w : World) (N : Bd) (v : AV) (cb cb2 : Nat) (src src2 : List Cf) (S S2 : List (Nat × Nat)) (hF : FSrc B w N v cb src S) (hF2 : FSrc B2 w N v cb2 src2 S2) :
    Calls Tryz.prog 389 #[.pointer (some ⟨cb, 0, none⟩), .pointer (some ⟨cb2, 0, none⟩)] w fun e w' => e = .returned (.bool (src.length == src2.length)) ∧ ∃ n, w.drewN n = w' := by
  obtain ⟨g, cap, hc3, hrow⟩ := hF.cfg
  obtain ⟨g2, cap2, hd3, hrow2⟩ := hF2.cfg
  have hc3 := hc3.at
  have hd3 := hd3.at
  have hfew := hF.few
  have hfew2 := hF2.few
  have HF := Lib.hid hF
  have HF2 := Lib.hid hF2
  clear hF hF2
  by_cases hl : src.length = src2.length
  · go_enter Tryz.func389, Tryz.ntmps389
    go_wp2_with fail
    go_quiet (fail)
    go_wp2_with fail
    go_loopw [5] (fun i wr => ∃ k n : Nat, k ≤ src2.length ∧ i = .int .i64 k ∧ wr = w.drewN n) (fun i _ => src2.length - (intOf i).toNat)
    case atStart => exact ⟨0, nq, Nat.zero_le _, rfl, rfl⟩
    case round =>
      obtain ⟨k, n, hk, rfl, rfl⟩ := hrel
      by_cases hkl : k < src2.length
      · obtain ⟨x, hx⟩ : ∃ x, src[k]? = some x := ⟨_, List.getElem?_eq_getElem (by omega)⟩
        obtain ⟨y, hy⟩ : ∃ y, src2[k]? = some y := ⟨_, List.getElem?_eq_getElem hkl⟩
        have hx1 := (hrow k x hx).at
        have hy1 := (hrow2 k y hy).at
        have bx := Lib.hid (HF.out.blk x (List.mem_of_getElem? hx)).1
        have by' := Lib.hid (HF2.out.blk y (List.mem_of_getElem? hy)).1
        have hc3' : (w.drewN n).cell? ⟨cb, 3, none⟩ = some (.slice (some ⟨g, 0, none⟩) src.length cap) := hc3
        have hd3' : (w.drewN n).cell? ⟨cb2, 3, none⟩ = some (.slice (some ⟨g2, 0, none⟩) src2.length cap2) := hd3
        have hx1' : (w.drewN n).cell? ⟨g, k, none⟩ = _ := hx1
        have hy1' : (w.drewN n).cell? ⟨g2, k, none⟩ = _ := hy1
        have bx2 : Hid (Blk (w.drewN n) x.b 161 x.cells) := Lib.hid bx.out
        have by2 : Hid (Blk (w.drewN n) y.b 161 y.cells) := Lib.hid by'.out
        have hq : Hid (∀ m, (w.drewN n).drewN m = w.drewN (n + m)) := Lib.hid (fun m => World.drewN_drewN _ _ _)
        go_wp2_with fail
        generalize w.drewN n = wq at hc3' hd3' hx1' hy1' bx2 by2 hq ⊢
        go_quiet ((go_at_call 391; refine Calls.quiet_of (v := .bool true) ((ceq_any _ _ _ _ _ _ _ _ _ _ _ _ _ (Blk.drewN bx2.out) (Blk.drewN by2.out)).mono ?_); rintro e w' ⟨rfl, n9, rfl⟩; exact ⟨rfl, n9, rfl⟩))
        go_wp2
        all_goals exact ⟨⟨k + 1, _, by omega, by simp, hq.out _⟩, by simp [intOf]; omega⟩
      · obtain rfl : k = src2.length := by omega
        go_wp2
        all_goals go_ret
        all_goals exact ⟨by simp [hl], n, rfl⟩
  · go_enter Tryz.func389, Tryz.ntmps389
    go_wp2_with fail
    go_quiet (fail)
    go_wp2_with fail
    all_goals go_ret
    all_goals exact ⟨by simp [hl], nq, rfl⟩
end Go.Proofs
end
