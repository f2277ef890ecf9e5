/- stepped: the two maps: what its rounds keep. started: an empty graph, walked. -/
import Derived.Test.YtcenebjdhbdejaaGreatDoorB06
import Derived.Test.YtcenebjdhbdejaaGreatDoorB09
namespace Go.Proofs.YtcenebjdhbdejaaGreatDoor
open Go.MapKept

abbrev Tri := Int × Int × Int
abbrev triC (x : Tri) : List Value := [kI x.1, kI x.2.1, .int .i64 x.2.2]
abbrev oneC (k : Int) : List Value := [kI k]

theorem triC_one (x : Tri) : ∀ u ∈ triC x, u.oneCell' = true := by
  intro u hu
  simp only [List.mem_cons, List.not_mem_nil, or_false] at hu
  rcases hu with rfl | rfl | rfl <;> rfl
theorem oneC_one (k : Int) : ∀ u ∈ oneC k, u.oneCell' = true := by
  intro u hu
  simp only [List.mem_cons, List.not_mem_nil, or_false] at hu
  subst hu; rfl

/-- one vertex's edges, as stepped says them -/
def triL (kf : EdgeR → Int) (F : Int → List EdgeR) (k : Int) : List Tri := (F k).map fun e => (k, kf e, e.wt)

/-- what AdjacencyMap, PredecessorMap leave: a map of maps of edges -/
def SaysMap (kf : EdgeR → Int) (R : List Int → (Int → List EdgeR) → Prop) (w : World) (r : Ending) (w' : World) : Prop :=
  ∃ (mb : Nat) (L : List (Int × Nat)) (F : Int → List EdgeR), r = .returned (.tuple #[.map (some mb), .nilIface]) ∧ MapM w' mb L (fun a => (F a).map fun e => (kf e, e.val)) ∧ Ext No w w' ∧ L.length < 1000000 ∧ ((L.map (·.1)).flatMap (triL kf F)).length < 1000000 ∧ R (L.map (·.1)) F

theorem ownsRow_ne {w : World} {B B' e e' size size' n n' : Nat} {v v' : Value} {xs xs' : List Value} (h : w.ownsRow B e size v n xs) (h' : w.ownsRow B' e' size' v' n' xs') (hne : e ≠ e') : ∀ c, v.ownBlock = some c → v'.ownBlock ≠ some c := by
  intro c hc hc'
  rcases h.2 with ⟨rfl, -⟩ | ⟨g, cap, cur, rfl, hb, hgg, rest⟩
  · simp [Value.ownBlock] at hc
  · rcases h'.2 with ⟨rfl, -⟩ | ⟨g', cap', cur', rfl, hb', hgg', rest'⟩
    · simp [Value.ownBlock] at hc'
    · simp only [Value.ownBlock, Option.some.injEq] at hc hc'
      subst hc; subst hc'
      rw [hgg] at hgg'
      simp only [Option.some.injEq, Obj.cells.injEq] at hgg'
      exact hne hgg'.2.1

theorem row_ne {w : World} {b : Nat} {cs : Array Value} {T : TypeId} {fr : Nat × Nat} (h : w.heap[b]? = some (.cells cs T fr)) {B e size n : Nat} {v : Value} {xs : List Value} (ho : w.ownsRow B e size v n xs) (hne : T ≠ e) : v.ownBlock ≠ some b := by
  intro hc
  rcases ho.2 with ⟨rfl, -⟩ | ⟨g, cap, cur, rfl, hb, hgg, rest⟩
  · simp [Value.ownBlock] at hc
  · simp only [Value.ownBlock, Option.some.injEq] at hc
    subst hc
    rw [h] at hgg
    simp only [Option.some.injEq, Obj.cells.injEq] at hgg
    exact hne hgg.2.1

/-- the round over the outer map -/
def SM1 (kf : EdgeR → Int) (N t : Nat) (w2 : World) (mb r : Nat) (L : List (Int × Nat)) (F : Int → List EdgeR) (k : Nat) (wr : World) : Prop :=
  ∃ (done left : List (Int × Nat)) (cur : Option (Int × Value)) (ks es : Value) (ds : List Tri), left.length = k ∧ (done ++ left).Perm L ∧
    IterI kI wr r mb (L.map fun o => (o.1, .map (some o.2))) (left.map fun o => (o.1, .map (some o.2))) cur ∧ MapM wr mb L (fun a => (F a).map fun e => (kf e, e.val)) ∧
    wr.heap[t]? = some (.cells #[.int .u8 0, .int .i64 0, .int .i64 0, .int .i64 0, ks, es] 39 (0, 0)) ∧
    wr.ownsRow N 2 1 ks done.length (done.flatMap fun o => oneC o.1) ∧ ds.Perm ((done.map (·.1)).flatMap (triL kf F)) ∧ wr.ownsRow N 59 3 es ds.length (ds.flatMap triC) ∧
    Ext (fun c => c = t) w2 wr

/-- the round over an inner map -/
def SM2 (kf : EdgeR → Int) (N t : Nat) (w2 : World) (mb r r2 : Nat) (L : List (Int × Nat)) (F : Int → List EdgeR) (done left : List (Int × Nat)) (o : Int × Nat) (ds : List Tri) (k : Nat) (wr : World) : Prop :=
  ∃ (dn lf : List EdgeR) (cur2 : Option (Int × Value)) (ks es : Value) (xs : List Tri), lf.length = k ∧ (dn ++ lf).Perm (F o.1) ∧
    (∃ cur, IterI kI wr r mb (L.map fun o => (o.1, .map (some o.2))) (left.map fun o => (o.1, .map (some o.2))) cur) ∧
    IterI kI wr r2 o.2 ((F o.1).map fun e => (kf e, e.val)) (lf.map fun e => (kf e, e.val)) cur2 ∧ MapM wr mb L (fun a => (F a).map fun e => (kf e, e.val)) ∧
    wr.heap[t]? = some (.cells #[.int .u8 0, .int .i64 0, .int .i64 0, .int .i64 0, ks, es] 39 (0, 0)) ∧
    wr.ownsRow N 2 1 ks (done ++ [o]).length ((done ++ [o]).flatMap fun o => oneC o.1) ∧ xs = ds ++ dn.map (fun e => (o.1, kf e, e.wt)) ∧ wr.ownsRow N 59 3 es xs.length (xs.flatMap triC) ∧
    Ext (fun c => c = t) w2 wr

theorem U37 : Tryz.prog.underlying 37 = some (.slice 59) := by kernel_rfl
theorem I59 : (Tryz.prog.info? 59).map (fun i => (i.zero, i.size, i.bytes)) = some (some (.agg #[.int .i64 0, .int .i64 0, .int .i64 0]), 3, 24) := by kernel_rfl

theorem MapI.ne_row {α : Type} {kv : α → Value} {w : World} {b : Nat} {M : List (α × Value)} (h : MapI kv w b M) {t : Nat} {cs : Array Value} {T : TypeId} {fr : Nat × Nat} (ht : w.heap[t]? = some (.cells cs T fr)) : b ≠ t := by
  rintro rfl
  obtain ⟨⟨es, clk, h1, -⟩, -⟩ := h
  rw [h1] at ht; cases ht
theorem MapM.rowx {w w' : World} {mb : Nat} {L : List (Int × Nat)} {F : Int → List (Int × Value)} (h : MapM w mb L F) {t : Nat} {cs : Array Value} {T : TypeId} {fr : Nat × Nat} (ht : w.heap[t]? = some (.cells cs T fr)) (he : Ext (fun c => c = t) w w') : MapM w' mb L F :=
  ⟨h.out.ext he (h.out.ne_row ht), fun o ho => (h.inn o ho).ext he ((h.inn o ho).ne_row ht), h.nd⟩
theorem MapM.own {w w' : World} {mb : Nat} {L : List (Int × Nat)} {F : Int → List (Int × Value)} (h : MapM w mb L F) {B e size n : Nat} {v : Value} {xs : List Value} (ho : w.ownsRow B e size v n xs) (he : Ext (fun c => some c = v.ownBlock) w w') : MapM w' mb L F :=
  ⟨h.out.ext he (fun e => h.out.not_row ho e.symm), fun o ho' => (h.inn o ho').ext he (fun e => (h.inn o ho').not_row ho e.symm), h.nd⟩
theorem IterI.is_iter {α : Type} {kv : α → Value} {w : World} {r b : Nat} {M left : List (α × Value)} {cur : Option (α × Value)} (h : IterI kv w r b M left cur) : ∃ a c d e, w.heap[r]? = some (.mapIter a c d e) := by
  obtain ⟨⟨es, clk, since, seen, h1, h2, h3, h4, h5, h6⟩, h7⟩ := h
  exact ⟨_, _, _, _, h5⟩
theorem IterI.ne_row {α : Type} {kv : α → Value} {w : World} {r b : Nat} {M left : List (α × Value)} {cur : Option (α × Value)} (h : IterI kv w r b M left cur) {t : Nat} {cs : Array Value} {T : TypeId} {fr : Nat × Nat} (ht : w.heap[t]? = some (.cells cs T fr)) : r ≠ t ∧ b ≠ t := by
  obtain ⟨⟨es, clk, since, seen, h1, h2, h3, h4, h5, h6⟩, h7⟩ := h
  refine ⟨?_, ?_⟩
  · rintro rfl; rw [h5] at ht; cases ht
  · rintro rfl; rw [h1] at ht; cases ht
theorem MapM.iter {w w' : World} {mb : Nat} {L : List (Int × Nat)} {F : Int → List (Int × Value)} (h : MapM w mb L F) {r : Nat} (hr : ∃ a c d e, w.heap[r]? = some (.mapIter a c d e)) (he : Ext (fun c => c = r) w w') : MapM w' mb L F := by
  obtain ⟨a, c, d, e, hr⟩ := hr
  have k : ∀ b M, MapI kI w b M → b ≠ r := by
    rintro b M ⟨⟨es, clk, h1, -⟩, -⟩ rfl
    rw [h1] at hr; cases hr
  exact ⟨h.out.ext he (k _ _ h.out), fun o ho => (h.inn o ho).ext he (k _ _ (h.inn o ho)), h.nd⟩
theorem ownsRow_iter {w w' : World} {r : Nat} (hr : ∃ a c d e, w.heap[r]? = some (.mapIter a c d e)) {B e size n : Nat} {v : Value} {xs : List Value} (ho : w.ownsRow B e size v n xs) (he : Ext (fun c => c = r) w w') : w'.ownsRow B e size v n xs := by
  refine ownsRow_ext ho he fun c hc h => ?_
  subst h
  obtain ⟨a, c', d, e, hr⟩ := hr
  rcases ho.2 with ⟨rfl, -⟩ | ⟨g, cap, cur, rfl, hb, hgg, rest⟩
  · simp [Value.ownBlock] at hc
  · simp only [Value.ownBlock, Option.some.injEq] at hc
    subst hc
    rw [hr] at hgg; cases hgg

/-- what is known behind an outer step of the range -/
structure Ahead (kf : EdgeR → Int) (N t : Nat) (w2 : World) (mb r : Nat) (L : List (Int × Nat)) (F : Int → List EdgeR) (done l1 l2 : List (Int × Nat)) (o : Int × Nat) (ks es : Value) (ds : List Tri) (k : Nat) (wn : World) : Prop where
  len : (l1 ++ l2).length + 1 = k
  perm : ((done ++ [o]) ++ (l1 ++ l2)).Perm L
  mem : o ∈ L
  it : IterI kI wn r mb (L.map fun o => (o.1, .map (some o.2))) ((l1 ++ l2).map fun o => (o.1, .map (some o.2))) (some (o.1, .map (some o.2)))
  M : MapM wn mb L (fun a => (F a).map fun e => (kf e, e.val))
  row : wn.heap[t]? = some (.cells #[.int .u8 0, .int .i64 0, .int .i64 0, .int .i64 0, ks, es] 39 (0, 0))
  own : (wn.alloc (.cells #[kI o.1] 2)).ownsRow N 2 1 ks done.length (done.flatMap fun o => oneC o.1)
  dsp : ds.Perm ((done.map (·.1)).flatMap (triL kf F))
  owe : wn.ownsRow N 59 3 es ds.length (ds.flatMap triC)
  he : Ext (fun c => c = t) w2 wn
  size : N ≤ (wn.alloc (.cells #[kI o.1] 2)).heap.size

theorem Ahead.of {kf : EdgeR → Int} {N t k : Nat} {w2 wr wn : World} {mb r : Nat} {L : List (Int × Nat)} {F : Int → List EdgeR} {done left l1 l2 : List (Int × Nat)} {o : Int × Nat} {ks es : Value} {ds : List Tri} {cur : Option (Int × Value)}
    (h1 : left = l1 ++ o :: l2) (hIn : IterI kI wn r mb (L.map fun o => (o.1, .map (some o.2))) ((l1 ++ l2).map fun o => (o.1, .map (some o.2))) (some (o.1, .map (some o.2)))) (hsn : wn.heap.size = wr.heap.size) (hen : Ext (fun c => c = r) wr wn)
    (hK : left.length = k ∧ (done ++ left).Perm L ∧ IterI kI wr r mb (L.map fun o => (o.1, .map (some o.2))) (left.map fun o => (o.1, .map (some o.2))) cur ∧ MapM wr mb L (fun a => (F a).map fun e => (kf e, e.val)) ∧
      wr.heap[t]? = some (.cells #[.int .u8 0, .int .i64 0, .int .i64 0, .int .i64 0, ks, es] 39 (0, 0)) ∧ wr.ownsRow N 2 1 ks done.length (done.flatMap fun o => oneC o.1) ∧ ds.Perm ((done.map (·.1)).flatMap (triL kf F)) ∧ wr.ownsRow N 59 3 es ds.length (ds.flatMap triC) ∧
      Ext (fun c => c = t) w2 wr ∧ (∃ a c d e, wr.heap[r]? = some (.mapIter a c d e)) ∧ r ≠ t ∧ done.length < 1000000) (hr : w2.heap.size ≤ r) (hN : N ≤ w2.heap.size) : Ahead kf N t w2 mb r L F done l1 l2 o ks es ds k wn := by
  obtain ⟨hl, hperm, hI, hM, hrow, hks, hds, hes, he, hri, hrt, hdl⟩ := hK
  subst h1
  refine ⟨by simp at hl ⊢; omega, ?_, hperm.mem_iff.1 (by simp), hIn, hM.iter hri hen, hen.obj hrow (Ne.symm hrt), (ownsRow_iter hri hks hen).alloc _, hds, ownsRow_iter hri hes hen, he.then hen (fun c hc e => by omega), ?_⟩
  · refine List.Perm.trans ?_ hperm
    simp only [List.append_assoc, List.singleton_append]
    exact List.Perm.append_left _ List.perm_middle.symm
  · have := he.size; simp; omega

/-- what is known behind the append of a key: in the world behind the append, and in the one behind the store -/
structure AheadA (kf : EdgeR → Int) (N t : Nat) (w2 : World) (mb r : Nat) (L : List (Int × Nat)) (F : Int → List EdgeR) (done l1 l2 : List (Int × Nat)) (o : Int × Nat) (ks es : Value) (ds : List Tri) (v' : Value) (wa W5 : World) : Prop where
  rowa : wa.heap[t]? = some (.cells #[.int .u8 0, .int .i64 0, .int .i64 0, .int .i64 0, ks, es] 39 (0, 0))
  inn : MapI kI W5 o.2 ((F o.1).map fun e => (kf e, e.val))
  it : IterI kI W5 r mb (L.map fun o => (o.1, .map (some o.2))) ((l1 ++ l2).map fun o => (o.1, .map (some o.2))) (some (o.1, .map (some o.2)))
  M : MapM W5 mb L (fun a => (F a).map fun e => (kf e, e.val))
  row : W5.heap[t]? = some (.cells #[.int .u8 0, .int .i64 0, .int .i64 0, .int .i64 0, v', es] 39 (0, 0))
  own : W5.ownsRow N 2 1 v' (done ++ [o]).length ((done ++ [o]).flatMap fun o => oneC o.1)
  owe : W5.ownsRow N 59 3 es ds.length (ds.flatMap triC)
  he : Ext (fun c => c = t) w2 W5

theorem Ahead.grown {kf : EdgeR → Int} {N t k : Nat} {w2 wn wa : World} {mb r : Nat} {L : List (Int × Nat)} {F : Int → List EdgeR} {done l1 l2 : List (Int × Nat)} {o : Int × Nat} {ks es v' : Value} {ds : List Tri} (h : Ahead kf N t w2 mb r L F done l1 l2 o ks es ds k wn)
    (ho : wa.ownsRow N 2 1 v' (done ++ [o]).length ((done ++ [o]).flatMap fun o => oneC o.1)) (he : Ext (fun c => some c = ks.ownBlock) (wn.alloc (.cells #[kI o.1] 2)) wa) (hN : w2.heap.size ≤ N) :
    AheadA kf N t w2 mb r L F done l1 l2 o ks es ds v' wa (wa.setCell ⟨t, 4, none⟩ v') := by
  have eA : Ext No wn (wn.alloc (.cells #[kI o.1] 2)) := (Ext.refl _ wn).alloc _
  have row1 := alloc_heap h.row (.cells #[kI o.1] 2)
  have rowa := he.obj row1 (fun e => row_ne row1 h.own (by decide) e.symm)
  have e5 : Ext (fun c => c = t) wa (wa.setCell ⟨t, 4, none⟩ v') := (Ext.refl _ wa).setCell _ _ (fun _ => rfl)
  have it1 := (h.it.ext eA id id).row h.own he
  have M1 := (h.M.ext eA (fun _ _ => id)).own h.own he
  have owe1 := ownsRow_ext (h.owe.alloc (.cells #[kI o.1] 2)) he (fun c hc e => ownsRow_ne (h.owe.alloc (.cells #[kI o.1] 2)) h.own (by decide) c hc e.symm)
  have M5 := M1.rowx rowa e5
  refine ⟨rowa, M5.inn o h.mem, it1.ext e5 (it1.ne_row rowa).2 (it1.ne_row rowa).1, M5, set_heap rowa v', ownsRow_ext ho e5 (fun c hc e => row_ne rowa ho (by decide) (by rw [hc, e])), ownsRow_ext owe1 e5 (fun c hc e => row_ne rowa owe1 (by decide) (by rw [hc, e])), ?_⟩
  exact ((h.he.trans eA.no).then he (fun c hc e => by have := (h.own.lt c e.symm).1; omega)).trans e5

/-- what is known behind an inner step of the range, with the append and the store behind it -/
structure Ahead2 (kf : EdgeR → Int) (N t : Nat) (w2 : World) (mb r r2 : Nat) (L : List (Int × Nat)) (F : Int → List EdgeR) (done left : List (Int × Nat)) (o : Int × Nat) (ds : List Tri) (dn k1 k2 : List EdgeR) (e : EdgeR) (ks es : Value) (xs : List Tri) (k : Nat) (wm : World) : Prop where
  len : (k1 ++ k2).length + 1 = k
  perm : ((dn ++ [e]) ++ (k1 ++ k2)).Perm (F o.1)
  itO : ∃ cur, IterI kI wm r mb (L.map fun o => (o.1, .map (some o.2))) (left.map fun o => (o.1, .map (some o.2))) cur
  it2 : IterI kI wm r2 o.2 ((F o.1).map fun e => (kf e, e.val)) ((k1 ++ k2).map fun e => (kf e, e.val)) (some (kf e, e.val))
  M : MapM wm mb L (fun a => (F a).map fun e => (kf e, e.val))
  row : wm.heap[t]? = some (.cells #[.int .u8 0, .int .i64 0, .int .i64 0, .int .i64 0, ks, es] 39 (0, 0))
  ownk : wm.ownsRow N 2 1 ks (done ++ [o]).length ((done ++ [o]).flatMap fun o => oneC o.1)
  hxs : xs = ds ++ dn.map (fun e => (o.1, kf e, e.wt))
  own : ((wm.alloc (.cells e.cells.toArray 97)).alloc (.cells (triC (o.1, kf e, e.wt)).toArray 59)).ownsRow N 59 3 es xs.length (xs.flatMap triC)
  he : Ext (fun c => c = t) w2 wm
  size : N ≤ ((wm.alloc (.cells e.cells.toArray 97)).alloc (.cells (triC (o.1, kf e, e.wt)).toArray 59)).heap.size

theorem Ahead2.of {kf : EdgeR → Int} {N t k : Nat} {w2 wr wm : World} {mb r r2 : Nat} {L : List (Int × Nat)} {F : Int → List EdgeR} {done left : List (Int × Nat)} {o : Int × Nat} {ds : List Tri} {dn lf k1 k2 : List EdgeR} {e : EdgeR} {ks es : Value} {xs : List Tri} {cur2 : Option (Int × Value)}
    (h1 : lf = k1 ++ e :: k2) (hIn : IterI kI wm r2 o.2 ((F o.1).map fun e => (kf e, e.val)) ((k1 ++ k2).map fun e => (kf e, e.val)) (some (kf e, e.val))) (hen : Ext (fun c => c = r2) wr wm)
    (hK : lf.length = k ∧ (dn ++ lf).Perm (F o.1) ∧ (∃ cur, IterI kI wr r mb (L.map fun o => (o.1, .map (some o.2))) (left.map fun o => (o.1, .map (some o.2))) cur) ∧
      IterI kI wr r2 o.2 ((F o.1).map fun e => (kf e, e.val)) (lf.map fun e => (kf e, e.val)) cur2 ∧ MapM wr mb L (fun a => (F a).map fun e => (kf e, e.val)) ∧
      wr.heap[t]? = some (.cells #[.int .u8 0, .int .i64 0, .int .i64 0, .int .i64 0, ks, es] 39 (0, 0)) ∧ wr.ownsRow N 2 1 ks (done ++ [o]).length ((done ++ [o]).flatMap fun o => oneC o.1) ∧ xs = ds ++ dn.map (fun e => (o.1, kf e, e.wt)) ∧ wr.ownsRow N 59 3 es xs.length (xs.flatMap triC) ∧
      Ext (fun c => c = t) w2 wr) (hr : w2.heap.size ≤ r2) (hrr : r < r2) (hmr : mb < r2) (hN : N ≤ w2.heap.size) : Ahead2 kf N t w2 mb r r2 L F done left o ds dn k1 k2 e ks es xs k wm := by
  obtain ⟨hl, hperm, ⟨cur, hO⟩, hI, hM, hrow, hks, hxs, hes, he⟩ := hK
  subst h1
  refine ⟨by simp at hl ⊢; omega, ?_, ⟨cur, hO.ext hen (by omega) (by omega)⟩, hIn, hM.iter hI.is_iter hen, hen.obj hrow (Ne.symm (hI.ne_row hrow).1), ownsRow_iter hI.is_iter hks hen, hxs, ((ownsRow_iter hI.is_iter hes hen).alloc _).alloc _, he.then hen (fun c hc e => by omega), ?_⟩
  · refine List.Perm.trans ?_ hperm
    simp only [List.append_assoc, List.singleton_append]
    exact List.Perm.append_left _ List.perm_middle.symm
  · have h1 := he.size; have h2 := hen.size; simp; omega

/-- .. behind the append; and behind the store -/
structure Ahead2A (kf : EdgeR → Int) (N t : Nat) (w2 : World) (mb r r2 : Nat) (L : List (Int × Nat)) (F : Int → List EdgeR) (done left : List (Int × Nat)) (o : Int × Nat) (ds : List Tri) (k1 k2 : List EdgeR) (ks es v' : Value) (wa W5 : World) : Prop where
  rowa : wa.heap[t]? = some (.cells #[.int .u8 0, .int .i64 0, .int .i64 0, .int .i64 0, ks, es] 39 (0, 0))
  rel : SM2 kf N t w2 mb r r2 L F done left o ds (k1 ++ k2).length W5

theorem Ahead2.grown {kf : EdgeR → Int} {N t k : Nat} {w2 wm wa : World} {mb r r2 : Nat} {L : List (Int × Nat)} {F : Int → List EdgeR} {done left : List (Int × Nat)} {o : Int × Nat} {ds : List Tri} {dn k1 k2 : List EdgeR} {e : EdgeR} {ks es v' : Value} {xs : List Tri} (h : Ahead2 kf N t w2 mb r r2 L F done left o ds dn k1 k2 e ks es xs k wm)
    (ho : wa.ownsRow N 59 3 v' (xs ++ [(o.1, kf e, e.wt)]).length ((xs ++ [(o.1, kf e, e.wt)]).flatMap triC)) (he : Ext (fun c => some c = es.ownBlock) ((wm.alloc (.cells e.cells.toArray 97)).alloc (.cells (triC (o.1, kf e, e.wt)).toArray 59)) wa) (hN : w2.heap.size ≤ N) :
    Ahead2A kf N t w2 mb r r2 L F done left o ds k1 k2 ks es v' wa (wa.setCell ⟨t, 5, none⟩ v') := by
  have eA : Ext No wm ((wm.alloc (.cells e.cells.toArray 97)).alloc (.cells (triC (o.1, kf e, e.wt)).toArray 59)) := ((Ext.refl _ wm).alloc _).alloc _
  have row1 := eA.obj h.row id
  have rowa := he.obj row1 (fun e => row_ne row1 h.own (by decide) e.symm)
  have e5 : Ext (fun c => c = t) wa (wa.setCell ⟨t, 5, none⟩ v') := (Ext.refl _ wa).setCell _ _ (fun _ => rfl)
  obtain ⟨cur, itO⟩ := h.itO
  have it1 := (itO.ext eA id id).row h.own he
  have it2 := (h.it2.ext eA id id).row h.own he
  have M1 := (h.M.ext eA (fun _ _ => id)).own h.own he
  have ownk1 := ownsRow_ext h.ownk eA (fun _ _ => id)
  have ownk2 := ownsRow_ext ownk1 he (fun c hc e => ownsRow_ne ownk1 h.own (by decide) c hc e.symm)
  refine ⟨rowa, dn ++ [e], k1 ++ k2, _, ks, v', xs ++ [(o.1, kf e, e.wt)], rfl, h.perm, ⟨_, it1.ext e5 (it1.ne_row rowa).2 (it1.ne_row rowa).1⟩, it2.ext e5 (it2.ne_row rowa).2 (it2.ne_row rowa).1, M1.rowx rowa e5, set_heap rowa v',
    ownsRow_ext ownk2 e5 (fun c hc e => row_ne rowa ownk2 (by decide) (by rw [hc, e])), by rw [h.hxs]; simp, ownsRow_ext ho e5 (fun c hc e => row_ne rowa ho (by decide) (by rw [hc, e])), ?_⟩
  exact ((h.he.trans eA.no).then he (fun c hc e => by have := (h.own.lt c e.symm).1; omega)).trans e5

theorem SM2.len {kf : EdgeR → Int} {done l1 l2 : List (Int × Nat)} {L : List (Int × Nat)} {F : Int → List EdgeR} {o : Int × Nat} {ds : List Tri} {dn lf : List EdgeR} (hp : ((done ++ [o]) ++ (l1 ++ l2)).Perm L) (hd : ds.Perm ((done.map (·.1)).flatMap (triL kf F))) (hq : (dn ++ lf).Perm (F o.1))
    (hL : ((L.map (·.1)).flatMap (triL kf F)).length < 1000000) : (ds ++ dn.map (fun e => (o.1, kf e, e.wt)) : List Tri).length < 1000000 := by
  have h1 := ((hp.map (·.1)).flatMap_right (triL kf F)).length_eq
  have h2 := hd.length_eq
  have h3 := hq.length_eq
  have h4 : (triL kf F o.1).length = (F o.1).length := by simp [triL]
  simp only [List.map_append, List.flatMap_append, List.length_append, List.map_cons, List.map_nil, List.flatMap_cons, List.flatMap_nil, List.length_nil, List.length_map] at h1 h3 ⊢
  omega
end Go.Proofs.YtcenebjdhbdejaaGreatDoor

namespace Go.Proofs.YtcenebjdhbdejaaGreatDoor
open Go.MapKept

inductive TOpt where
  | dir
  | prev
  | wei

def TOpt.val : TOpt → Value
  | .dir => .func (.func 41) #[] #[]
  | .prev => .func (.func 42) #[] #[]
  | .wei => .func (.func 44) #[] #[]

abbrev TOpt.c (o : TOpt) : List Value := [o.val]
theorem TOpt.one (o : TOpt) : ∀ u ∈ o.c, u.oneCell' = true := by
  intro u hu
  simp only [List.mem_cons, List.not_mem_nil, or_false] at hu
  subst hu; cases o <;> rfl

def TOpt.on (o : TOpt) (τ : Tr) : Tr :=
  match o with
  | .dir => { τ with dir := true }
  | .prev => { τ with acyc := true, prev := true }
  | .wei => { τ with wei := true }

abbrev trObj (τ : Tr) : Obj := .cells #[.bool τ.dir, .bool τ.acyc, .bool τ.wei, .bool τ.root, .bool τ.prev] 113 (0, 0)

theorem set_tr {w : World} {b : Nat} {τ : Tr} (h : w.heap[b]? = some (trObj τ)) (o : Nat) (v : Bool) :
    (w.setCell ⟨b, o, none⟩ (.bool v)).heap[b]? = some (.cells (#[.bool τ.dir, .bool τ.acyc, .bool τ.wei, .bool τ.root, .bool τ.prev].setIfInBounds o (.bool v)) 113 (0, 0)) := set_heap h _

set_option maxRecDepth 100000 in
theorem opt41_run {w : World} {b : Nat} {τ : Tr} (h : w.heap[b]? = some (trObj τ)) : Calls Tryz.prog 41 #[.pointer (some ⟨b, 0, none⟩)] w fun r w' => r = .returned (.tuple #[]) ∧ w'.heap[b]? = some (trObj (TOpt.dir.on τ)) ∧ Ext (fun c => c = b) w w' := by
  obtain ⟨x0, x1, x2, x3, x4, f0, f1, f2, f3, f4⟩ := edge_cells h (Ext.refl _ w)
  have l0 := World.block_lt_of_cell? _ _ x0
  have H := Lib.hid h
  clear h
  go_enter Tryz.func41, Tryz.ntmps41
  go_wp2
  go_end0
  exact ⟨rfl, set_tr H.out 0 true, (Ext.refl _ _).setCell _ _ (fun _ => rfl)⟩

set_option maxRecDepth 100000 in
theorem opt44_run {w : World} {b : Nat} {τ : Tr} (h : w.heap[b]? = some (trObj τ)) : Calls Tryz.prog 44 #[.pointer (some ⟨b, 0, none⟩)] w fun r w' => r = .returned (.tuple #[]) ∧ w'.heap[b]? = some (trObj (TOpt.wei.on τ)) ∧ Ext (fun c => c = b) w w' := by
  obtain ⟨x0, x1, x2, x3, x4, f0, f1, f2, f3, f4⟩ := edge_cells h (Ext.refl _ w)
  have l0 := World.block_lt_of_cell? _ _ x0
  have H := Lib.hid h
  clear h
  go_enter Tryz.func44, Tryz.ntmps44
  go_wp2
  go_end0
  exact ⟨rfl, set_tr H.out 2 true, (Ext.refl _ _).setCell _ _ (fun _ => rfl)⟩

set_option maxRecDepth 100000 in
theorem opt56_run {w : World} {b : Nat} {τ : Tr} (h : w.heap[b]? = some (trObj τ)) : Calls Tryz.prog 56 #[.pointer (some ⟨b, 0, none⟩)] w fun r w' => r = .returned (.tuple #[]) ∧ w'.heap[b]? = some (trObj { τ with acyc := true }) ∧ Ext (fun c => c = b) w w' := by
  obtain ⟨x0, x1, x2, x3, x4, f0, f1, f2, f3, f4⟩ := edge_cells h (Ext.refl _ w)
  have l0 := World.block_lt_of_cell? _ _ x0
  have H := Lib.hid h
  clear h
  go_enter Tryz.func56, Tryz.ntmps56
  go_wp2
  go_end0
  exact ⟨rfl, set_tr H.out 1 true, (Ext.refl _ _).setCell _ _ (fun _ => rfl)⟩

set_option maxRecDepth 100000 in
theorem f43_run (w : World) : Calls Tryz.prog 43 #[] w fun r w' => r = .returned (.func (.func 56) #[] #[]) ∧ w = w' := by
  go_enter Tryz.func43, Tryz.ntmps43
  go_wp2
  go_ret
  exact ⟨rfl, rfl⟩
set_option maxRecDepth 100000 in
theorem f30_run (w : World) : Calls Tryz.prog 30 #[] w fun r w' => r = .returned TOpt.dir.val ∧ w = w' := by
  go_enter Tryz.func30, Tryz.ntmps30
  go_wp2
  go_ret
  exact ⟨rfl, rfl⟩
set_option maxRecDepth 100000 in
theorem f31_run (w : World) : Calls Tryz.prog 31 #[] w fun r w' => r = .returned TOpt.prev.val ∧ w = w' := by
  go_enter Tryz.func31, Tryz.ntmps31
  go_wp2
  go_ret
  exact ⟨rfl, rfl⟩
set_option maxRecDepth 100000 in
theorem f32_run (w : World) : Calls Tryz.prog 32 #[] w fun r w' => r = .returned TOpt.wei.val ∧ w = w' := by
  go_enter Tryz.func32, Tryz.ntmps32
  go_wp2
  go_ret
  exact ⟨rfl, rfl⟩

set_option maxRecDepth 100000 in
theorem opt42_run {w : World} {b : Nat} {τ : Tr} (h : w.heap[b]? = some (trObj τ)) : Calls Tryz.prog 42 #[.pointer (some ⟨b, 0, none⟩)] w fun r w' => r = .returned (.tuple #[]) ∧ w'.heap[b]? = some (trObj (TOpt.prev.on τ)) ∧ Ext (fun c => c = b) w w' := by
  have H := Lib.hid (opt56_run h)
  clear h
  go_enter Tryz.func42, Tryz.ntmps42
  go_wp2_with (first | (go_at_call 43; (refine (f43_run _).mono ?_); rintro r1 w1 ⟨rfl, rfl⟩) | (go_at_call 56; (refine H.out.mono ?_); rintro r1 w1 ⟨rfl, h1, h2⟩; obtain ⟨x0, x1, x2, x3, x4, f0, f1, f2, f3, f4⟩ := edge_cells h1 (Ext.refl _ w1); have l0 := World.block_lt_of_cell? _ _ x0; have HH := Lib.hid (And.intro h1 h2); clear h1 h2))
  go_end0
  exact ⟨rfl, set_tr HH.out.1 4 true, HH.out.2.setCell _ _ (fun _ => rfl)⟩

/-- an option's run, whichever it is -/
theorem U80 : Tryz.prog.underlying 80 = some (.slice 81) := by kernel_rfl
theorem I81 : (Tryz.prog.info? 81).map (fun i => (i.zero, i.size, i.bytes)) = some (some .nilFunc, 1, 8) := by kernel_rfl

/-- the traits that options make -/
def trOf (l : List TOpt) : Tr := l.foldl (fun τ o => o.on τ) ⟨false, false, false, false, false⟩

def σ0 : St := ⟨[], [], [], []⟩
/-- an empty store -/
def Empty (w : World) (A : Ad) : Prop := Store w A σ0

set_option maxRecDepth 100000 in
theorem newStore (w : World) : Calls Tryz.prog 46 #[] w fun r w' => ∃ A : Ad, r = .returned (storeV A) ∧ Store w' A σ0 ∧ Ext No w w' ∧ ∀ c, σ0.foot A c → w.heap.size ≤ c := by
  have hmm := makeMapR Tryz.prog
  go_enter Tryz.func46, Tryz.ntmps46
  go_wp2
  go_ret
  refine ⟨⟨w.heap.size + 4, w.heap.size, w.heap.size + 1, w.heap.size + 2, w.heap.size + 3⟩, rfl, ?_, ((((Ext.refl _ _).alloc _).alloc _).alloc _).alloc _ |>.alloc _, ?_⟩
  · have e : ∀ (w : World) (o : Obj), (w.alloc o).heap[w.heap.size]? = some o := fun w o => (heap_alloc w o).1
    have h0 := alloc_heap (alloc_heap (alloc_heap (alloc_heap (e w (.map #[] 0)) (.map #[] 0)) (.map #[] 0)) (.map #[] 0)) (.cells #[.map (some w.heap.size), .map (some (w.heap.size + 1)), .map (some (w.heap.size + 2)), .map (some (w.heap.size + 3))] 149)
    have h1 := alloc_heap (alloc_heap (alloc_heap (e (w.alloc (.map #[] 0)) (.map #[] 0)) (.map #[] 0)) (.map #[] 0)) (.cells #[.map (some w.heap.size), .map (some (w.heap.size + 1)), .map (some (w.heap.size + 2)), .map (some (w.heap.size + 3))] 149)
    have h2 := alloc_heap (alloc_heap (e ((w.alloc (.map #[] 0)).alloc (.map #[] 0)) (.map #[] 0)) (.map #[] 0)) (.cells #[.map (some w.heap.size), .map (some (w.heap.size + 1)), .map (some (w.heap.size + 2)), .map (some (w.heap.size + 3))] 149)
    have h3 := alloc_heap (e (((w.alloc (.map #[] 0)).alloc (.map #[] 0)).alloc (.map #[] 0)) (.map #[] 0)) (.cells #[.map (some w.heap.size), .map (some (w.heap.size + 1)), .map (some (w.heap.size + 2)), .map (some (w.heap.size + 3))] 149)
    have h4 := e ((((w.alloc (.map #[] 0)).alloc (.map #[] 0)).alloc (.map #[] 0)).alloc (.map #[] 0)) (.cells #[.map (some w.heap.size), .map (some (w.heap.size + 1)), .map (some (w.heap.size + 2)), .map (some (w.heap.size + 3))] 149)
    simp only [World.size_alloc] at h1 h2 h3 h4
    exact ⟨h4, MapI.empty h0, MapI.empty h1, MapI.empty h2, MapI.empty h3, by simp [σ0], by simp [σ0], by simp [σ0], by simp [σ0], by simp [σ0], by simp [σ0, St.atts], by simp [St.blocks, σ0], by simp [σ0, St.atts]⟩
  · rintro c (hc | hc)
    · simp [St.blocks, σ0] at hc; omega
    · simp [St.atts, σ0] at hc

/-- a graph's type -/
def grT (dir : Bool) : TypeId := if dir then 141 else 143

/-- an empty graph, all of it new -/
def Fresh (dir : Bool) (w : World) (τ : Tr) (r : Ending) (w' : World) : Prop :=
  ∃ H : Hd, r = .returned (.iface (grT dir) (.pointer (some ⟨H.d, 0, none⟩))) ∧ Gr w' H τ σ0 ∧ Ext No w w' ∧ ∀ c, Gr.foot H σ0 c → w.heap.size ≤ c

def NR (w w0 : World) (t : Nat) (opts : List TOpt) (ov : Value) (k : Nat) (v : Value) (wr : World) : Prop :=
  ∃ i : Nat, v = .int .i64 i ∧ i + k = opts.length ∧ wr.heap[t]? = some (trObj (trOf (opts.take i))) ∧ wr.ownsRow w.heap.size 81 1 ov opts.length (opts.flatMap TOpt.c) ∧ Ext (fun c => c = t) w0 wr

set_option maxRecDepth 100000 in
theorem newDir_run (t : Nat) (A : Ad) (w : World) : Calls Tryz.prog 57 #[hashV, .pointer (some ⟨t, 0, none⟩), storeV A] w fun r w' => r = .returned (.pointer (some ⟨w.heap.size, 0, none⟩)) ∧ w' = w.alloc (.cells #[hashV, .pointer (some ⟨t, 0, none⟩), storeV A] 174) := by
  go_enter Tryz.func57, Tryz.ntmps57
  go_wp2
  go_ret
  exact ⟨rfl, rfl⟩
set_option maxRecDepth 100000 in
theorem newUndir_run (t : Nat) (A : Ad) (w : World) : Calls Tryz.prog 58 #[hashV, .pointer (some ⟨t, 0, none⟩), storeV A] w fun r w' => r = .returned (.pointer (some ⟨w.heap.size, 0, none⟩)) ∧ w' = w.alloc (.cells #[hashV, .pointer (some ⟨t, 0, none⟩), storeV A] 175) := by
  go_enter Tryz.func58, Tryz.ntmps58
  go_wp2
  go_ret
  exact ⟨rfl, rfl⟩

theorem Fresh.of {wb w wr : World} {A : Ad} {τ : Tr} {dir : Bool} {T T' : TypeId} (hs : Store w A σ0) (he : Ext No w wr) (ht : wr.heap[w.heap.size]? = some (trObj τ)) (hT : T = if τ.dir then 174 else 175) (hb : Ext No wb w) (hA : ∀ c, σ0.foot A c → wb.heap.size ≤ c) (hT' : T' = grT dir) (hsz : wb.heap.size ≤ w.heap.size) :
    Fresh dir wb τ (.returned (.iface T' (.pointer (some ⟨wr.heap.size, 0, none⟩)))) (wr.alloc (.cells #[hashV, .pointer (some ⟨w.heap.size, 0, none⟩), storeV A] T)) := by
  have hlt := (Array.getElem?_eq_some_iff.1 ht).1
  have h1 := he.size
  refine ⟨⟨wr.heap.size, w.heap.size, A⟩, by rw [hT'], ⟨?_, alloc_heap ht _, hs.ext (he.alloc _) (fun _ _ h => h), fun hf => ?_, fun hf => ?_, by show wr.heap.size ≠ w.heap.size; omega⟩, (hb.trans he).alloc _, ?_⟩
  · rw [← hT]; exact (heap_alloc wr _).1
  · have := hs.foot_lt hf; simp at this; omega
  · have := hs.foot_lt hf; simp at this
  · rintro c (rfl | rfl | hc)
    · show wb.heap.size ≤ wr.heap.size; omega
    · exact hsz
    · exact hA c hc

set_option maxRecDepth 100000 in
set_option maxHeartbeats 1000000 in
theorem newWithStore {w wb : World} {A : Ad} {opts : List TOpt} {ov : Value} (hs : Store w A σ0) (ho : w.ownsRow wb.heap.size 81 1 ov opts.length (opts.flatMap TOpt.c)) (hl : opts.length < 1000000) (hwb : wb.heap.size ≤ w.heap.size) (hA : ∀ c, σ0.foot A c → wb.heap.size ≤ c)
    (hwe : Ext No wb w) :
    Calls Tryz.prog 45 #[hashV, storeV A, ov] w (Fresh (trOf opts).dir wb (trOf opts)) := by
  obtain ⟨q, cap, rfl, -⟩ := own_read (f := TOpt.c) (fun _ => rfl) ho
  have HS := Lib.hid (And.intro hs (And.intro ho (And.intro hl (And.intro hwb (And.intro hA hwe)))))
  clear hs ho hl hwb hA hwe
  go_enter Tryz.func45, Tryz.ntmps45
  go_wp2
  have hN := (heap_alloc w (.cells #[.bool false, .bool false, .bool false, .bool false, .bool false] 113)).1
  have HN := Lib.hid (And.intro hN (show Ext No w (w.alloc (.cells #[.bool false, .bool false, .bool false, .bool false, .bool false] 113)) from (Ext.refl _ w).alloc _))
  clear hN
  try go_frame
  go_loopg [12] opts.length (fun k v wr => NR wb (w.alloc (.cells #[.bool false, .bool false, .bool false, .bool false, .bool false] 113)) w.heap.size opts (.slice q opts.length cap) k v wr)
  case atStart => exact ⟨0, rfl, by simp, HN.out.1, ownsRow_ext HS.out.2.1 HN.out.2 (fun _ _ h => h), Ext.refl _ _⟩
  case round =>
    obtain ⟨i, rfl, hk, ht, ho, he⟩ := hrel
    by_cases hlt : i < opts.length
    · obtain ⟨g, rfl, hg, hc⟩ := own_at (f := TOpt.c) (fun _ => rfl) ho hlt
      have hx : wr.cell? ⟨g, i, none⟩ = some (opts[i]'hlt).val := by have := hc 0 (by decide); simpa using this
      have hlt' : (i : Int) < (opts.length : Int) := by omega
      have HR := Lib.hid (And.intro hk (And.intro ht (And.intro ho he)))
      clear hk ho he hc
      have ht' := HR.out.2.1
      have hstep : ∀ wn : World, wn.heap[w.heap.size]? = some (trObj ((opts[i]'hlt).on (trOf (opts.take i)))) → Ext (fun c => c = w.heap.size) wr wn → NR wb (w.alloc (.cells #[.bool false, .bool false, .bool false, .bool false, .bool false] 113)) w.heap.size opts (.slice (some ⟨g, 0, none⟩) opts.length cap) (opts.length - (i + 1)) (.int .i64 ((i + 1 : Nat) : Int)) wn := by
        intro wn h1 h2
        obtain ⟨hk, ht, ho, he⟩ := HR.out
        refine ⟨i + 1, rfl, by omega, ?_, ownsRow_ext ho h2 (fun c hc e => row_ne ht ho (by decide) (by rw [hc, e])), he.trans h2⟩
        rw [List.take_add_one, List.getElem?_eq_getElem hlt]
        simp only [trOf, Option.toList_some, List.foldl_append, List.foldl_cons, List.foldl_nil] at h1 ⊢
        exact h1
      have HT := Lib.hid hstep
      clear hstep
      have hw := w64 (i := i) (by have := HS.out.2.2.1; omega)
      have hwk := HR.out.1
      have HW := Lib.hid (And.intro hw hwk)
      clear hw hwk
      revert hx HT
      cases opts[i]'hlt with
      | dir =>
        intro hx HT
        simp only [TOpt.val] at hx
        go_wp2_with (go_at_call 41; (refine (opt41_run ht').mono ?_); rintro r1 w1 ⟨rfl, h1, h2⟩)
        go_roundg (opts.length - (i + 1))
        case measure => have := HW.out.2; omega
        case rel => rw [HW.out.1]; exact HT.out w1 h1 h2
      | prev =>
        intro hx HT
        simp only [TOpt.val] at hx
        go_wp2_with (go_at_call 42; (refine (opt42_run ht').mono ?_); rintro r1 w1 ⟨rfl, h1, h2⟩)
        go_roundg (opts.length - (i + 1))
        case measure => have := HW.out.2; omega
        case rel => rw [HW.out.1]; exact HT.out w1 h1 h2
      | wei =>
        intro hx HT
        simp only [TOpt.val] at hx
        go_wp2_with (go_at_call 44; (refine (opt44_run ht').mono ?_); rintro r1 w1 ⟨rfl, h1, h2⟩)
        go_roundg (opts.length - (i + 1))
        case measure => have := HW.out.2; omega
        case rel => rw [HW.out.1]; exact HT.out w1 h1 h2
    · have hnlt : ¬ (i : Int) < (opts.length : Int) := by omega
      have hi : i = opts.length := by omega
      subst hi
      rw [List.take_length] at ht
      obtain ⟨x0, x1, x2, x3, x4, -⟩ := edge_cells ht (Ext.refl _ wr)
      have l0 := World.block_lt_of_cell? _ _ x0
      have HR := Lib.hid (And.intro ht he)
      clear hk ht ho he
      have HE : Ext No w wr := HN.out.2.then HR.out.2 (fun c hc e => by omega)
      have HE := Lib.hid HE
      cases hd : (trOf opts).dir with
      | true =>
        rw [hd] at x0
        go_wp2_with (go_at_call 57; (refine (newDir_run _ _ _).mono ?_); rintro r1 w1 ⟨rfl, rfl⟩)
        go_ret
        exact Fresh.of (T := 174) HS.out.1 HE.out HR.out.1 (by rw [hd]; rfl) HS.out.2.2.2.2.2 HS.out.2.2.2.2.1 (by rw [hd]; rfl) HS.out.2.2.2.1
      | false =>
        rw [hd] at x0
        go_wp2_with (go_at_call 58; (refine (newUndir_run _ _ _).mono ?_); rintro r1 w1 ⟨rfl, rfl⟩)
        go_ret
        exact Fresh.of (T := 175) HS.out.1 HE.out HR.out.1 (by rw [hd]; rfl) HS.out.2.2.2.2.2 HS.out.2.2.2.2.1 (by rw [hd]; rfl) HS.out.2.2.2.1

set_option maxRecDepth 100000 in
set_option maxHeartbeats 1000000 in
theorem new_run {w wb : World} {opts : List TOpt} {ov : Value} (ho : w.ownsRow wb.heap.size 81 1 ov opts.length (opts.flatMap TOpt.c)) (hl : opts.length < 1000000) (hwe : Ext No wb w) :
    Calls Tryz.prog 33 #[hashV, ov] w (Fresh (trOf opts).dir wb (trOf opts)) := by
  have HS := Lib.hid (And.intro ho (And.intro hl hwe))
  clear ho hl hwe
  go_enter Tryz.func33, Tryz.ntmps33
  go_wp2_with fail
  refine (newStore w).mono ?_
  rintro r1 w1 ⟨A, rfl, hs, he, hA⟩
  have HC := Lib.hid (newWithStore hs (ownsRow_ext HS.out.1 he (fun _ _ h => h)) HS.out.2.1 (Nat.le_trans HS.out.2.2.size he.size) (fun c hc => Nat.le_trans HS.out.2.2.size (hA c hc)) (HS.out.2.2.trans he))
  clear hs he hA
  go_wp2_with fail
  refine HC.out.mono ?_
  rintro r2 w2 ⟨H, rfl, h1, h2, h3⟩
  have HD := Lib.hid (And.intro h1 (And.intro h2 h3))
  clear h1 h2 h3
  go_wp2
  go_ret
  exact ⟨H, rfl, HD.out⟩

def oD (directed prevent weighted : Bool) : List TOpt := (if directed then [.dir] else []) ++ (if prevent then [.prev] else []) ++ (if weighted then [.wei] else [])
theorem oD_len (d p w : Bool) : (oD d p w).length < 1000000 := by cases d <;> cases p <;> cases w <;> decide
theorem oD_dir (d p w : Bool) : (trOf (oD d p w)).dir = d := by cases d <;> cases p <;> cases w <;> rfl
theorem oD_prev (d p w : Bool) : (trOf (oD d p w)).prev = p := by cases d <;> cases p <;> cases w <;> rfl

/-- the options so far -/
def OS (w : World) (l : List TOpt) (v : Value) (wc : World) : Prop := wc.ownsRow w.heap.size 81 1 v l.length (l.flatMap TOpt.c) ∧ Ext No w wc

theorem OS.more {w w1 w2 : World} {l : List TOpt} {o : TOpt} {v v' : Value} (h : OS w l v w1) (ho : w2.ownsRow w.heap.size 81 1 v' (l ++ [o]).length ((l ++ [o]).flatMap TOpt.c)) (he : Ext (fun c => some c = v.ownBlock) (w1.alloc (.cells #[o.val] 81)) w2) : OS w (l ++ [o]) v' w2 :=
  ⟨ho, (h.2.alloc _).then he (fun c hc e => by have := (h.1.lt c e.symm).1; omega)⟩

set_option maxRecDepth 100000 in
set_option maxHeartbeats 1000000 in
theorem started_run (directed prevent weighted : Bool) (w : World) :
    Calls Tryz.prog 23 #[.bool directed, .bool prevent, .bool weighted] w (Fresh directed w (trOf (oD directed prevent weighted))) := by
  go_enter Tryz.func23, Tryz.ntmps23
  go_upto_if 8 with fail
  go_cut [7] from 9 (fun v wc => OS w (if directed then [.dir] else []) v wc)
  case first =>
    have hon : (w.alloc (.cells #[TOpt.dir.val] 81)).ownsRow w.heap.size 81 1 nilS ([] : List TOpt).length (([] : List TOpt).flatMap TOpt.c) := ⟨by simp, Or.inl ⟨rfl, rfl⟩⟩
    cases directed with
    | false =>
      go_wp2
      go_meet
      case rel => exact ⟨⟨by simp, Or.inl ⟨rfl, rfl⟩⟩, Ext.refl _ _⟩
    | true =>
      go_wp2_with (first | (go_at_call 30; (refine (f30_run _).mono ?_); rintro r1 w1 ⟨rfl, rfl⟩) | (at_builtin; (refine wpL_append1 rfl rfl U80 I81 rfl (by decide) (by decide) (f := TOpt.c) (fun _ => rfl) TOpt.one rfl hon TOpt.dir rfl ⟨81, (0, 0), (heap_alloc w _).1⟩ (by decide) (by simp) ?_); intro v' wa hoa hea hba))
      go_meet
      case rel => exact OS.more (l := []) (o := .dir) (v := nilS) ⟨⟨by simp, Or.inl ⟨rfl, rfl⟩⟩, Ext.refl _ _⟩ hoa hea
  case rest =>
    have HC := Lib.hid hcut
    have hon := hcut.1.alloc (.cells #[TOpt.prev.val] 81)
    have hsz := (hcut.2.alloc (.cells #[TOpt.prev.val] 81)).size
    have hln : (if directed then [TOpt.dir] else []).length < 1000000 := by cases directed <;> decide
    clear hcut
    rename_i wc1
    go_upto_if 13 with fail
    go_cut [7] from 14 (fun v wc => OS w ((if directed then [.dir] else []) ++ (if prevent then [.prev] else [])) v wc)
    case first =>
      cases prevent with
      | false =>
        go_wp2
        go_meet
        case rel => simpa using HC.out
      | true =>
        go_wp2_with (first | (go_at_call 31; (refine (f31_run _).mono ?_); rintro r1 w1 ⟨rfl, rfl⟩) | (at_builtin; (refine wpL_append1 rfl rfl U80 I81 rfl (by decide) (by decide) (f := TOpt.c) (fun _ => rfl) TOpt.one rfl hon TOpt.prev rfl ⟨81, (0, 0), (heap_alloc _ _).1⟩ hln hsz ?_); intro v' wa hoa hea hba))
        go_meet
        case rel => exact OS.more HC.out hoa hea
    case rest =>
      clear hon hsz hln HC
      have HC := Lib.hid hcut
      have hon := hcut.1.alloc (.cells #[TOpt.wei.val] 81)
      have hsz := (hcut.2.alloc (.cells #[TOpt.wei.val] 81)).size
      have hln : ((if directed then [TOpt.dir] else []) ++ (if prevent then [TOpt.prev] else [])).length < 1000000 := by cases directed <;> cases prevent <;> decide
      clear hcut
      rename_i wc2
      go_upto_if 18 with fail
      go_cut [7] from 19 (fun v wc => OS w (oD directed prevent weighted) v wc)
      case first =>
        cases weighted with
        | false =>
          go_wp2
          go_meet
          case rel => simpa [oD] using HC.out
        | true =>
          go_wp2_with (first | (go_at_call 32; (refine (f32_run _).mono ?_); rintro r1 w1 ⟨rfl, rfl⟩) | (at_builtin; (refine wpL_append1 rfl rfl U80 I81 rfl (by decide) (by decide) (f := TOpt.c) (fun _ => rfl) TOpt.one rfl hon TOpt.wei rfl ⟨81, (0, 0), (heap_alloc _ _).1⟩ hln hsz ?_); intro v' wa hoa hea hba))
          go_meet
          case rel => exact OS.more HC.out hoa hea
      case rest =>
        clear hon hsz hln HC
        have HN := Lib.hid (new_run hcut.1 (oD_len _ _ _) hcut.2)
        rw [oD_dir] at HN
        clear hcut
        go_wp2_with fail
        refine HN.out.mono ?_
        rintro r2 w2 ⟨H, rfl, h1, h2, h3⟩
        have HD := Lib.hid (And.intro h1 (And.intro h2 h3))
        clear h1 h2 h3
        go_wp2
        go_ret
        exact ⟨H, rfl, HD.out⟩
end Go.Proofs.YtcenebjdhbdejaaGreatDoor
