/- stepped: the two maps: what its rounds keep. -/
import Derived.Test.YtcenebjdhbdejaaGreatDoorS1
import Derived.Test.YtcenebjdhbdejaaGreatDoorB3
namespace Go.Proofs.YtcenebjdhbdejaaGreatDoor
open Go.MapKept

abbrev Tri := Int × Int × Int
abbrev triC (x : Tri) : List Value := [kI x.1, kI x.2.1, .int .i64 x.2.2]
abbrev oneC (k : Int) : List Value := [kI k]

theorem triC_one (x : Tri) : ∀ u ∈ triC x, u.oneCell' = true := by
  intro u hu
  simp only [List.mem_cons, List.not_mem_nil, or_false] at hu
  rcases hu with rfl | rfl | rfl <;> rfl
theorem oneC_one (k : Int) : ∀ u ∈ oneC k, u.oneCell' = true := by
  intro u hu
  simp only [List.mem_cons, List.not_mem_nil, or_false] at hu
  subst hu; rfl

/-- one vertex's edges, as stepped says them -/
def triL (kf : EdgeR → Int) (F : Int → List EdgeR) (k : Int) : List Tri := (F k).map fun e => (k, kf e, e.wt)

/-- what AdjacencyMap, PredecessorMap leave: a map of maps of edges -/
def SaysMap (kf : EdgeR → Int) (R : List Int → (Int → List EdgeR) → Prop) (w : World) (r : Ending) (w' : World) : Prop :=
  ∃ (mb : Nat) (L : List (Int × Nat)) (F : Int → List EdgeR), r = .returned (.tuple #[.map (some mb), .nilIface]) ∧ MapM w' mb L (fun a => (F a).map fun e => (kf e, e.val)) ∧ Ext No w w' ∧ L.length < 1000000 ∧ ((L.map (·.1)).flatMap (triL kf F)).length < 1000000 ∧ R (L.map (·.1)) F

theorem ownsRow_ne {w : World} {B B' e e' size size' n n' : Nat} {v v' : Value} {xs xs' : List Value} (h : w.ownsRow B e size v n xs) (h' : w.ownsRow B' e' size' v' n' xs') (hne : e ≠ e') : ∀ c, v.ownBlock = some c → v'.ownBlock ≠ some c := by
  intro c hc hc'
  rcases h.2 with ⟨rfl, -⟩ | ⟨g, cap, cur, rfl, hb, hgg, rest⟩
  · simp [Value.ownBlock] at hc
  · rcases h'.2 with ⟨rfl, -⟩ | ⟨g', cap', cur', rfl, hb', hgg', rest'⟩
    · simp [Value.ownBlock] at hc'
    · simp only [Value.ownBlock, Option.some.injEq] at hc hc'
      subst hc; subst hc'
      rw [hgg] at hgg'
      simp only [Option.some.injEq, Obj.cells.injEq] at hgg'
      exact hne hgg'.2.1

theorem row_ne {w : World} {b : Nat} {cs : Array Value} {T : TypeId} {fr : Nat × Nat} (h : w.heap[b]? = some (.cells cs T fr)) {B e size n : Nat} {v : Value} {xs : List Value} (ho : w.ownsRow B e size v n xs) (hne : T ≠ e) : v.ownBlock ≠ some b := by
  intro hc
  rcases ho.2 with ⟨rfl, -⟩ | ⟨g, cap, cur, rfl, hb, hgg, rest⟩
  · simp [Value.ownBlock] at hc
  · simp only [Value.ownBlock, Option.some.injEq] at hc
    subst hc
    rw [h] at hgg
    simp only [Option.some.injEq, Obj.cells.injEq] at hgg
    exact hne hgg.2.1

/-- the round over the outer map -/
def SM1 (kf : EdgeR → Int) (N t : Nat) (w2 : World) (mb r : Nat) (L : List (Int × Nat)) (F : Int → List EdgeR) (k : Nat) (wr : World) : Prop :=
  ∃ (done left : List (Int × Nat)) (cur : Option (Int × Value)) (ks es : Value) (ds : List Tri), left.length = k ∧ (done ++ left).Perm L ∧
    IterI kI wr r mb (L.map fun o => (o.1, .map (some o.2))) (left.map fun o => (o.1, .map (some o.2))) cur ∧ MapM wr mb L (fun a => (F a).map fun e => (kf e, e.val)) ∧
    wr.heap[t]? = some (.cells #[.int .u8 0, .int .i64 0, .int .i64 0, .int .i64 0, ks, es] 39 (0, 0)) ∧
    wr.ownsRow N 2 1 ks done.length (done.flatMap fun o => oneC o.1) ∧ ds.Perm ((done.map (·.1)).flatMap (triL kf F)) ∧ wr.ownsRow N 59 3 es ds.length (ds.flatMap triC) ∧
    Ext (fun c => c = t) w2 wr

/-- the round over an inner map -/
def SM2 (kf : EdgeR → Int) (N t : Nat) (w2 : World) (mb r r2 : Nat) (L : List (Int × Nat)) (F : Int → List EdgeR) (done left : List (Int × Nat)) (o : Int × Nat) (ds : List Tri) (k : Nat) (wr : World) : Prop :=
  ∃ (dn lf : List EdgeR) (cur2 : Option (Int × Value)) (ks es : Value) (xs : List Tri), lf.length = k ∧ (dn ++ lf).Perm (F o.1) ∧
    (∃ cur, IterI kI wr r mb (L.map fun o => (o.1, .map (some o.2))) (left.map fun o => (o.1, .map (some o.2))) cur) ∧
    IterI kI wr r2 o.2 ((F o.1).map fun e => (kf e, e.val)) (lf.map fun e => (kf e, e.val)) cur2 ∧ MapM wr mb L (fun a => (F a).map fun e => (kf e, e.val)) ∧
    wr.heap[t]? = some (.cells #[.int .u8 0, .int .i64 0, .int .i64 0, .int .i64 0, ks, es] 39 (0, 0)) ∧
    wr.ownsRow N 2 1 ks (done ++ [o]).length ((done ++ [o]).flatMap fun o => oneC o.1) ∧ xs = ds ++ dn.map (fun e => (o.1, kf e, e.wt)) ∧ wr.ownsRow N 59 3 es xs.length (xs.flatMap triC) ∧
    Ext (fun c => c = t) w2 wr

theorem U37 : Tryz.prog.underlying 37 = some (.slice 59) := by kernel_rfl
theorem I59 : (Tryz.prog.info? 59).map (fun i => (i.zero, i.size, i.bytes)) = some (some (.agg #[.int .i64 0, .int .i64 0, .int .i64 0]), 3, 24) := by kernel_rfl

theorem MapI.ne_row {α : Type} {kv : α → Value} {w : World} {b : Nat} {M : List (α × Value)} (h : MapI kv w b M) {t : Nat} {cs : Array Value} {T : TypeId} {fr : Nat × Nat} (ht : w.heap[t]? = some (.cells cs T fr)) : b ≠ t := by
  rintro rfl
  obtain ⟨⟨es, clk, h1, -⟩, -⟩ := h
  rw [h1] at ht; cases ht
theorem MapM.rowx {w w' : World} {mb : Nat} {L : List (Int × Nat)} {F : Int → List (Int × Value)} (h : MapM w mb L F) {t : Nat} {cs : Array Value} {T : TypeId} {fr : Nat × Nat} (ht : w.heap[t]? = some (.cells cs T fr)) (he : Ext (fun c => c = t) w w') : MapM w' mb L F :=
  ⟨h.out.ext he (h.out.ne_row ht), fun o ho => (h.inn o ho).ext he ((h.inn o ho).ne_row ht), h.nd⟩
theorem MapM.own {w w' : World} {mb : Nat} {L : List (Int × Nat)} {F : Int → List (Int × Value)} (h : MapM w mb L F) {B e size n : Nat} {v : Value} {xs : List Value} (ho : w.ownsRow B e size v n xs) (he : Ext (fun c => some c = v.ownBlock) w w') : MapM w' mb L F :=
  ⟨h.out.ext he (fun e => h.out.not_row ho e.symm), fun o ho' => (h.inn o ho').ext he (fun e => (h.inn o ho').not_row ho e.symm), h.nd⟩
theorem IterI.is_iter {α : Type} {kv : α → Value} {w : World} {r b : Nat} {M left : List (α × Value)} {cur : Option (α × Value)} (h : IterI kv w r b M left cur) : ∃ a c d e, w.heap[r]? = some (.mapIter a c d e) := by
  obtain ⟨⟨es, clk, since, seen, h1, h2, h3, h4, h5, h6⟩, h7⟩ := h
  exact ⟨_, _, _, _, h5⟩
theorem IterI.ne_row {α : Type} {kv : α → Value} {w : World} {r b : Nat} {M left : List (α × Value)} {cur : Option (α × Value)} (h : IterI kv w r b M left cur) {t : Nat} {cs : Array Value} {T : TypeId} {fr : Nat × Nat} (ht : w.heap[t]? = some (.cells cs T fr)) : r ≠ t ∧ b ≠ t := by
  obtain ⟨⟨es, clk, since, seen, h1, h2, h3, h4, h5, h6⟩, h7⟩ := h
  refine ⟨?_, ?_⟩
  · rintro rfl; rw [h5] at ht; cases ht
  · rintro rfl; rw [h1] at ht; cases ht
theorem MapM.iter {w w' : World} {mb : Nat} {L : List (Int × Nat)} {F : Int → List (Int × Value)} (h : MapM w mb L F) {r : Nat} (hr : ∃ a c d e, w.heap[r]? = some (.mapIter a c d e)) (he : Ext (fun c => c = r) w w') : MapM w' mb L F := by
  obtain ⟨a, c, d, e, hr⟩ := hr
  have k : ∀ b M, MapI kI w b M → b ≠ r := by
    rintro b M ⟨⟨es, clk, h1, -⟩, -⟩ rfl
    rw [h1] at hr; cases hr
  exact ⟨h.out.ext he (k _ _ h.out), fun o ho => (h.inn o ho).ext he (k _ _ (h.inn o ho)), h.nd⟩
theorem ownsRow_iter {w w' : World} {r : Nat} (hr : ∃ a c d e, w.heap[r]? = some (.mapIter a c d e)) {B e size n : Nat} {v : Value} {xs : List Value} (ho : w.ownsRow B e size v n xs) (he : Ext (fun c => c = r) w w') : w'.ownsRow B e size v n xs := by
  refine ownsRow_ext ho he fun c hc h => ?_
  subst h
  obtain ⟨a, c', d, e, hr⟩ := hr
  rcases ho.2 with ⟨rfl, -⟩ | ⟨g, cap, cur, rfl, hb, hgg, rest⟩
  · simp [Value.ownBlock] at hc
  · simp only [Value.ownBlock, Option.some.injEq] at hc
    subst hc
    rw [hr] at hgg; cases hgg

/-- what is known behind an outer step of the range -/
structure Ahead (kf : EdgeR → Int) (N t : Nat) (w2 : World) (mb r : Nat) (L : List (Int × Nat)) (F : Int → List EdgeR) (done l1 l2 : List (Int × Nat)) (o : Int × Nat) (ks es : Value) (ds : List Tri) (k : Nat) (wn : World) : Prop where
  len : (l1 ++ l2).length + 1 = k
  perm : ((done ++ [o]) ++ (l1 ++ l2)).Perm L
  mem : o ∈ L
  it : IterI kI wn r mb (L.map fun o => (o.1, .map (some o.2))) ((l1 ++ l2).map fun o => (o.1, .map (some o.2))) (some (o.1, .map (some o.2)))
  M : MapM wn mb L (fun a => (F a).map fun e => (kf e, e.val))
  row : wn.heap[t]? = some (.cells #[.int .u8 0, .int .i64 0, .int .i64 0, .int .i64 0, ks, es] 39 (0, 0))
  own : (wn.alloc (.cells #[kI o.1] 2)).ownsRow N 2 1 ks done.length (done.flatMap fun o => oneC o.1)
  dsp : ds.Perm ((done.map (·.1)).flatMap (triL kf F))
  owe : wn.ownsRow N 59 3 es ds.length (ds.flatMap triC)
  he : Ext (fun c => c = t) w2 wn
  size : N ≤ (wn.alloc (.cells #[kI o.1] 2)).heap.size

theorem Ahead.of {kf : EdgeR → Int} {N t k : Nat} {w2 wr wn : World} {mb r : Nat} {L : List (Int × Nat)} {F : Int → List EdgeR} {done left l1 l2 : List (Int × Nat)} {o : Int × Nat} {ks es : Value} {ds : List Tri} {cur : Option (Int × Value)}
    (h1 : left = l1 ++ o :: l2) (hIn : IterI kI wn r mb (L.map fun o => (o.1, .map (some o.2))) ((l1 ++ l2).map fun o => (o.1, .map (some o.2))) (some (o.1, .map (some o.2)))) (hsn : wn.heap.size = wr.heap.size) (hen : Ext (fun c => c = r) wr wn)
    (hK : left.length = k ∧ (done ++ left).Perm L ∧ IterI kI wr r mb (L.map fun o => (o.1, .map (some o.2))) (left.map fun o => (o.1, .map (some o.2))) cur ∧ MapM wr mb L (fun a => (F a).map fun e => (kf e, e.val)) ∧
      wr.heap[t]? = some (.cells #[.int .u8 0, .int .i64 0, .int .i64 0, .int .i64 0, ks, es] 39 (0, 0)) ∧ wr.ownsRow N 2 1 ks done.length (done.flatMap fun o => oneC o.1) ∧ ds.Perm ((done.map (·.1)).flatMap (triL kf F)) ∧ wr.ownsRow N 59 3 es ds.length (ds.flatMap triC) ∧
      Ext (fun c => c = t) w2 wr ∧ (∃ a c d e, wr.heap[r]? = some (.mapIter a c d e)) ∧ r ≠ t ∧ done.length < 1000000) (hr : w2.heap.size ≤ r) (hN : N ≤ w2.heap.size) : Ahead kf N t w2 mb r L F done l1 l2 o ks es ds k wn := by
  obtain ⟨hl, hperm, hI, hM, hrow, hks, hds, hes, he, hri, hrt, hdl⟩ := hK
  subst h1
  refine ⟨by simp at hl ⊢; omega, ?_, hperm.mem_iff.1 (by simp), hIn, hM.iter hri hen, hen.obj hrow (Ne.symm hrt), (ownsRow_iter hri hks hen).alloc _, hds, ownsRow_iter hri hes hen, he.then hen (fun c hc e => by omega), ?_⟩
  · refine List.Perm.trans ?_ hperm
    simp only [List.append_assoc, List.singleton_append]
    exact List.Perm.append_left _ List.perm_middle.symm
  · have := he.size; simp; omega

/-- what is known behind the append of a key: in the world behind the append, and in the one behind the store -/
structure AheadA (kf : EdgeR → Int) (N t : Nat) (w2 : World) (mb r : Nat) (L : List (Int × Nat)) (F : Int → List EdgeR) (done l1 l2 : List (Int × Nat)) (o : Int × Nat) (ks es : Value) (ds : List Tri) (v' : Value) (wa W5 : World) : Prop where
  rowa : wa.heap[t]? = some (.cells #[.int .u8 0, .int .i64 0, .int .i64 0, .int .i64 0, ks, es] 39 (0, 0))
  inn : MapI kI W5 o.2 ((F o.1).map fun e => (kf e, e.val))
  it : IterI kI W5 r mb (L.map fun o => (o.1, .map (some o.2))) ((l1 ++ l2).map fun o => (o.1, .map (some o.2))) (some (o.1, .map (some o.2)))
  M : MapM W5 mb L (fun a => (F a).map fun e => (kf e, e.val))
  row : W5.heap[t]? = some (.cells #[.int .u8 0, .int .i64 0, .int .i64 0, .int .i64 0, v', es] 39 (0, 0))
  own : W5.ownsRow N 2 1 v' (done ++ [o]).length ((done ++ [o]).flatMap fun o => oneC o.1)
  owe : W5.ownsRow N 59 3 es ds.length (ds.flatMap triC)
  he : Ext (fun c => c = t) w2 W5

theorem Ahead.grown {kf : EdgeR → Int} {N t k : Nat} {w2 wn wa : World} {mb r : Nat} {L : List (Int × Nat)} {F : Int → List EdgeR} {done l1 l2 : List (Int × Nat)} {o : Int × Nat} {ks es v' : Value} {ds : List Tri} (h : Ahead kf N t w2 mb r L F done l1 l2 o ks es ds k wn)
    (ho : wa.ownsRow N 2 1 v' (done ++ [o]).length ((done ++ [o]).flatMap fun o => oneC o.1)) (he : Ext (fun c => some c = ks.ownBlock) (wn.alloc (.cells #[kI o.1] 2)) wa) (hN : w2.heap.size ≤ N) :
    AheadA kf N t w2 mb r L F done l1 l2 o ks es ds v' wa (wa.setCell ⟨t, 4, none⟩ v') := by
  have eA : Ext No wn (wn.alloc (.cells #[kI o.1] 2)) := (Ext.refl _ wn).alloc _
  have row1 := alloc_heap h.row (.cells #[kI o.1] 2)
  have rowa := he.obj row1 (fun e => row_ne row1 h.own (by decide) e.symm)
  have e5 : Ext (fun c => c = t) wa (wa.setCell ⟨t, 4, none⟩ v') := (Ext.refl _ wa).setCell _ _ (fun _ => rfl)
  have it1 := (h.it.ext eA id id).row h.own he
  have M1 := (h.M.ext eA (fun _ _ => id)).own h.own he
  have owe1 := ownsRow_ext (h.owe.alloc (.cells #[kI o.1] 2)) he (fun c hc e => ownsRow_ne (h.owe.alloc (.cells #[kI o.1] 2)) h.own (by decide) c hc e.symm)
  have M5 := M1.rowx rowa e5
  refine ⟨rowa, M5.inn o h.mem, it1.ext e5 (it1.ne_row rowa).2 (it1.ne_row rowa).1, M5, set_heap rowa v', ownsRow_ext ho e5 (fun c hc e => row_ne rowa ho (by decide) (by rw [hc, e])), ownsRow_ext owe1 e5 (fun c hc e => row_ne rowa owe1 (by decide) (by rw [hc, e])), ?_⟩
  exact ((h.he.trans eA.no).then he (fun c hc e => by have := (h.own.lt c e.symm).1; omega)).trans e5

/-- what is known behind an inner step of the range, with the append and the store behind it -/
structure Ahead2 (kf : EdgeR → Int) (N t : Nat) (w2 : World) (mb r r2 : Nat) (L : List (Int × Nat)) (F : Int → List EdgeR) (done left : List (Int × Nat)) (o : Int × Nat) (ds : List Tri) (dn k1 k2 : List EdgeR) (e : EdgeR) (ks es : Value) (xs : List Tri) (k : Nat) (wm : World) : Prop where
  len : (k1 ++ k2).length + 1 = k
  perm : ((dn ++ [e]) ++ (k1 ++ k2)).Perm (F o.1)
  itO : ∃ cur, IterI kI wm r mb (L.map fun o => (o.1, .map (some o.2))) (left.map fun o => (o.1, .map (some o.2))) cur
  it2 : IterI kI wm r2 o.2 ((F o.1).map fun e => (kf e, e.val)) ((k1 ++ k2).map fun e => (kf e, e.val)) (some (kf e, e.val))
  M : MapM wm mb L (fun a => (F a).map fun e => (kf e, e.val))
  row : wm.heap[t]? = some (.cells #[.int .u8 0, .int .i64 0, .int .i64 0, .int .i64 0, ks, es] 39 (0, 0))
  ownk : wm.ownsRow N 2 1 ks (done ++ [o]).length ((done ++ [o]).flatMap fun o => oneC o.1)
  hxs : xs = ds ++ dn.map (fun e => (o.1, kf e, e.wt))
  own : ((wm.alloc (.cells e.cells.toArray 97)).alloc (.cells (triC (o.1, kf e, e.wt)).toArray 59)).ownsRow N 59 3 es xs.length (xs.flatMap triC)
  he : Ext (fun c => c = t) w2 wm
  size : N ≤ ((wm.alloc (.cells e.cells.toArray 97)).alloc (.cells (triC (o.1, kf e, e.wt)).toArray 59)).heap.size

theorem Ahead2.of {kf : EdgeR → Int} {N t k : Nat} {w2 wr wm : World} {mb r r2 : Nat} {L : List (Int × Nat)} {F : Int → List EdgeR} {done left : List (Int × Nat)} {o : Int × Nat} {ds : List Tri} {dn lf k1 k2 : List EdgeR} {e : EdgeR} {ks es : Value} {xs : List Tri} {cur2 : Option (Int × Value)}
    (h1 : lf = k1 ++ e :: k2) (hIn : IterI kI wm r2 o.2 ((F o.1).map fun e => (kf e, e.val)) ((k1 ++ k2).map fun e => (kf e, e.val)) (some (kf e, e.val))) (hen : Ext (fun c => c = r2) wr wm)
    (hK : lf.length = k ∧ (dn ++ lf).Perm (F o.1) ∧ (∃ cur, IterI kI wr r mb (L.map fun o => (o.1, .map (some o.2))) (left.map fun o => (o.1, .map (some o.2))) cur) ∧
      IterI kI wr r2 o.2 ((F o.1).map fun e => (kf e, e.val)) (lf.map fun e => (kf e, e.val)) cur2 ∧ MapM wr mb L (fun a => (F a).map fun e => (kf e, e.val)) ∧
      wr.heap[t]? = some (.cells #[.int .u8 0, .int .i64 0, .int .i64 0, .int .i64 0, ks, es] 39 (0, 0)) ∧ wr.ownsRow N 2 1 ks (done ++ [o]).length ((done ++ [o]).flatMap fun o => oneC o.1) ∧ xs = ds ++ dn.map (fun e => (o.1, kf e, e.wt)) ∧ wr.ownsRow N 59 3 es xs.length (xs.flatMap triC) ∧
      Ext (fun c => c = t) w2 wr) (hr : w2.heap.size ≤ r2) (hrr : r < r2) (hmr : mb < r2) (hN : N ≤ w2.heap.size) : Ahead2 kf N t w2 mb r r2 L F done left o ds dn k1 k2 e ks es xs k wm := by
  obtain ⟨hl, hperm, ⟨cur, hO⟩, hI, hM, hrow, hks, hxs, hes, he⟩ := hK
  subst h1
  refine ⟨by simp at hl ⊢; omega, ?_, ⟨cur, hO.ext hen (by omega) (by omega)⟩, hIn, hM.iter hI.is_iter hen, hen.obj hrow (Ne.symm (hI.ne_row hrow).1), ownsRow_iter hI.is_iter hks hen, hxs, ((ownsRow_iter hI.is_iter hes hen).alloc _).alloc _, he.then hen (fun c hc e => by omega), ?_⟩
  · refine List.Perm.trans ?_ hperm
    simp only [List.append_assoc, List.singleton_append]
    exact List.Perm.append_left _ List.perm_middle.symm
  · have h1 := he.size; have h2 := hen.size; simp; omega

/-- .. behind the append; and behind the store -/
structure Ahead2A (kf : EdgeR → Int) (N t : Nat) (w2 : World) (mb r r2 : Nat) (L : List (Int × Nat)) (F : Int → List EdgeR) (done left : List (Int × Nat)) (o : Int × Nat) (ds : List Tri) (k1 k2 : List EdgeR) (ks es v' : Value) (wa W5 : World) : Prop where
  rowa : wa.heap[t]? = some (.cells #[.int .u8 0, .int .i64 0, .int .i64 0, .int .i64 0, ks, es] 39 (0, 0))
  rel : SM2 kf N t w2 mb r r2 L F done left o ds (k1 ++ k2).length W5

theorem Ahead2.grown {kf : EdgeR → Int} {N t k : Nat} {w2 wm wa : World} {mb r r2 : Nat} {L : List (Int × Nat)} {F : Int → List EdgeR} {done left : List (Int × Nat)} {o : Int × Nat} {ds : List Tri} {dn k1 k2 : List EdgeR} {e : EdgeR} {ks es v' : Value} {xs : List Tri} (h : Ahead2 kf N t w2 mb r r2 L F done left o ds dn k1 k2 e ks es xs k wm)
    (ho : wa.ownsRow N 59 3 v' (xs ++ [(o.1, kf e, e.wt)]).length ((xs ++ [(o.1, kf e, e.wt)]).flatMap triC)) (he : Ext (fun c => some c = es.ownBlock) ((wm.alloc (.cells e.cells.toArray 97)).alloc (.cells (triC (o.1, kf e, e.wt)).toArray 59)) wa) (hN : w2.heap.size ≤ N) :
    Ahead2A kf N t w2 mb r r2 L F done left o ds k1 k2 ks es v' wa (wa.setCell ⟨t, 5, none⟩ v') := by
  have eA : Ext No wm ((wm.alloc (.cells e.cells.toArray 97)).alloc (.cells (triC (o.1, kf e, e.wt)).toArray 59)) := ((Ext.refl _ wm).alloc _).alloc _
  have row1 := eA.obj h.row id
  have rowa := he.obj row1 (fun e => row_ne row1 h.own (by decide) e.symm)
  have e5 : Ext (fun c => c = t) wa (wa.setCell ⟨t, 5, none⟩ v') := (Ext.refl _ wa).setCell _ _ (fun _ => rfl)
  obtain ⟨cur, itO⟩ := h.itO
  have it1 := (itO.ext eA id id).row h.own he
  have it2 := (h.it2.ext eA id id).row h.own he
  have M1 := (h.M.ext eA (fun _ _ => id)).own h.own he
  have ownk1 := ownsRow_ext h.ownk eA (fun _ _ => id)
  have ownk2 := ownsRow_ext ownk1 he (fun c hc e => ownsRow_ne ownk1 h.own (by decide) c hc e.symm)
  refine ⟨rowa, dn ++ [e], k1 ++ k2, _, ks, v', xs ++ [(o.1, kf e, e.wt)], rfl, h.perm, ⟨_, it1.ext e5 (it1.ne_row rowa).2 (it1.ne_row rowa).1⟩, it2.ext e5 (it2.ne_row rowa).2 (it2.ne_row rowa).1, M1.rowx rowa e5, set_heap rowa v',
    ownsRow_ext ownk2 e5 (fun c hc e => row_ne rowa ownk2 (by decide) (by rw [hc, e])), by rw [h.hxs]; simp, ownsRow_ext ho e5 (fun c hc e => row_ne rowa ho (by decide) (by rw [hc, e])), ?_⟩
  exact ((h.he.trans eA.no).then he (fun c hc e => by have := (h.own.lt c e.symm).1; omega)).trans e5

theorem SM2.len {kf : EdgeR → Int} {done l1 l2 : List (Int × Nat)} {L : List (Int × Nat)} {F : Int → List EdgeR} {o : Int × Nat} {ds : List Tri} {dn lf : List EdgeR} (hp : ((done ++ [o]) ++ (l1 ++ l2)).Perm L) (hd : ds.Perm ((done.map (·.1)).flatMap (triL kf F))) (hq : (dn ++ lf).Perm (F o.1))
    (hL : ((L.map (·.1)).flatMap (triL kf F)).length < 1000000) : (ds ++ dn.map (fun e => (o.1, kf e, e.wt)) : List Tri).length < 1000000 := by
  have h1 := ((hp.map (·.1)).flatMap_right (triL kf F)).length_eq
  have h2 := hd.length_eq
  have h3 := hq.length_eq
  have h4 : (triL kf F o.1).length = (F o.1).length := by simp [triL]
  simp only [List.map_append, List.flatMap_append, List.length_append, List.map_cons, List.map_nil, List.flatMap_cons, List.flatMap_nil, List.length_nil, List.length_map] at h1 h3 ⊢
  omega
end Go.Proofs.YtcenebjdhbdejaaGreatDoor
