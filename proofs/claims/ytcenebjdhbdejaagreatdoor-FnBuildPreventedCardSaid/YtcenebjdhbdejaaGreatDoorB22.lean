/- append of a whole slice, nil too: at a list of operations, and at a step of a region that draws its order. A slice to be read, wherever in a block it begins. -/
import Derived.Test.YtcenebjdhbdejaaGreatDoorB08
import Derived.Maps.AppendAt
import Derived.Deep.RegionHeld3
namespace Go.Proofs.YtcenebjdhbdejaaGreatDoor
variable {P : Program} {β : Type}

/-- A slice to be read: its elements ys, each laid by f; it may be nil; it may have been cut (n of more). -/
def RdS (w : World) (u : Value) (ys : List β) (f : β → List Value) : Prop :=
  ∃ q c, u = .slice q ys.length c ∧ ((q = none ∧ ys = []) ∨ ∃ b, q = some ⟨b, 0, none⟩ ∧ b < w.heap.size ∧ ∀ (j : Nat) (x : Value), (ys.flatMap f)[j]? = some x → w.cell? ⟨b, j, none⟩ = some x)

theorem RdS.of_own {w : World} {B : Nat} {e : TypeId} {size : Nat} {v : Value} {xs : List β} {f : β → List Value} (h : w.ownsRow B e size v xs.length (xs.flatMap f)) : RdS w v xs f := by
  rcases h.2 with ⟨rfl, hn⟩ | ⟨g, cap, cur, rfl, -, hgg, hnc, -, hsz, htk⟩
  · exact ⟨none, 0, by rw [hn], Or.inl ⟨rfl, List.eq_nil_of_length_eq_zero hn⟩⟩
  · refine ⟨_, cap, rfl, Or.inr ⟨g, rfl, (Array.getElem?_eq_some_iff.1 hgg).1, fun j x hx => ?_⟩⟩
    rw [← htk] at hx
    have hj : j < xs.length * size := by
      have := (List.getElem?_eq_some_iff.1 hx).1
      simp only [List.length_take] at this
      omega
    rw [List.getElem?_take_of_lt hj] at hx
    simp only [World.cell?, hgg]
    simpa using hx

theorem RdS.at {w : World} {size : Nat} {q : Option Addr} {n c : Nat} {xs : List β} {f : β → List Value} (hf : ∀ y, (f y).length = size) (h : RdS w (.slice q n c) xs f) {k : Nat} (hk : k < xs.length) :
    ∃ g, q = some ⟨g, 0, none⟩ ∧ g < w.heap.size ∧ ∀ j, j < size → w.cell? ⟨g, k * size + j, none⟩ = (f (xs[k]'hk))[j]? := by
  obtain ⟨q', c', hv, hr⟩ := h
  simp only [Value.slice.injEq] at hv
  obtain ⟨rfl, -, -⟩ := hv
  rcases hr with ⟨rfl, rfl⟩ | ⟨b, rfl, hb, hc⟩
  · simp at hk
  · refine ⟨b, rfl, hb, fun j hj => ?_⟩
    have h1 := flat_get hf xs k j hk hj
    have h2 : j < (f (xs[k]'hk)).length := by rw [hf]; exact hj
    rw [List.getElem?_eq_getElem h2] at h1 ⊢
    exact hc _ _ h1

theorem RdS.form {w : World} {u : Value} {xs : List β} {f : β → List Value} (h : RdS w u xs f) : ∃ q c, u = .slice q xs.length c := by
  obtain ⟨q, c, rfl, -⟩ := h; exact ⟨q, c, rfl⟩

theorem RdS.of_cells {w w' : World} {u : Value} {xs : List β} {f : β → List Value} (h : RdS w u xs f) (hs : w.heap.size ≤ w'.heap.size) (hc : ∀ b o x, u.ownBlock = some b → w.cell? ⟨b, o, none⟩ = some x → w'.cell? ⟨b, o, none⟩ = some x) : RdS w' u xs f := by
  obtain ⟨q, c, rfl, hr⟩ := h
  refine ⟨q, c, rfl, ?_⟩
  rcases hr with h | ⟨b, rfl, hb, hh⟩
  · exact Or.inl h
  · exact Or.inr ⟨b, rfl, Nat.lt_of_lt_of_le hb hs, fun j x hx => hc b j x rfl (hh j x hx)⟩

theorem RdS.ext {S : Nat → Prop} {w w' : World} {u : Value} {xs : List β} {f : β → List Value} (h : RdS w u xs f) (he : Ext S w w') (hS : ∀ b, u.ownBlock = some b → ¬ S b) : RdS w' u xs f :=
  h.of_cells he.size fun b _o _x hb hx => he.cellv hx (hS b hb)

theorem run_appendN {w : World} {B : Nat} {e t ty : TypeId} {z : Value} {size bytes : Nat} (ht : P.underlying t = some (.slice e)) (hi : (P.info? e).map (fun i => (i.zero, i.size, i.bytes)) = some (some z, size, bytes))
    (hzs : z.cells.size = size) (hsz : 0 < size) (hby : bytes ≤ 10000) {f : β → List Value} (hf : ∀ y, (f y).length = size) (hf1 : ∀ y, ∀ u ∈ f y, u.oneCell' = true)
    {v : Value} {xs ys : List β} (hown : w.ownsRow B e size v xs.length (xs.flatMap f)) {u : Value} (hu : RdS w u ys f) (hlen : xs.length + ys.length < 1000000) (hB : B ≤ w.heap.size) :
    ∃ v' w', (Builtin.append_ #[t, t] ty #[v, u]).run P w = .ok v' w' ∧ w'.ownsRow B e size v' (xs ++ ys).length ((xs ++ ys).flatMap f) ∧ w.grownBy w' v.ownBlock ∧ (v'.ownBlock = v.ownBlock ∨ v'.ownBlock = some w.heap.size) := by
  obtain ⟨i, hi1, hi2⟩ := Option.map_eq_some_iff.1 hi
  simp only [Prod.mk.injEq] at hi2
  have e1 : (xs ++ ys).length = xs.length + ys.length := by simp
  have e2 : (xs ++ ys).flatMap f = xs.flatMap f ++ ys.flatMap f := by simp
  obtain ⟨q, c, rfl, hr⟩ := hu
  rcases hr with ⟨rfl, rfl⟩ | ⟨b, rfl, hb, hc⟩
  · have hv : ∃ q n cap, v = .slice q n cap ∧ n ≤ cap := by
      rcases hown.2 with ⟨rfl, -⟩ | ⟨g, cap, cur, rfl, -, -, hnc, -⟩
      · exact ⟨_, _, _, rfl, Nat.le_refl _⟩
      · exact ⟨_, _, _, rfl, hnc⟩
    obtain ⟨q, n, cap, rfl, hnc⟩ := hv
    refine ⟨.slice q n cap, w, ?_, by rw [e1, e2]; simpa using hown, ⟨rfl, rfl, rfl, Nat.le_refl _, fun _ _ _ => rfl⟩, Or.inl rfl⟩
    cases q <;> simp [Builtin.append_, run_underlying ht, sizeOf, typeInfo, hi1, Builtin.lenOf, Builtin.firstCells, storeCells, hnc, Result.andThen]
  · have hl : (ys.flatMap f).length = ys.length * size := by
      clear hc hlen e1 e2
      induction ys with
      | nil => simp
      | cons y ys ih => simp only [List.flatMap_cons, List.length_append, ih, hf, List.length_cons, Nat.add_mul]; omega
    obtain ⟨v', w', h1, h2, h3, -, h5⟩ := run_append_own_at (P := P) w B t ty e i z size bytes ht hi1 hi2.1 hi2.2.1 hi2.2.2 hzs hsz v xs.length (xs.flatMap f) hown ⟨b, 0, none⟩ ys.length c (ys.flatMap f) hl
      (fun j x hx => by
        have hadd : (⟨b, 0, none⟩ : Addr).add j = ⟨b, j, none⟩ := by unfold Addr.add; split <;> simp_all
        rw [hadd]; exact hc j x hx)
      (fun x hx => by
        obtain ⟨y, hy, hxy⟩ := List.mem_flatMap.1 hx
        exact hf1 y x hxy) (by unfold maxLen; omega) (Nat.le_trans (Nat.mul_le_mul (show xs.length + ys.length ≤ 1000000 by omega) hby) (by decide)) hB
    exact ⟨v', w', h1, by rw [e1, e2]; exact h2, h3, h5⟩

theorem wp_appendN {o : Oper} {a : Act} {w : World} {K : Act → World → Prop} {Q : Exit → Act → World → Prop} {s x : Operand} {t : TypeId}
    (ho : o.op = .call { callee := .builtin .append, args := #[s, x], argTypes := #[t, t] })
    {B : Nat} {e : TypeId} {z : Value} {size bytes : Nat} (ht : P.underlying t = some (.slice e)) (hi : (P.info? e).map (fun i => (i.zero, i.size, i.bytes)) = some (some z, size, bytes))
    (hzs : z.cells.size = size) (hsz : 0 < size) (hby : bytes ≤ 10000) {f : β → List Value} (hf : ∀ y, (f y).length = size) (hf1 : ∀ y, ∀ u ∈ f y, u.oneCell' = true)
    {v : Value} {xs ys : List β} (hs : a.eval s = v) (hown : w.ownsRow B e size v xs.length (xs.flatMap f)) {u : Value} (hx : a.eval x = u) (hu : RdS w u ys f) (hlen : xs.length + ys.length < 1000000) (hB : B ≤ w.heap.size)
    (h : ∀ v' w', w'.ownsRow B e size v' (xs ++ ys).length ((xs ++ ys).flatMap f) → Ext (fun c => some c = v.ownBlock) w w' → (v'.ownBlock = v.ownBlock ∨ v'.ownBlock = some w.heap.size) → K (a.put o.dst v') w') : Oper.wp P o a w K Q := by
  obtain ⟨v', w', h1, h2, h3, h4⟩ := run_appendN (P := P) (ty := o.type) ht hi hzs hsz hby hf hf1 hown hu hlen hB
  unfold Oper.wp execOp
  simp only [ho, resolve, invoke, builtin, Sem.run_bind, Sem.run_pure, Result.andThen_ok, List.map_toArray, List.map_cons, List.map_nil, hs, hx, h1]
  exact h v' w' h2 ((Ext.refl _ w).grown h3 (fun c hc _ => hc.symm)) h4

theorem wpL_appendN {ops : Array Oper} {rest : List Oper} {o : Oper} {a : Act} {w : World} {Q : Exit → Act → World → Prop} (hgd : o.guard = none) {s x : Operand} {t : TypeId}
    (ho : o.op = .call { callee := .builtin .append, args := #[s, x], argTypes := #[t, t] })
    {B : Nat} {e : TypeId} {z : Value} {size bytes : Nat} (ht : P.underlying t = some (.slice e)) (hi : (P.info? e).map (fun i => (i.zero, i.size, i.bytes)) = some (some z, size, bytes))
    (hzs : z.cells.size = size) (hsz : 0 < size) (hby : bytes ≤ 10000) {f : β → List Value} (hf : ∀ y, (f y).length = size) (hf1 : ∀ y, ∀ u ∈ f y, u.oneCell' = true)
    {v : Value} {xs ys : List β} (hs : a.eval s = v) (hown : w.ownsRow B e size v xs.length (xs.flatMap f)) {u : Value} (hx : a.eval x = u) (hu : RdS w u ys f) (hlen : xs.length + ys.length < 1000000) (hB : B ≤ w.heap.size)
    (h : ∀ v' w', w'.ownsRow B e size v' (xs ++ ys).length ((xs ++ ys).flatMap f) → Ext (fun c => some c = v.ownBlock) w w' → (v'.ownBlock = v.ownBlock ∨ v'.ownBlock = some w.heap.size) → wpList P ops Q rest (a.put o.dst v') w') : wpList P ops Q (o :: rest) a w :=
  wpList_plain hgd fun _ hK => wp_appendN ho ht hi hzs hsz hby hf hf1 hs hown hx hu hlen hB fun v' w' h2 h3 h4 => hK _ _ (h v' w' h2 h3 h4)

theorem step_appendN {ops : Array Oper} {o : Oper} {a : Act} {w : World} {K : Act → World → Prop} {Q : Exit → Act → World → Prop} {E : Prop} (hgd : o.guard = none) {s x : Operand} {t : TypeId}
    (ho : o.op = .call { callee := .builtin .append, args := #[s, x], argTypes := #[t, t] })
    {B : Nat} {e : TypeId} {z : Value} {size bytes : Nat} (ht : P.underlying t = some (.slice e)) (hi : (P.info? e).map (fun i => (i.zero, i.size, i.bytes)) = some (some z, size, bytes))
    (hzs : z.cells.size = size) (hsz : 0 < size) (hby : bytes ≤ 10000) {f : β → List Value} (hf : ∀ y, (f y).length = size) (hf1 : ∀ y, ∀ u ∈ f y, u.oneCell' = true)
    {v : Value} {xs ys : List β} (hs : a.eval s = v) (hown : w.ownsRow B e size v xs.length (xs.flatMap f)) {u : Value} (hx : a.eval x = u) (hu : RdS w u ys f) (hlen : xs.length + ys.length < 1000000) (hB : B ≤ w.heap.size)
    (h : ∀ v' w', w'.ownsRow B e size v' (xs ++ ys).length ((xs ++ ys).flatMap f) → Ext (fun c => some c = v.ownBlock) w w' → (v'.ownBlock = v.ownBlock ∨ v'.ownBlock = some w.heap.size) → K (a.put o.dst v') w') :
    if Region.wanted o (yielded ops a.tmps) = true then Oper.wp P o a w K Q else E := by
  have hw : Region.wanted o (yielded ops a.tmps) = true := by simp [Region.wanted, hgd]
  rw [if_pos hw]
  exact wp_appendN ho ht hi hzs hsz hby hf hf1 hs hown hx hu hlen hB h
end Go.Proofs.YtcenebjdhbdejaaGreatDoor

namespace Go.Proofs.YtcenebjdhbdejaaGreatDoor
variable {β : Type}

/-- A slice to be read: its elements ys, each laid by f; it may be nil; it may begin anywhere. -/
def RdG (w : World) (u : Value) (ys : List β) (f : β → List Value) : Prop :=
  ∃ q c, u = .slice q ys.length c ∧ (ys = [] ∨ ∃ b o, q = some ⟨b, o, none⟩ ∧ b < w.heap.size ∧ ∀ (j : Nat) (x : Value), (ys.flatMap f)[j]? = some x → w.cell? ⟨b, o + j, none⟩ = some x)

theorem RdS.g {w : World} {u : Value} {ys : List β} {f : β → List Value} (h : RdS w u ys f) : RdG w u ys f := by
  obtain ⟨q, c, rfl, hr⟩ := h
  refine ⟨q, c, rfl, ?_⟩
  rcases hr with h | ⟨b, rfl, hb, hh⟩
  · exact Or.inl h.2
  · exact Or.inr ⟨_, _, rfl, hb, fun j x hx => by simpa using hh j x hx⟩

theorem RdG.form {w : World} {u : Value} {xs : List β} {f : β → List Value} (h : RdG w u xs f) : ∃ q c, u = .slice q xs.length c := by
  obtain ⟨q, c, rfl, -⟩ := h; exact ⟨q, c, rfl⟩

theorem RdG.ext {S : Nat → Prop} {w w' : World} {u : Value} {xs : List β} {f : β → List Value} (h : RdG w u xs f) (he : Ext S w w') (hS : ∀ b, u.ownBlock = some b → ¬ S b) : RdG w' u xs f := by
  obtain ⟨q, c, rfl, hr⟩ := h
  refine ⟨q, c, rfl, ?_⟩
  rcases hr with h | ⟨b, o, rfl, hb, hh⟩
  · exact Or.inl h
  · exact Or.inr ⟨b, o, rfl, Nat.lt_of_lt_of_le hb he.size, fun j x hx => he.cellv (hh j x hx) (hS b rfl)⟩

theorem RdG.at {w : World} {size : Nat} {q : Option Addr} {n c : Nat} {xs : List β} {f : β → List Value} (hf : ∀ y, (f y).length = size) (h : RdG w (.slice q n c) xs f) {k : Nat} (hk : k < xs.length) :
    ∃ b o : Nat, q = some ⟨b, o, none⟩ ∧ b < w.heap.size ∧ ∀ j, j < size → w.cell? ⟨b, o + k * size + j, none⟩ = (f (xs[k]'hk))[j]? := by
  obtain ⟨q', c', hv, hr⟩ := h
  simp only [Value.slice.injEq] at hv
  obtain ⟨rfl, -, -⟩ := hv
  rcases hr with rfl | ⟨b, o, rfl, hb, hc⟩
  · simp at hk
  · refine ⟨b, o, rfl, hb, fun j hj => ?_⟩
    have h1 := flat_get hf xs k j hk hj
    have h2 : j < (f (xs[k]'hk)).length := by rw [hf]; exact hj
    rw [List.getElem?_eq_getElem h2] at h1 ⊢
    rw [Nat.add_assoc]
    exact hc _ _ h1
end Go.Proofs.YtcenebjdhbdejaaGreatDoor
