/- Cutting a row of edges, and what is put together again; one weight put anew. -/
import Derived.Test.YtcenebjdhbdejaaGreatDoorB22
import Derived.Test.YtcenebjdhbdejaaGreatDoorB23
import Derived.Maps.AppendAt
namespace Go.Proofs.YtcenebjdhbdejaaGreatDoor
section
variable {P : Program} {β : Type}

theorem run_appendG {w : World} {B : Nat} {e t ty : TypeId} {z : Value} {size bytes : Nat} (ht : P.underlying t = some (.slice e)) (hi : (P.info? e).map (fun i => (i.zero, i.size, i.bytes)) = some (some z, size, bytes))
    (hzs : z.cells.size = size) (hsz : 0 < size) (hby : bytes ≤ 10000) {f : β → List Value} (hf : ∀ y, (f y).length = size) (hf1 : ∀ y, ∀ u ∈ f y, u.oneCell' = true)
    {v : Value} {xs ys : List β} (hown : w.ownsRow B e size v xs.length (xs.flatMap f)) {b o c : Nat} (hu : ∀ (j : Nat) (x : Value), (ys.flatMap f)[j]? = some x → w.cell? ⟨b, o + j, none⟩ = some x) (hlen : xs.length + ys.length < 1000000) (hB : B ≤ w.heap.size) :
    ∃ v' w', (Builtin.append_ #[t, t] ty #[v, .slice (some ⟨b, o, none⟩) ys.length c]).run P w = .ok v' w' ∧ w'.ownsRow B e size v' (xs ++ ys).length ((xs ++ ys).flatMap f) ∧ w.grownBy w' v.ownBlock ∧ (v'.ownBlock = v.ownBlock ∨ v'.ownBlock = some w.heap.size) := by
  obtain ⟨i, hi1, hi2⟩ := Option.map_eq_some_iff.1 hi
  simp only [Prod.mk.injEq] at hi2
  have e1 : (xs ++ ys).length = xs.length + ys.length := by simp
  have e2 : (xs ++ ys).flatMap f = xs.flatMap f ++ ys.flatMap f := by simp
  have hl : (ys.flatMap f).length = ys.length * size := by
    clear hu hlen e1 e2
    induction ys with
    | nil => simp
    | cons y ys ih => simp only [List.flatMap_cons, List.length_append, ih, hf, List.length_cons, Nat.add_mul]; omega
  obtain ⟨v', w', h1, h2, h3, -, h5⟩ := run_append_own_at (P := P) w B t ty e i z size bytes ht hi1 hi2.1 hi2.2.1 hi2.2.2 hzs hsz v xs.length (xs.flatMap f) hown ⟨b, o, none⟩ ys.length c (ys.flatMap f) hl
    (fun j x hx => by
      have hadd : (⟨b, o, none⟩ : Addr).add j = ⟨b, o + j, none⟩ := by unfold Addr.add; split <;> simp_all
      rw [hadd]; exact hu j x hx)
    (fun x hx => by
      obtain ⟨y, hy, hxy⟩ := List.mem_flatMap.1 hx
      exact hf1 y x hxy) (by unfold maxLen; omega) (Nat.le_trans (Nat.mul_le_mul (show xs.length + ys.length ≤ 1000000 by omega) hby) (by decide)) hB
  exact ⟨v', w', h1, by rw [e1, e2]; exact h2, h3, h5⟩

theorem flat_take {f : β → List Value} {size : Nat} (hf : ∀ y, (f y).length = size) : ∀ (xs : List β) (i : Nat), (xs.flatMap f).take (i * size) = (xs.take i).flatMap f
  | [], i => by simp
  | x :: xs, 0 => by simp
  | x :: xs, i + 1 => by
    rw [List.flatMap_cons, List.take_succ_cons, List.flatMap_cons, Nat.add_mul, Nat.one_mul, Nat.add_comm, ← hf x, List.take_length_add_append, hf x, flat_take hf xs i]
theorem flat_drop {f : β → List Value} {size : Nat} (hf : ∀ y, (f y).length = size) : ∀ (xs : List β) (i : Nat), (xs.flatMap f).drop (i * size) = (xs.drop i).flatMap f
  | [], i => by simp
  | x :: xs, 0 => by simp
  | x :: xs, i + 1 => by
    rw [List.flatMap_cons, List.drop_succ_cons, Nat.add_mul, Nat.one_mul, Nat.add_comm, ← hf x, List.drop_length_add_append, hf x, flat_drop hf xs i]

theorem own_take {w : World} {B e size n cap : Nat} {q : Option Addr} {f : β → List Value} (hf : ∀ y, (f y).length = size) {xs : List β} (h : w.ownsRow B e size (.slice q n cap) xs.length (xs.flatMap f)) {i : Nat} (hi : i < xs.length) :
    w.ownsRow B e size (.slice q i cap) (xs.take i).length ((xs.take i).flatMap f) := by
  have hl : (xs.take i).length = i := by rw [List.length_take]; omega
  rcases h.2 with ⟨h0, h1⟩ | ⟨g, cap', cur, hv, hB, hgg, hnc, hcm, hsz, htk⟩
  · omega
  · simp only [Value.slice.injEq] at hv
    obtain ⟨rfl, -, rfl⟩ := hv
    refine ⟨by rw [hl, ← flat_take hf, List.length_take, h.1]; exact Nat.min_eq_left (Nat.mul_le_mul_right _ (by omega)), Or.inr ⟨g, cap, cur, by rw [hl], hB, hgg, by omega, hcm, hsz, ?_⟩⟩
    rw [hl, ← flat_take hf, ← htk, List.take_take, Nat.min_eq_left (Nat.mul_le_mul_right _ (by omega))]

theorem set_same {α : Type} {l : List α} {i : Nat} {x : α} (h : l[i]? = some x) : l.set i x = l := by
  apply List.ext_getElem?
  intro j
  by_cases hj : i = j
  · subst hj
    have := (List.getElem?_eq_some_iff.1 h).1
    rw [List.getElem?_set_self this, h]
  · rw [List.getElem?_set_ne hj]
end

theorem own_wt {w : World} {B e : Nat} {g n cap : Nat} {xs : List Tri} (h : w.ownsRow B e 3 (.slice (some ⟨g, 0, none⟩) n cap) xs.length (xs.flatMap triC)) {k : Nat} (hk : k < xs.length) (wt : Int) :
    (w.setCell ⟨g, k * 3 + 2, none⟩ (.int .i64 wt)).ownsRow B e 3 (.slice (some ⟨g, 0, none⟩) n cap) (xs.set k (xs[k].1, xs[k].2.1, wt)).length ((xs.set k (xs[k].1, xs[k].2.1, wt)).flatMap triC) := by
  have f0 := flat_get (f := triC) (size := 3) (fun _ => rfl) xs k 0 hk (by decide)
  have f1 := flat_get (f := triC) (size := 3) (fun _ => rfl) xs k 1 hk (by decide)
  rcases h.2 with ⟨h0, -⟩ | ⟨g', cap', cur, hv, hB, hgg, hnc, hcm, hsz, htk⟩
  · cases h0
  · simp only [Value.slice.injEq, Option.some.injEq, Addr.mk.injEq, and_true] at hv
    obtain ⟨rfl, hn, rfl⟩ := hv
    refine ⟨by rw [flat_len], Or.inr ⟨g, cap, _, by rw [List.length_set, hn], hB, set_heap hgg _, by rw [List.length_set]; exact hnc, hcm, by simpa using hsz, ?_⟩⟩
    have e0 : (xs.flatMap triC)[k * 3]? = some (kI xs[k].1) := f0
    have e1 : (xs.flatMap triC)[k * 3 + 1]? = some (kI xs[k].2.1) := f1
    rw [flat_set xs k _ hk]
    simp only []
    rw [set_same e0, set_same e1, List.length_set, ← htk]
    simp only [Array.toList_setIfInBounds, List.take_set]

theorem sz48' (w : World) : (sizeOf 48).run Tryz.prog w = .ok 3 w := by kernel_rfl
theorem el27 : Tryz.prog.elem 27 = 48 := by kernel_rfl

theorem sl27_head (q : Option Addr) {n cap k : Nat} (hk : k ≤ cap) (W : World) :
    (Instr.slice 27 (.slice q n cap) none (some (.int .i64 k)) none).run Tryz.prog W = .ok (.slice q k cap) W := by
  rw [run_slice_h W 27 _ _ _ (by rw [el27]; exact U27) .i64 _ (by omega) (by omega), el27, sz48']
  have h0 : q.map (fun x => x.add 0) = q := by cases q <;> simp [Addr.add]
  simp [Result.andThen, sliced, h0]

theorem tail_read {w : World} {B g cap : Nat} {xs : List Tri} (h : w.ownsRow B 48 3 (.slice (some ⟨g, 0, none⟩) xs.length cap) xs.length (xs.flatMap triC)) {k : Nat} :
    ∀ (j : Nat) (x : Value), ((xs.drop k).flatMap triC)[j]? = some x → w.cell? ⟨g, k * 3 + j, none⟩ = some x := by
  intro j x hx
  obtain ⟨q1, c1, hq, hr⟩ := RdS.of_own h
  simp only [Value.slice.injEq] at hq
  obtain ⟨rfl, -, rfl⟩ := hq
  rcases hr with ⟨h0, -⟩ | ⟨b, hb, hlt, hc⟩
  · cases h0
  · simp only [Option.some.injEq, Addr.mk.injEq, and_true] at hb
    subst hb
    rw [← flat_drop (f := triC) (size := 3) (fun _ => rfl), List.getElem?_drop] at hx
    exact hc _ _ hx
end Go.Proofs.YtcenebjdhbdejaaGreatDoor
