/- Reading a slice of the call's own. -/
import Derived.Test.YtcenebjdhbdejaaGreatDoorB01
namespace Go.Proofs.YtcenebjdhbdejaaGreatDoor

theorem flat_get {β : Type} {f : β → List Value} {size : Nat} (hf : ∀ y, (f y).length = size) : ∀ (xs : List β) (k j : Nat) (hk : k < xs.length), j < size → (xs.flatMap f)[k * size + j]? = (f (xs[k]'hk))[j]?
  | [], k, j, hk, hj => absurd hk (by simp)
  | x :: xs, 0, j, _, hj => by
    simp only [List.flatMap_cons, Nat.zero_mul, Nat.zero_add, List.getElem_cons_zero]
    rw [List.getElem?_append_left (by rw [hf]; exact hj)]
  | x :: xs, k + 1, j, hk, hj => by
    simp only [List.flatMap_cons, List.getElem_cons_succ]
    rw [List.getElem?_append_right (by rw [hf, Nat.add_mul]; omega), hf]
    have e : (k + 1) * size + j - size = k * size + j := by rw [Nat.add_mul]; omega
    rw [e]
    exact flat_get hf xs k j _ hj

/-- A slice of the call's own, to be read: its cells, element by element. -/
theorem own_read {β : Type} {w : World} {B : Nat} {e : TypeId} {size : Nat} {v : Value} {xs : List β} {f : β → List Value} (hf : ∀ y, (f y).length = size) (h : w.ownsRow B e size v xs.length (xs.flatMap f)) :
    ∃ q cap, v = .slice q xs.length cap ∧ ∀ k (hk : k < xs.length), ∃ g, q = some ⟨g, 0, none⟩ ∧ g < w.heap.size ∧ ∀ j, j < size → w.cell? ⟨g, k * size + j, none⟩ = (f (xs[k]'hk))[j]? := by
  rcases h.2 with ⟨rfl, hn⟩ | ⟨g, cap, cur, rfl, -, hgg, hnc, -, hsz, htk⟩
  · exact ⟨none, 0, by rw [hn], fun k hk => by omega⟩
  · refine ⟨some ⟨g, 0, none⟩, cap, rfl, fun k hk => ⟨g, rfl, (Array.getElem?_eq_some_iff.1 hgg).1, fun j hj => ?_⟩⟩
    rw [← flat_get hf xs k j hk hj, ← htk]
    have hlt : k * size + j < xs.length * size := by
      have : (k + 1) * size ≤ xs.length * size := Nat.mul_le_mul_right _ hk
      rw [Nat.add_mul] at this; omega
    simp [World.cell?, hgg, hlt]
theorem w64 {i : Nat} (h : i < 1000000) : RowKit.wrap64 ((i : Int) + 1) = ((i + 1 : Nat) : Int) := by unfold RowKit.wrap64; omega

theorem own_at {β : Type} {w : World} {B : Nat} {e : TypeId} {size : Nat} {q : Option Addr} {n cap : Nat} {xs : List β} {f : β → List Value} (hf : ∀ y, (f y).length = size) (h : w.ownsRow B e size (.slice q n cap) xs.length (xs.flatMap f)) {k : Nat} (hk : k < xs.length) :
    ∃ g, q = some ⟨g, 0, none⟩ ∧ g < w.heap.size ∧ ∀ j, j < size → w.cell? ⟨g, k * size + j, none⟩ = (f (xs[k]'hk))[j]? := by
  obtain ⟨q', cap', hv, hr⟩ := own_read hf h
  simp only [Value.slice.injEq] at hv
  obtain ⟨rfl, -, -⟩ := hv
  exact hr k hk
end Go.Proofs.YtcenebjdhbdejaaGreatDoor
