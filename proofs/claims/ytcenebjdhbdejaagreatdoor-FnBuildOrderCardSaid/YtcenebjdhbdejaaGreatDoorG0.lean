/- A slice to be read, wherever in a block it begins. -/
import Derived.Test.YtcenebjdhbdejaaGreatDoorC1
namespace Go.Proofs.YtcenebjdhbdejaaGreatDoor
variable {β : Type}

/-- A slice to be read: its elements ys, each laid by f; it may be nil; it may begin anywhere. -/
def RdG (w : World) (u : Value) (ys : List β) (f : β → List Value) : Prop :=
  ∃ q c, u = .slice q ys.length c ∧ (ys = [] ∨ ∃ b o, q = some ⟨b, o, none⟩ ∧ b < w.heap.size ∧ ∀ (j : Nat) (x : Value), (ys.flatMap f)[j]? = some x → w.cell? ⟨b, o + j, none⟩ = some x)

theorem RdS.g {w : World} {u : Value} {ys : List β} {f : β → List Value} (h : RdS w u ys f) : RdG w u ys f := by
  obtain ⟨q, c, rfl, hr⟩ := h
  refine ⟨q, c, rfl, ?_⟩
  rcases hr with h | ⟨b, rfl, hb, hh⟩
  · exact Or.inl h.2
  · exact Or.inr ⟨_, _, rfl, hb, fun j x hx => by simpa using hh j x hx⟩

theorem RdG.form {w : World} {u : Value} {xs : List β} {f : β → List Value} (h : RdG w u xs f) : ∃ q c, u = .slice q xs.length c := by
  obtain ⟨q, c, rfl, -⟩ := h; exact ⟨q, c, rfl⟩

theorem RdG.ext {S : Nat → Prop} {w w' : World} {u : Value} {xs : List β} {f : β → List Value} (h : RdG w u xs f) (he : Ext S w w') (hS : ∀ b, u.ownBlock = some b → ¬ S b) : RdG w' u xs f := by
  obtain ⟨q, c, rfl, hr⟩ := h
  refine ⟨q, c, rfl, ?_⟩
  rcases hr with h | ⟨b, o, rfl, hb, hh⟩
  · exact Or.inl h
  · exact Or.inr ⟨b, o, rfl, Nat.lt_of_lt_of_le hb he.size, fun j x hx => he.cellv (hh j x hx) (hS b rfl)⟩

theorem RdG.at {w : World} {size : Nat} {q : Option Addr} {n c : Nat} {xs : List β} {f : β → List Value} (hf : ∀ y, (f y).length = size) (h : RdG w (.slice q n c) xs f) {k : Nat} (hk : k < xs.length) :
    ∃ b o : Nat, q = some ⟨b, o, none⟩ ∧ b < w.heap.size ∧ ∀ j, j < size → w.cell? ⟨b, o + k * size + j, none⟩ = (f (xs[k]'hk))[j]? := by
  obtain ⟨q', c', hv, hr⟩ := h
  simp only [Value.slice.injEq] at hv
  obtain ⟨rfl, -, -⟩ := hv
  rcases hr with rfl | ⟨b, o, rfl, hb, hc⟩
  · simp at hk
  · refine ⟨b, o, rfl, hb, fun j hj => ?_⟩
    have h1 := flat_get hf xs k j hk hj
    have h2 : j < (f (xs[k]'hk)).length := by rw [hf]; exact hj
    rw [List.getElem?_eq_getElem h2] at h1 ⊢
    rw [Nat.add_assoc]
    exact hc _ _ h1
end Go.Proofs.YtcenebjdhbdejaaGreatDoor
