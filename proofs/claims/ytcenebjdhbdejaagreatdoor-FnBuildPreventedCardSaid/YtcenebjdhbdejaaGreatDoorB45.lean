/- Reaching in a list of edges: the plain law of paths, and of a graph without cycles. -/
import Derived.Test.YtcenebjdhbdejaaGreatDoorB24
namespace Go.Proofs.YtcenebjdhbdejaaGreatDoor

theorem nodup_len {S : List Int} : ∀ {V : List Int}, S.Nodup → (∀ x ∈ S, x ∈ V) → S.length ≤ V.length := by
  induction S with
  | nil => intro V _ _; simp
  | cons x S ih =>
    intro V h hs
    rw [List.nodup_cons] at h
    have hx : x ∈ V := hs x List.mem_cons_self
    have := ih (V := V.erase x) h.2 (fun y hy => (List.mem_erase_of_ne (fun e => h.1 (by rw [← e]; exact hy))).2 (hs y (List.mem_cons_of_mem _ hy)))
    rw [List.length_erase_of_mem hx] at this
    have := List.length_pos_of_mem hx
    simp only [List.length_cons]
    omega

/-- there is a way from one vertex to another -/
inductive RE (E : List Tri) : Int → Int → Prop
  | refl (a : Int) : RE E a a
  | tail {a b c wt : Int} : RE E a b → (b, c, wt) ∈ E → RE E a c

theorem RE.trans {E : List Tri} {a b c : Int} (h : RE E a b) (h2 : RE E b c) : RE E a c := by
  induction h2 with
  | refl => exact h
  | tail _ he ih => exact RE.tail ih he
theorem RE.one {E : List Tri} {a b wt : Int} (h : (a, b, wt) ∈ E) : RE E a b := RE.tail (RE.refl a) h
theorem RE.head {E : List Tri} {a b c wt : Int} (h : (a, b, wt) ∈ E) (h2 : RE E b c) : RE E a c := (RE.one h).trans h2
theorem RE.mono {E F : List Tri} (hm : ∀ e ∈ E, ∃ wt, (e.1, e.2.1, wt) ∈ F) {a b : Int} (h : RE E a b) : RE F a b := by
  induction h with
  | refl => exact RE.refl _
  | tail _ he ih => obtain ⟨wt, hw⟩ := hm _ he; exact RE.tail ih hw
theorem RE.pred {E : List Tri} {S : List Int} (hc : ∀ e ∈ E, e.2.1 ∈ S → e.1 ∈ S) {a b : Int} (h : RE E a b) (hb : b ∈ S) : a ∈ S := by
  induction h with
  | refl => exact hb
  | tail _ he ih => exact ih (hc _ he hb)
theorem RE.succ {E : List Tri} {S : List Int} (hc : ∀ e ∈ E, e.1 ∈ S → e.2.1 ∈ S) {a b : Int} (h : RE E a b) (ha : a ∈ S) : b ∈ S := by
  induction h with
  | refl => exact ha
  | tail _ he ih => exact hc _ he ih
theorem RE.add {E : List Tri} {a b wt x y : Int} (h : RE (E ++ [(a, b, wt)]) x y) : RE E x y ∨ (RE E x a ∧ RE E b y) := by
  induction h with
  | refl => exact Or.inl (RE.refl _)
  | @tail q r wq _ he ih =>
    rcases List.mem_append.1 he with he | he
    · rcases ih with ih | ⟨ih, ih2⟩
      · exact Or.inl (RE.tail ih he)
      · exact Or.inr ⟨ih, RE.tail ih2 he⟩
    · simp only [List.mem_singleton, Prod.mk.injEq] at he
      obtain ⟨rfl, rfl, rfl⟩ := he
      rcases ih with ih | ⟨ih, ih2⟩
      · exact Or.inr ⟨ih, RE.refl _⟩
      · exact Or.inr ⟨ih, RE.refl _⟩

/-- no edge's end leads to its beginning -/
def Acyc (E : List Tri) : Prop := ∀ e ∈ E, ¬ RE E e.2.1 e.1
theorem Acyc.mono {E F : List Tri} (h : Acyc F) (hm : ∀ e ∈ E, ∃ wt, (e.1, e.2.1, wt) ∈ F) : Acyc E := by
  intro e he hr
  obtain ⟨wt, hw⟩ := hm e he
  exact h _ hw (hr.mono hm)
theorem Acyc.add {E : List Tri} {a b wt : Int} (h : Acyc E) (hn : ¬ RE E b a) : Acyc (E ++ [(a, b, wt)]) := by
  intro e he hr
  rcases List.mem_append.1 he with he | he
  · rcases hr.add with hr | ⟨h1, h2⟩
    · exact h e he hr
    · exact hn ((h2.trans (RE.one (show (e.1, e.2.1, e.2.2) ∈ E from he))).trans h1)
  · simp only [List.mem_singleton] at he
    subst he
    rcases hr.add with hr | ⟨h1, -⟩
    · exact hn hr
    · exact hn h1
theorem Acyc.nil : Acyc [] := fun e he => by cases he

/-- what a search backward holds: S was seen, T is to be seen -/
structure Back (E : List EdgeR) (V : List Int) (a b : Int) (S T : List Int) : Prop where
  nd : S.Nodup
  vs : ∀ x ∈ S, x ∈ V
  ts : ∀ x ∈ T, x ∈ V
  len : T.length ≤ 1 + 1000 * S.length
  reach : ∀ x ∈ T, RE (E.map EdgeR.tri) x a
  nb : b ∉ S
  cl : ∀ e ∈ E, e.dst ∈ S → e.src ∈ S ∨ e.src ∈ T
  src : a ∈ S ∨ a ∈ T

theorem Back.start {E : List EdgeR} {V : List Int} {a b : Int} (ha : a ∈ V) : Back E V a b [] [a] :=
  ⟨List.nodup_nil, fun _ h => (List.not_mem_nil h).elim, fun x h => by simp at h; rw [h]; exact ha, by simp, fun x h => by simp at h; rw [h]; exact RE.refl _, List.not_mem_nil, fun _ _ h => (List.not_mem_nil h).elim, Or.inr (by simp)⟩
theorem Back.done {E : List EdgeR} {V : List Int} {a b : Int} {S : List Int} (h : Back E V a b S []) : ¬ RE (E.map EdgeR.tri) b a := by
  intro hr
  refine h.nb (hr.pred (fun e he hd => ?_) (h.src.resolve_right List.not_mem_nil))
  obtain ⟨x, hx, rfl⟩ := List.mem_map.1 he
  exact (h.cl x hx hd).resolve_right List.not_mem_nil
theorem Back.seen {E : List EdgeR} {V : List Int} {a b x : Int} {S T : List Int} (h : Back E V a b S (T ++ [x])) (hx : x ∈ S) : Back E V a b S T :=
  ⟨h.nd, h.vs, fun y hy => h.ts y (List.mem_append_left _ hy), by have := h.len; simp at this; omega, fun y hy => h.reach y (List.mem_append_left _ hy), h.nb, fun e he hd => by
    rcases h.cl e he hd with h1 | h1
    · exact Or.inl h1
    · rcases List.mem_append.1 h1 with h1 | h1
      · exact Or.inr h1
      · simp at h1; rw [h1]; exact Or.inl hx, by
    rcases h.src with h1 | h1
    · exact Or.inl h1
    · rcases List.mem_append.1 h1 with h1 | h1
      · exact Or.inr h1
      · simp at h1; rw [h1]; exact Or.inl hx⟩
theorem Back.next {E : List EdgeR} {V : List Int} {a b x : Int} {S T : List Int} {l : List EdgeR} (h : Back E V a b S (T ++ [x])) (hx : x ∉ S) (hxb : x ≠ b) (hl : l.Perm (E.filter fun e => e.dst == x)) (hE : E.length ≤ 1000) (hV : ∀ e ∈ E, e.src ∈ V) : Back E V a b (S ++ [x]) (T ++ l.map (·.src)) := by
  have hm : ∀ e, e ∈ l ↔ e ∈ E ∧ e.dst = x := fun e => by rw [hl.mem_iff, List.mem_filter]; simp
  have hll : l.length ≤ 1000 := by rw [hl.length_eq]; exact Nat.le_trans (List.length_filter_le _ _) hE
  have hax : x ∈ T ++ [x] := by simp
  refine ⟨?_, ?_, ?_, ?_, ?_, ?_, ?_, ?_⟩
  · rw [List.nodup_append]
    refine ⟨h.nd, by simp, fun y hy z hz => ?_⟩
    simp at hz
    subst hz
    exact fun e => hx (e ▸ hy)
  · intro y hy
    rcases List.mem_append.1 hy with hy | hy
    · exact h.vs y hy
    · simp at hy; rw [hy]; exact h.ts x hax
  · intro y hy
    rcases List.mem_append.1 hy with hy | hy
    · exact h.ts y (List.mem_append_left _ hy)
    · obtain ⟨e, he, rfl⟩ := List.mem_map.1 hy
      exact hV e ((hm e).1 he).1
  · have := h.len
    simp at this ⊢
    omega
  · intro y hy
    rcases List.mem_append.1 hy with hy | hy
    · exact h.reach y (List.mem_append_left _ hy)
    · obtain ⟨e, he, rfl⟩ := List.mem_map.1 hy
      obtain ⟨h1, h2⟩ := (hm e).1 he
      have h3 : (e.src, x, e.wt) ∈ E.map EdgeR.tri := by rw [← h2]; exact List.mem_map.2 ⟨e, h1, rfl⟩
      exact RE.head h3 (h.reach x hax)
  · intro hb
    rcases List.mem_append.1 hb with hb | hb
    · exact h.nb hb
    · simp at hb; exact hxb hb.symm
  · intro e he hd
    rcases List.mem_append.1 hd with hd | hd
    · rcases h.cl e he hd with h1 | h1
      · exact Or.inl (List.mem_append_left _ h1)
      · rcases List.mem_append.1 h1 with h1 | h1
        · exact Or.inr (List.mem_append_left _ h1)
        · exact Or.inl (List.mem_append_right _ h1)
    · simp at hd
      exact Or.inr (List.mem_append_right _ (List.mem_map.2 ⟨e, (hm e).2 ⟨he, hd⟩, rfl⟩))
  · rcases h.src with h1 | h1
    · exact Or.inl (List.mem_append_left _ h1)
    · rcases List.mem_append.1 h1 with h1 | h1
      · exact Or.inr (List.mem_append_left _ h1)
      · exact Or.inl (List.mem_append_right _ h1)
theorem Back.size {E : List EdgeR} {V : List Int} {a b : Int} {S T : List Int} (h : Back E V a b S T) (hV : V.length ≤ 500) : S.length ≤ 500 :=
  Nat.le_trans (nodup_len h.nd h.vs) hV
end Go.Proofs.YtcenebjdhbdejaaGreatDoor
