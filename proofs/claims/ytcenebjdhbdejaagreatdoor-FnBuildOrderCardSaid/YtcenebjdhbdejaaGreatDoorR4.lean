/- stepped over a graph as lists: the counts; Building's steps, those that only add. -/
import Derived.Test.YtcenebjdhbdejaaGreatDoorR3
import Derived.Test.YtcenebjdhbdejaaGreatDoorS4
namespace Go.Proofs.YtcenebjdhbdejaaGreatDoor
open Go.MapKept

def DoCT (s : PS) (s' : PS) (sp : SP) : Prop := s' = s ∧ sp = ⟨0, s.V.length, s.E.length, 0, [], []⟩

theorem stored_len (dir : Bool) (E : List Tri) : (stored dir E).length = if dir then E.length else 2 * E.length := by
  cases dir with
  | true => rfl
  | false =>
    simp only [stored, Bool.false_eq_true, if_false]
    induction E with
    | nil => rfl
    | cons e E ih => simp only [List.flatMap_cons, List.length_append, ih, List.length_cons, List.length_nil]; omega

theorem Rep.lenV {dir : Bool} {s : PS} {τ : Tr} {σ : St} (h : Rep dir s τ σ) : σ.V.length = s.V.length := by rw [← h.V, List.length_map]
theorem Rep.lenE {dir : Bool} {s : PS} {τ : Tr} {σ : St} (h : Rep dir s τ σ) : σ.E.length = if dir then s.E.length else 2 * s.E.length := by rw [← stored_len, ← h.E, List.length_map]

theorem step_ct (dir : Bool) {w : World} {H : Hd} {τ : Tr} {σ : St} {s : PS} {a b wt : Int} (h : Gr w H τ σ) (hr : Rep dir s τ σ) (hV : s.V.length < 1000000) (hE : (stored dir s.E).length < 1000000) :
    Calls Tryz.prog 24 #[gV dir H, stepV 7 a b wt] w (StepPost dir H τ σ (DoCT s) w) := by
  have lV := hr.lenV
  have lE := hr.lenE
  rw [stored_len] at hE
  have := stepped_ct (gk dir) (w := w) (d := ⟨H.d, 0, none⟩) (a := a) (b := b) (wt := wt) (n := s.V.length) (m := s.E.length)
    (fun w' he => by
      have hg := h.ext he (fun _ _ h => h)
      cases dir with
      | true => have := d_order hg; rw [lV] at this; exact this
      | false => have := u_order hg; rw [lV] at this; exact this)
    (fun w' he => by
      have hg := h.ext he (fun _ _ h => h)
      cases dir with
      | true =>
        simp only [if_true] at lE
        have := d_size hg (by omega) (by simp at hE; omega)
        rw [lE] at this; exact this
      | false =>
        simp only [Bool.false_eq_true, if_false] at lE hE
        have := u_size hg (by omega) (by omega)
        rw [lE] at this
        have e : (((2 * s.E.length : Nat) : Int) / 2) = (s.E.length : Int) := by omega
        rw [e] at this; exact this)
  rw [gk_T] at this
  refine this.mono ?_
  rintro r w' ⟨rfl, he⟩
  exact ⟨σ, s, ⟨0, s.V.length, s.E.length, 0, [], []⟩, nilS, nilS, rfl, ⟨rfl, rfl⟩, Turned.same h he, hr, nil_own, nil_own⟩

/-- a step that only adds or asks -/
noncomputable def DoS (dir : Bool) (x : Stp) (s s' : PS) (sp : SP) : Prop :=
  if x.op = 0 then DoAV s x.a s' sp
  else if x.op = 2 then DoAE dir s x.a x.b x.wt s' sp
  else if x.op = 7 then DoCT s s' sp
  else DoAM dir s s' sp

/-- the steps that are walked here -/
def Adds (dir : Bool) (x : Stp) : Prop := x.op = 0 ∨ (x.op = 2 ∧ (dir = false → x.a ≠ x.b)) ∨ x.op = 7 ∨ x.op = 9

theorem DoS.size {dir : Bool} {x : Stp} {s s' : PS} {sp : SP} (h : DoS dir x s s' sp) : s'.V.length + s'.E.length ≤ s.V.length + s.E.length + 1 := by
  unfold DoS at h
  split at h
  · unfold DoAV at h; split at h
    · rw [h.1]; omega
    · rw [h.1]; simp; omega
  · split at h
    · unfold DoAE at h
      split at h
      · rw [h.1]; omega
      · split at h
        · rw [h.1]; omega
        · rw [h.1]; simp; omega
    · split at h
      · rw [h.1]; omega
      · rw [h.1]; omega

theorem Below6.mono {B N : Nat} {p : Nat → Addr} (h : Below6 B p) (hn : B ≤ N) : Below6 N p := ⟨Nat.le_trans h.1 hn, fun i hi => Nat.lt_of_lt_of_le (h.2 i hi) hn⟩

theorem stepsOk_adds (dir : Bool) {p : Nat → Addr} {N : Nat} {l : List Stp} (hB : Below6 N p) (hl : l.length < 400000) (ha : ∀ x ∈ l, Adds dir x) : StepsOk dir false (DoS dir) p N l := by
  intro i hi w v s hN hp hg hsz
  obtain ⟨H, τ, σ, rfl, hgr, hr, hpv, hf⟩ := hg
  have hx := ha _ (List.getElem_mem hi)
  generalize l[i]'hi = x at hx ⊢
  have hff : ∀ c, σ.foot H.A c → N ≤ c := fun c hc => hf c (Or.inr (Or.inr hc))
  have hV : s.V.length < 1000000 := by omega
  have hE : (stored dir s.E).length < 1000000 := by rw [stored_len]; split <;> omega
  obtain ⟨op, a, b, wt⟩ := x
  have key : ∀ {D : PS → SP → Prop} {op' : Int}, op = op' → (∀ s' sp, D s' sp → DoS dir ⟨op, a, b, wt⟩ s s' sp) → Calls Tryz.prog 24 #[gV dir H, stepV op' a b wt] w (StepPost dir H τ σ D w) →
      Calls Tryz.prog 24 #[gV dir H, (⟨op, a, b, wt⟩ : Stp).val] w (fun r w' => StepG dir false N (fun s' sp => DoS dir ⟨op, a, b, wt⟩ s s' sp ∧ s'.V.length + s'.E.length ≤ i + 1) w r w') := by
    intro D op' ho hd hc
    subst ho
    refine hc.mono fun r w' h => ?_
    obtain ⟨v', s', sp, x, h1, h2, h3⟩ := h.g hgr hpv hf hN
    exact ⟨v', s', sp, x, h1, ⟨hd _ _ h2, by have := (hd _ _ h2).size; omega⟩, h3⟩
  rcases hx with hx | ⟨hx, hab⟩ | hx | hx
  · exact key hx (fun s' sp h => by unfold DoS; rw [if_pos hx]; exact h) (step_av dir hgr hr hp hB hff)
  · exact key hx (fun s' sp h => by unfold DoS; rw [if_neg (by simp only at hx ⊢; omega), if_pos hx]; exact h) (step_ae dir hgr hr hp hB hff hpv hab)
  · exact key hx (fun s' sp h => by unfold DoS; rw [if_neg (by simp only at hx ⊢; omega), if_neg (by simp only at hx ⊢; omega), if_pos hx]; exact h) (step_ct dir hgr hr hV hE)
  · exact key hx (fun s' sp h => by unfold DoS; rw [if_neg (by simp only at hx ⊢; omega), if_neg (by simp only at hx ⊢; omega), if_neg (by simp only at hx ⊢; omega)]; exact h) (step_am dir hgr hr hV hE)
end Go.Proofs.YtcenebjdhbdejaaGreatDoor
