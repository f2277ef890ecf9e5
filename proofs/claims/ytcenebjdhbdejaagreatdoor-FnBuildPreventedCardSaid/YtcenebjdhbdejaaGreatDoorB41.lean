/- stepped over a graph as lists: Clone; all of Building's steps. -/
import Derived.Test.YtcenebjdhbdejaaGreatDoorB20
import Derived.Test.YtcenebjdhbdejaaGreatDoorB40
import Derived.Test.YtcenebjdhbdejaaGreatDoorB21
import Derived.Test.YtcenebjdhbdejaaGreatDoorB28
namespace Go.Proofs.YtcenebjdhbdejaaGreatDoor
open Go.MapKept

theorem step_cl (dir : Bool) {w : World} {H : Hd} {τ : Tr} {σ : St} {s : PS} {a b wt : Int} {p : Nat → Addr} {N : Nat} (h : Gr w H τ σ) (hr : Rep dir s τ σ) (hp : Sent w p) (hB : Below6 N p) (hN : N ≤ w.heap.size) (hprev : τ.prev = false) (hV : s.V.length < 1000000) (hE : (stored dir s.E).length < 1000000) :
    Calls Tryz.prog 24 #[gV dir H, stepV 11 a b wt] w (StepG dir false N (DoCL dir s) w) := by
  have := stepped_cl (gk dir) (w := w) (d := ⟨H.d, 0, none⟩) (a := a) (b := b) (wt := wt) (R := fun w1 d' w2 => ∃ H' τ' σ' s', d' = ⟨H'.d, 0, none⟩ ∧ Gr w2 H' τ' σ' ∧ Rep dir s' τ' σ' ∧ τ'.prev = false ∧ Sim dir s' s ∧ ∀ c, Gr.foot H' σ' c → w1.heap.size ≤ c)
    (fun w' he => by
      have hg := h.ext he (fun _ _ h => h)
      have hp' := hp.ext hB he (fun _ h => h.elim)
      cases dir with
      | true =>
        refine (d_clone hg hr hp' hB (Nat.le_trans hN he.size) hprev hV hE).mono ?_
        rintro r w2 ⟨H', τ', σ', s', rfl, g', r', hpv, hs, hx, hf⟩
        exact ⟨_, rfl, ⟨H', τ', σ', s', rfl, g', r', by rw [hpv, hprev], hs, hf⟩, hx⟩
      | false =>
        refine (u_clone hg hr hp' hB (Nat.le_trans hN he.size) hprev hV hE).mono ?_
        rintro r w2 ⟨H', τ', σ', s', rfl, g', r', hpv, hs, hx, hf⟩
        exact ⟨_, rfl, ⟨H', τ', σ', s', rfl, g', r', by rw [hpv, hprev], hs, hf⟩, hx⟩)
  rw [gk_T] at this
  refine this.mono ?_
  rintro r w' ⟨d', w1, w2, rfl, e1, ⟨H', τ', σ', s', rfl, g', r', hpv, hs, hf⟩, e2, e3⟩
  have g3 : Gr w' H' τ' σ' := g'.ext e3 (fun c hc hh => by have := hf c hc; omega)
  exact ⟨gV dir H', s', .err 0, ⟨0, 0, 0, 0, none, 0, 0, none, 0, 0⟩, rfl, ⟨hs, rfl⟩, ⟨H', τ', σ', rfl, g3, r', hpv, fun c hc => Nat.le_trans hN (Nat.le_trans e1.size (hf c hc))⟩, ⟨rfl, rfl, rfl, rfl, nil_own, nil_own⟩,
    ((e1.trans e2).then e3 (fun c hc hh => by omega)).no⟩

theorem DoI.size {dir : Bool} {x : Stp} {s s' : PS} {sp : SP} (h : DoI dir x s s' sp) : s'.V.length + s'.E.length ≤ s.V.length + s.E.length + 1 := by
  unfold DoI at h
  split at h
  · unfold DoAV at h; split at h
    · rw [h.1]; omega
    · rw [h.1]; simp; omega
  split at h
  · unfold DoRV at h
    split at h
    · rw [h.1]; omega
    · split at h
      · rw [h.1]; omega
      · rw [h.1]; have := List.length_filter_le (fun y => !(y == x.a)) s.V; simp only []; omega
  split at h
  · unfold DoAE at h
    split at h
    · rw [h.1]; omega
    · split at h
      · rw [h.1]; omega
      · rw [h.1]; simp; omega
  split at h
  · unfold DoRE at h
    split at h
    · rw [h.1]; have := List.length_filter_le (fun e => !isE dir x.a x.b e) s.E; simp only []; omega
    · rw [h.1]; omega
  split at h
  · unfold DoUE at h
    split at h
    · rw [h.1]; simp
    · rw [h.1]; omega
  split at h
  · rw [h.1]; omega
  split at h
  · rw [h.1]; omega
  split at h
  · rw [h.1]; omega
  split at h
  · rw [h.1]; omega
  split at h
  · rw [h.1]; omega
  split at h
  · rw [h.1]; omega
  · have h1 := h.1.V.length_eq
    have h2 := h.1.lenE
    omega

/-- a step's number: one of twelve -/
theorem op_cases {n : Int} (h0 : 0 ≤ n) (h1 : n ≤ 11) : n = 0 ∨ n = 1 ∨ n = 2 ∨ n = 3 ∨ n = 4 ∨ n = 5 ∨ n = 6 ∨ n = 7 ∨ n = 8 ∨ n = 9 ∨ n = 10 ∨ n = 11 := by omega

theorem right_op {dir : Bool} {x : Stp} (h : rightS dir x = true) : x.op ≤ 11 ∧ (dir = false → 2 ≤ x.op → x.op ≤ 4 → x.a ≠ x.b) := by
  unfold rightS at h
  simp only [Bool.not_eq_true', Bool.or_eq_false_iff, decide_eq_false_iff_not] at h
  refine ⟨by omega, fun hd h2 h4 hab => ?_⟩
  have := h.2
  rw [hd] at this
  simp [hab] at this
  omega

theorem stepsOk_all (dir : Bool) {p : Nat → Addr} {N : Nat} {l : List Stp} (hB : Below6 N p) (hl : l.length < 400000) (ha : ∀ x ∈ l, rightS dir x = true) (h0 : ∀ x ∈ l, 0 ≤ x.op) : StepsOk dir false (DoI dir) p N l := by
  intro i hi w v s hN hp hg hsz
  obtain ⟨H, τ, σ, rfl, hgr, hr, hpv, hf⟩ := hg
  have hx := ha _ (List.getElem_mem hi)
  have hx0 := h0 _ (List.getElem_mem hi)
  generalize l[i]'hi = x at hx hx0 ⊢
  have hff : ∀ c, σ.foot H.A c → N ≤ c := fun c hc => hf c (Or.inr (Or.inr hc))
  have hV : s.V.length < 1000000 := by omega
  have hE : (stored dir s.E).length < 1000000 := by rw [stored_len]; split <;> omega
  obtain ⟨hx1, hab⟩ := right_op hx
  obtain ⟨op, a, b, wt⟩ := x
  simp only at hx0 hx1 hab
  have key : ∀ {D : PS → SP → Prop} {op' : Int}, op = op' → (∀ s' sp, D s' sp → DoI dir ⟨op, a, b, wt⟩ s s' sp) → Calls Tryz.prog 24 #[gV dir H, stepV op' a b wt] w (StepPost dir H τ σ D w) →
      Calls Tryz.prog 24 #[gV dir H, (⟨op, a, b, wt⟩ : Stp).val] w (fun r w' => StepG dir false N (fun s' sp => DoI dir ⟨op, a, b, wt⟩ s s' sp ∧ s'.V.length + s'.E.length ≤ i + 1) w r w') := by
    intro D op' ho hd hc
    subst ho
    refine hc.mono fun r w' h => ?_
    obtain ⟨v', s', sp, x, h1, h2, h3⟩ := h.g hgr hpv hf hN
    exact ⟨v', s', sp, x, h1, ⟨hd _ _ h2, by have := (hd _ _ h2).size; omega⟩, h3⟩
  rcases op_cases hx0 hx1 with h | h | h | h | h | h | h | h | h | h | h | h
  · exact key h (fun s' sp hh => by subst h; simpa [DoI] using hh) (step_av dir hgr hr hp hB hff)
  · exact key h (fun s' sp hh => by subst h; simpa [DoI] using hh) (step_rv dir hgr hr hp hB hff)
  · exact key h (fun s' sp hh => by subst h; simpa [DoI] using hh) (step_ae dir hgr hr hp hB hff hpv (fun e => hab e (by omega) (by omega)))
  · exact key h (fun s' sp hh => by subst h; simpa [DoI] using hh) (step_re dir hgr hr hp hB hff (fun e => hab e (by omega) (by omega)))
  · exact key h (fun s' sp hh => by subst h; simpa [DoI] using hh) (step_ue dir hgr hr hp hB hff (fun e => hab e (by omega) (by omega)))
  · exact key h (fun s' sp hh => by subst h; simpa [DoI] using hh) (step_vx dir hgr hr hp hB)
  · exact key h (fun s' sp hh => by subst h; simpa [DoI] using hh) (step_ed dir hgr hr hp hB)
  · exact key h (fun s' sp hh => by subst h; simpa [DoI] using hh) (step_ct dir hgr hr hV hE)
  · exact key h (fun s' sp hh => by subst h; simpa [DoI] using hh) (step_es dir hgr hr hE)
  · exact key h (fun s' sp hh => by subst h; simpa [DoI] using hh) (step_am dir hgr hr hV hE)
  · exact key h (fun s' sp hh => by subst h; simpa [DoI] using hh) (step_pm dir hgr hr hV hE)
  · subst h
    refine (step_cl dir hgr hr hp hB hN hpv hV hE).mono fun r w' hh => ?_
    obtain ⟨v', s', sp, x, h1, h2, h3⟩ := hh
    have hd : DoI dir ⟨11, a, b, wt⟩ s s' sp := by simpa [DoI] using h2
    exact ⟨v', s', sp, x, h1, ⟨hd, by have := hd.size; omega⟩, h3⟩
end Go.Proofs.YtcenebjdhbdejaaGreatDoor
