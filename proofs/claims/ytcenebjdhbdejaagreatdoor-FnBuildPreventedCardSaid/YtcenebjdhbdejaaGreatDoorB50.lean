/- Steps where cycles are prevented: of the package, of the lists; the plain law. -/
import Derived.Test.YtcenebjdhbdejaaGreatDoorB49
import Derived.Test.YtcenebjdhbdejaaGreatDoorB42
namespace Go.Proofs.YtcenebjdhbdejaaGreatDoor
open Go.MapKept

/-- a step of a directed graph of the package, and of the lists, that prevents cycles -/
noncomputable def DoIP (x : Stp) (s s' : PS) (sp : SP) : Prop := if x.op = 2 then DoAP s x.a x.b x.wt s' sp else DoI true x s s' sp
noncomputable def DoMP (x : Stp) (s s' : PS) (sp : SP) : Prop := if x.op = 2 then DoAP s x.a x.b x.wt s' sp else DoM true x s s' sp

theorem DoAP.cases {s s' : PS} {a b wt : Int} {sp : SP} (h : DoAP s a b wt s' sp) : (s' = s ∧ sp = .err 2) ∨ (s' = s ∧ sp = .err 4) ∨ (s' = s ∧ sp = .err 6) ∨ (s' = ⟨s.V, s.E ++ [(a, b, wt)]⟩ ∧ sp = .err 0 ∧ ¬ RE s.E b a) := by
  unfold DoAP at h
  split at h
  · exact Or.inl h
  split at h
  · exact Or.inr (Or.inl h)
  split at h
  · exact Or.inr (Or.inr (Or.inl h))
  · next hc => exact Or.inr (Or.inr (Or.inr ⟨h.1, h.2, hc⟩))

theorem DoIP.size {x : Stp} {s s' : PS} {sp : SP} (h : DoIP x s s' sp) : s'.V.length + s'.E.length ≤ s.V.length + s.E.length + 1 := by
  unfold DoIP at h
  split at h
  · rcases h.cases with ⟨h, -⟩ | ⟨h, -⟩ | ⟨h, -⟩ | ⟨h, -, -⟩ <;> rw [h] <;> simp <;> omega
  · exact h.size
theorem DoIP.len {x : Stp} {s s' : PS} {sp : SP} (h : DoIP x s s' sp) : sp.ks.length ≤ s.V.length ∧ sp.es.length ≤ 2 * s.E.length := by
  unfold DoIP at h
  split at h
  · rcases h.cases with ⟨-, h⟩ | ⟨-, h⟩ | ⟨-, h⟩ | ⟨-, h, -⟩ <;> (rw [h]; simp)
  · exact h.len

theorem stepsOk_prev {p : Nat → Addr} {N : Nat} {l : List Stp} (hB : Below6 N p) (hl : l.length ≤ 400) (ha : ∀ x ∈ l, rightS true x = true) (h0 : ∀ x ∈ l, 0 ≤ x.op) (hn : ∀ x ∈ l, x.op ≠ 11) : StepsOk true true DoIP p N l := by
  intro i hi w v s hN hp hg hsz
  obtain ⟨H, τ, σ, rfl, hgr, hr, hpv, hf⟩ := hg
  have hx := ha _ (List.getElem_mem hi)
  have hx0 := h0 _ (List.getElem_mem hi)
  have hxn := hn _ (List.getElem_mem hi)
  generalize l[i]'hi = x at hx hx0 hxn ⊢
  have hff : ∀ c, σ.foot H.A c → N ≤ c := fun c hc => hf c (Or.inr (Or.inr hc))
  have hV : s.V.length < 1000000 := by omega
  have hE : (stored true s.E).length < 1000000 := by rw [stored_len]; simp; omega
  obtain ⟨hx1, -⟩ := right_op hx
  obtain ⟨op, a, b, wt⟩ := x
  simp only at hx0 hx1 hxn
  have key : ∀ {D : PS → SP → Prop} {op' : Int}, op = op' → (∀ s' sp, D s' sp → DoIP ⟨op, a, b, wt⟩ s s' sp) → Calls Tryz.prog 24 #[gV true H, stepV op' a b wt] w (StepPost true H τ σ D w) →
      Calls Tryz.prog 24 #[gV true H, (⟨op, a, b, wt⟩ : Stp).val] w (fun r w' => StepG true true N (fun s' sp => DoIP ⟨op, a, b, wt⟩ s s' sp ∧ s'.V.length + s'.E.length ≤ i + 1) w r w') := by
    intro D op' ho hd hc
    subst ho
    refine hc.mono fun r w' h => ?_
    obtain ⟨v', s', sp, x, h1, h2, h3⟩ := h.g hgr hpv hf hN
    exact ⟨v', s', sp, x, h1, ⟨hd _ _ h2, by have := (hd _ _ h2).size; omega⟩, h3⟩
  rcases op_cases hx0 hx1 with h | h | h | h | h | h | h | h | h | h | h | h
  · exact key h (fun s' sp hh => by subst h; simpa [DoIP, DoI] using hh) (step_av true hgr hr hp hB hff)
  · exact key h (fun s' sp hh => by subst h; simpa [DoIP, DoI] using hh) (step_rv true hgr hr hp hB hff)
  · exact key h (fun s' sp hh => by subst h; simpa [DoIP] using hh) (step_ap hgr hr hp hB hff hpv (by omega))
  · exact key h (fun s' sp hh => by subst h; simpa [DoIP, DoI] using hh) (step_re true hgr hr hp hB hff (fun e => by cases e))
  · exact key h (fun s' sp hh => by subst h; simpa [DoIP, DoI] using hh) (step_ue true hgr hr hp hB hff (fun e => by cases e))
  · exact key h (fun s' sp hh => by subst h; simpa [DoIP, DoI] using hh) (step_vx true hgr hr hp hB)
  · exact key h (fun s' sp hh => by subst h; simpa [DoIP, DoI] using hh) (step_ed true hgr hr hp hB)
  · exact key h (fun s' sp hh => by subst h; simpa [DoIP, DoI] using hh) (step_ct true hgr hr hV hE)
  · exact key h (fun s' sp hh => by subst h; simpa [DoIP, DoI] using hh) (step_es true hgr hr hE)
  · exact key h (fun s' sp hh => by subst h; simpa [DoIP, DoI] using hh) (step_am true hgr hr hV hE)
  · exact key h (fun s' sp hh => by subst h; simpa [DoIP, DoI] using hh) (step_pm true hgr hr hV hE)
  · exact absurd h hxn

theorem do_prev {x : Stp} {w : World} {N mm : Nat} {s : PS} {vs es : Value} (h0 : 0 ≤ x.op) (h1 : x.op ≤ 11) (h : Mo w N mm true true s vs es) (hN : N ≤ w.heap.size) (hl : s.V.length + s.E.length ≤ 400) :
    Calls Tryz.prog 14 #[.pointer (some ⟨mm, 0, none⟩), x.val] w (DoPost true true N mm (DoMP x s) w) := by
  obtain ⟨op, a, b, wt⟩ := x
  simp only at h0 h1
  have hl' : s.V.length + s.E.length < 900000 := by omega
  have hl2 : s.V.length + s.E.length < 300000 := by omega
  have imp : ∀ {D D' : PS → SP → Prop} {r : Ending} {w' : World}, DoPost true true N mm D w r w' → (∀ s sp, D s sp → D' s sp) → DoPost true true N mm D' w r w' := by
    rintro D D' r w' ⟨s', sp, v1, v2, ks, xs, h1, h2, h3⟩ hd
    exact ⟨s', sp, v1, v2, ks, xs, h1, hd _ _ h2, h3⟩
  rcases op_cases h0 h1 with hx | hx | hx | hx | hx | hx | hx | hx | hx | hx | hx | hx
  · subst hx; exact (do_av h hN hl').mono fun r w' hh => imp hh fun s sp hd => by simpa [DoMP, DoM] using hd
  · subst hx; exact (do_rv h hN hl').mono fun r w' hh => imp hh fun s sp hd => by simpa [DoMP, DoM] using hd
  · subst hx; exact (do_ap h hN hl).mono fun r w' hh => imp hh fun s sp hd => by simpa [DoMP] using hd
  · subst hx; exact (do_re h hN hl').mono fun r w' hh => imp hh fun s sp hd => by simpa [DoMP, DoM] using hd
  · subst hx; exact (do_ue h hN hl').mono fun r w' hh => imp hh fun s sp hd => by simpa [DoMP, DoM] using hd
  · subst hx; exact (do_vx h hN hl').mono fun r w' hh => imp hh fun s sp hd => by simpa [DoMP, DoM] using hd
  · subst hx; exact (do_ed h hN hl').mono fun r w' hh => imp hh fun s sp hd => by simpa [DoMP, DoM] using hd
  · subst hx; exact (do_ct h hN hl').mono fun r w' hh => imp hh fun s sp hd => by simpa [DoMP, DoM] using hd
  · subst hx; exact (do_es h hN hl2).mono fun r w' hh => imp hh fun s sp hd => by simpa [DoMP, DoM] using hd
  · subst hx; exact (do_am h hN hl2).mono fun r w' hh => imp hh fun s sp hd => by simpa [DoMP, DoM] using hd
  · subst hx; exact (do_pm h hN hl2).mono fun r w' hh => imp hh fun s sp hd => by simpa [DoMP, DoM] using hd
  · subst hx; exact (do_cl h hN hl').mono fun r w' hh => imp hh fun s sp hd => by simpa [DoMP, DoM] using hd

theorem re_perm {E F : List Tri} (h : E.Perm F) {a b : Int} : RE E a b ↔ RE F a b :=
  ⟨fun hr => hr.mono fun e he => ⟨e.2.2, h.mem_iff.1 he⟩, fun hr => hr.mono fun e he => ⟨e.2.2, h.mem_iff.2 he⟩⟩

theorem law_prev {x : Stp} {s m s1 m1 : PS} {sp sm : SP} (h : Sim true s m) (hf : Fine true m) (hi : DoIP x s s1 sp) (hm : DoMP x m m1 sm) : As true s1 m1 sp sm := by
  unfold DoIP at hi
  unfold DoMP at hm
  by_cases h2 : x.op = 2
  · rw [if_pos h2] at hi hm
    have hre : RE s.E x.b x.a ↔ RE m.E x.b x.a := re_perm h.E
    have hV : ∀ v, v ∈ s.V ↔ v ∈ m.V := fun v => h.V.mem_iff
    have hE : hasE true s.E x.a x.b ↔ hasE true m.E x.a x.b := by rw [← mem_stored, ← mem_stored]; simp only [h.E.mem_iff]
    unfold DoAP at hi hm
    have hvv : (x.a ∉ s.V ∨ x.b ∉ s.V) ↔ (x.a ∉ m.V ∨ x.b ∉ m.V) := by simp only [hV]
    by_cases hv : x.a ∉ m.V ∨ x.b ∉ m.V
    · rw [if_pos (hvv.2 hv)] at hi
      rw [if_pos hv] at hm
      obtain ⟨rfl, rfl⟩ := hi
      obtain ⟨rfl, rfl⟩ := hm
      exact ⟨h, hf, rfl⟩
    · have hvs : ¬ (x.a ∉ s.V ∨ x.b ∉ s.V) := fun h => hv (hvv.1 h)
      rw [if_neg hvs] at hi
      rw [if_neg hv] at hm
      by_cases he : hasE true m.E x.a x.b
      · rw [if_pos (hE.2 he)] at hi
        rw [if_pos he] at hm
        obtain ⟨rfl, rfl⟩ := hi
        obtain ⟨rfl, rfl⟩ := hm
        exact ⟨h, hf, rfl⟩
      · have he' : ¬ hasE true s.E x.a x.b := fun h => he (hE.1 h)
        rw [if_neg he'] at hi
        rw [if_neg he] at hm
        by_cases hc : RE m.E x.b x.a
        · rw [if_pos (hre.2 hc)] at hi
          rw [if_pos hc] at hm
          obtain ⟨rfl, rfl⟩ := hi
          obtain ⟨rfl, rfl⟩ := hm
          exact ⟨h, hf, rfl⟩
        · rw [if_neg (fun h => hc (hre.1 h))] at hi
          rw [if_neg hc] at hm
          refine law_ae (a := x.a) (b := x.b) (wt := x.wt) h hf (fun e => by cases e) ?_ ?_
          · unfold DoAE; rw [if_neg hvs, if_neg he']; exact hi
          · unfold DoAE; rw [if_neg hv, if_neg he]; exact hm
  · rw [if_neg h2] at hi hm
    exact step_law h hf (fun e => by cases e) hi hm

theorem acyc_step {x : Stp} {m m1 : PS} {sm : SP} (h : Acyc m.E) (hm : DoMP x m m1 sm) : Acyc m1.E := by
  unfold DoMP at hm
  split at hm
  · rcases hm.cases with ⟨h1, -⟩ | ⟨h1, -⟩ | ⟨h1, -⟩ | ⟨h1, -, hc⟩
    · rw [h1]; exact h
    · rw [h1]; exact h
    · rw [h1]; exact h
    · rw [h1]; exact h.add hc
  · next h2 =>
    unfold DoM at hm
    split at hm
    · unfold DoAV at hm; split at hm <;> (rw [hm.1]; exact h)
    split at hm
    · unfold DoRV at hm
      split at hm
      · rw [hm.1]; exact h
      · split at hm <;> (rw [hm.1]; exact h)
    split at hm
    · rcases hm with ⟨-, h1, -⟩ | ⟨i, hi, -, h1, -⟩
      · rw [h1]; exact h
      · rw [h1]; exact h.mono fun e he => ⟨e.2.2, List.mem_of_mem_eraseIdx he⟩
    split at hm
    · rcases hm with ⟨-, h1, -⟩ | ⟨i, hi, -, h1, -⟩
      · rw [h1]; exact h
      · rw [h1]
        refine h.mono fun e he => ?_
        rcases List.mem_or_eq_of_mem_set he with he | he
        · exact ⟨e.2.2, he⟩
        · exact ⟨m.E[i].2.2, by rw [he]; exact List.getElem_mem hi⟩
    split at hm
    · rw [hm.1]; exact h
    split at hm
    · rw [hm.1]; exact h
    split at hm
    · rw [hm.1]; exact h
    split at hm
    · rw [hm.1]; exact h
    split at hm
    · rw [hm.1]; exact h
    split at hm
    · rw [hm.1]; exact h
    · rw [hm.1]; exact h
end Go.Proofs.YtcenebjdhbdejaaGreatDoor
