/- stepped over a graph as lists: Vertex, Edge. -/
import Derived.Test.YtcenebjdhbdejaaGreatDoorB24
import Derived.Test.YtcenebjdhbdejaaGreatDoorB20
import Derived.Test.YtcenebjdhbdejaaGreatDoorB31
namespace Go.Proofs.YtcenebjdhbdejaaGreatDoor
open Go.MapKept

theorem step_vx (dir : Bool) {w : World} {H : Hd} {τ : Tr} {σ : St} {s : PS} {a b wt : Int} {p : Nat → Addr} {B : Nat} (h : Gr w H τ σ) (hr : Rep dir s τ σ) (hp : Sent w p) (hB : Below6 B p) :
    Calls Tryz.prog 24 #[gV dir H, stepV 5 a b wt] w (StepPost dir H τ σ (DoVX s a) w) := by
  by_cases ha : a ∈ s.V
  · obtain ⟨n, hn⟩ := hr.mem.1 ha
    have := stepped_vx_yes (gk dir) (w := w) (d := ⟨H.d, 0, none⟩) (a := a) (b := b) (wt := wt) (fun w' he => by
      have hg := h.ext he (fun _ _ h => h)
      cases dir with
      | true => exact d_vertex_yes hg hn
      | false => exact u_vertex_yes hg hn)
    rw [gk_T] at this
    refine this.mono ?_
    rintro r w' ⟨rfl, he⟩
    exact ⟨σ, s, ⟨0, a, 0, 0, [], []⟩, nilS, nilS, rfl, ⟨rfl, Or.inl ⟨ha, rfl⟩⟩, Turned.same h he, hr, nil_own, nil_own⟩
  · have hk : ∀ n, (a, n) ∉ σ.V := fun n hn => ha (hr.mem.2 ⟨n, hn⟩)
    have := stepped_vx_no (gk dir) (w := w) (d := ⟨H.d, 0, none⟩) (a := a) (b := b) (wt := wt) hB hp (fun w' he => by
      have hg := h.ext he (fun _ _ h => h)
      have hp' := hp.ext hB he (fun _ h => h.elim)
      cases dir with
      | true => exact d_vertex_no hg hp' hk
      | false => exact u_vertex_no hg hp' hk)
    rw [gk_T] at this
    refine this.mono ?_
    rintro r w' ⟨rfl, he⟩
    exact ⟨σ, s, .err 2, nilS, nilS, rfl, ⟨rfl, Or.inr ⟨ha, rfl⟩⟩, Turned.same h he, hr, nil_own, nil_own⟩

theorem step_ed (dir : Bool) {w : World} {H : Hd} {τ : Tr} {σ : St} {s : PS} {a b wt : Int} {p : Nat → Addr} {B : Nat} (h : Gr w H τ σ) (hr : Rep dir s τ σ) (hp : Sent w p) (hB : Below6 B p) :
    Calls Tryz.prog 24 #[gV dir H, stepV 6 a b wt] w (StepPost dir H τ σ (DoED dir s a b) w) := by
  by_cases ha : hasE dir s.E a b
  · obtain ⟨e, hem, rfl, rfl⟩ := hr.has.2 ha
    have := stepped_ed_yes (gk dir) (w := w) (d := ⟨H.d, 0, none⟩) (a := e.src) (b := e.dst) (wt := wt) (e := e) (fun w' he => by
      have hg := h.ext he (fun _ _ h => h)
      have hp' := hp.ext hB he (fun _ h => h.elim)
      cases dir with
      | true => exact d_edge_yes hg hem
      | false => exact u_edge_yes hg hp' hB hem)
    rw [gk_T] at this
    refine this.mono ?_
    rintro r w' ⟨rfl, he⟩
    exact ⟨σ, s, ⟨0, e.src, e.dst, e.wt, [], []⟩, nilS, nilS, rfl, ⟨rfl, Or.inr ⟨e.wt, by rw [← hr.E]; exact List.mem_map.2 ⟨e, hem, rfl⟩, rfl⟩⟩, Turned.same h he, hr, nil_own, nil_own⟩
  · have hk : ∀ e ∈ σ.E, ¬ (e.src = a ∧ e.dst = b) := fun e hm hh => ha (hr.has.1 ⟨e, hm, hh⟩)
    have := stepped_ed_no (gk dir) (w := w) (d := ⟨H.d, 0, none⟩) (a := a) (b := b) (wt := wt) hB hp (fun w' he => by
      have hg := h.ext he (fun _ _ h => h)
      have hp' := hp.ext hB he (fun _ h => h.elim)
      cases dir with
      | true => exact d_edge_no hg hp' hB hk
      | false => exact u_edge_no hg hp' hB hk (fun e hm hh => ha (hasE_comm (hr.has.1 ⟨e, hm, hh⟩))))
    rw [gk_T] at this
    refine this.mono ?_
    rintro r w' ⟨rfl, he⟩
    exact ⟨σ, s, .err 5, nilS, nilS, rfl, ⟨rfl, Or.inl ⟨ha, rfl⟩⟩, Turned.same h he, hr, nil_own, nil_own⟩
end Go.Proofs.YtcenebjdhbdejaaGreatDoor
