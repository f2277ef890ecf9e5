/- Vertex of either kind, walked. -/
import Derived.Test.YtcenebjdhbdejaaGreatDoorB04
namespace Go.Proofs.YtcenebjdhbdejaaGreatDoor
open Go.MapKept

set_option maxRecDepth 100000 in
set_option maxHeartbeats 400000 in
theorem d_vertex_yes {w : World} {H : Hd} {τ : Tr} {σ : St} {k : Int} {a : Nat} (h : Gr w H τ σ) (hk : (k, a) ∈ σ.V) :
    Calls Tryz.prog 116 #[.pointer (some ⟨H.d, 0, none⟩), kI k] w fun r w' => r = .returned (.tuple #[kI k, .nilIface]) ∧ Ext No w w' := by
  have hlt := h.lt
  have d2 := h.d2
  have hc := vertex_yes h.st hk
  clear h
  go_enter Tryz.func116, Tryz.ntmps116
  have hM := M145_Vertex
  go_wp2_with (first | (go_at_call 153; refine hc.mono ?_; rintro r w1 ⟨hr, h1⟩; subst hr))
  refine bodyPost_ret (v := .tuple #[kI k, .nilIface]) (by simp [results, Tryz.results116, go_sem]) rfl ⟨rfl, h1.alloc _⟩

set_option maxRecDepth 100000 in
set_option maxHeartbeats 400000 in
theorem d_vertex_no {w : World} {H : Hd} {τ : Tr} {σ : St} {k : Int} {p : Nat → Addr} (h : Gr w H τ σ) (hp : Sent w p) (hk : ∀ a, (k, a) ∉ σ.V) :
    Calls Tryz.prog 116 #[.pointer (some ⟨H.d, 0, none⟩), kI k] w fun r w' => r = .returned (.tuple #[kI 0, errv p 1]) ∧ Ext No w w' := by
  have hlt := h.lt
  have d2 := h.d2
  have hc := vertex_no h.st hp hk
  clear h
  go_enter Tryz.func116, Tryz.ntmps116
  have hM := M145_Vertex
  go_wp2_with (first | (go_at_call 153; refine hc.mono ?_; rintro r w1 ⟨hr, h1⟩; subst hr))
  refine bodyPost_ret (v := .tuple #[kI 0, errv p 1]) (by simp [results, Tryz.results116, go_sem]) rfl ⟨rfl, h1.alloc _⟩

set_option maxRecDepth 100000 in
set_option maxHeartbeats 400000 in
theorem u_vertex_yes {w : World} {H : Hd} {τ : Tr} {σ : St} {k : Int} {a : Nat} (h : Gr w H τ σ) (hk : (k, a) ∈ σ.V) :
    Calls Tryz.prog 141 #[.pointer (some ⟨H.d, 0, none⟩), kI k] w fun r w' => r = .returned (.tuple #[kI k, .nilIface]) ∧ Ext No w w' := by
  have hlt := h.lt
  have d2 := h.d2
  have hc := vertex_yes h.st hk
  clear h
  go_enter Tryz.func141, Tryz.ntmps141
  have hM := M145_Vertex
  go_wp2_with (first | (go_at_call 153; refine hc.mono ?_; rintro r w1 ⟨hr, h1⟩; subst hr))
  refine bodyPost_ret (v := .tuple #[kI k, .nilIface]) (by simp [results, Tryz.results141, go_sem]) rfl ⟨rfl, h1.alloc _⟩

set_option maxRecDepth 100000 in
set_option maxHeartbeats 400000 in
theorem u_vertex_no {w : World} {H : Hd} {τ : Tr} {σ : St} {k : Int} {p : Nat → Addr} (h : Gr w H τ σ) (hp : Sent w p) (hk : ∀ a, (k, a) ∉ σ.V) :
    Calls Tryz.prog 141 #[.pointer (some ⟨H.d, 0, none⟩), kI k] w fun r w' => r = .returned (.tuple #[kI 0, errv p 1]) ∧ Ext No w w' := by
  have hlt := h.lt
  have d2 := h.d2
  have hc := vertex_no h.st hp hk
  clear h
  go_enter Tryz.func141, Tryz.ntmps141
  have hM := M145_Vertex
  go_wp2_with (first | (go_at_call 153; refine hc.mono ?_; rintro r w1 ⟨hr, h1⟩; subst hr))
  refine bodyPost_ret (v := .tuple #[kI 0, errv p 1]) (by simp [results, Tryz.results141, go_sem]) rfl ⟨rfl, h1.alloc _⟩
end Go.Proofs.YtcenebjdhbdejaaGreatDoor
