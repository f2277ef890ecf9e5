/- The undirected graph's RemoveVertex and RemoveEdge, walked. -/
import Derived.Test.YtcenebjdhbdejaaGreatDoorB10
import Derived.Test.YtcenebjdhbdejaaGreatDoorB12
namespace Go.Proofs.YtcenebjdhbdejaaGreatDoor
open Go.MapKept

set_option maxRecDepth 100000 in
set_option maxHeartbeats 400000 in
/-- RemoveVertex hands on what the store's says. -/
theorem u_removeVertex {w : World} {H : Hd} {τ : Tr} {σ : St} {k : Int} {Q : Value → World → Prop} (h : Gr w H τ σ)
    (hc : Calls Tryz.prog 151 #[.pointer (some ⟨H.A.s, 0, none⟩), kI k] w fun r w' => ∃ v, r = .returned v ∧ Q v w') :
    Calls Tryz.prog 137 #[.pointer (some ⟨H.d, 0, none⟩), kI k] w fun r w' => ∃ v, r = .returned v ∧ Q v w' := by
  have hlt := h.lt
  have d2 := h.d2
  clear h
  go_enter Tryz.func137, Tryz.ntmps137
  have hM := M145_RemoveVertex
  go_wp2_with (go_at_call 151; refine hc.mono ?_; rintro r w1 ⟨v, hr, hq⟩; subst hr)
  go_ret
  exact ⟨_, rfl, hq⟩

set_option maxRecDepth 100000 in
set_option maxHeartbeats 800000 in
theorem u_removeEdge_no {w : World} {H : Hd} {τ : Tr} {σ : St} {a b : Int} {p : Nat → Addr} (h : Gr w H τ σ) (hp : Sent w p) {B : Nat} (hB : Below6 B p) (he : ∀ e ∈ σ.E, ¬ (e.src = a ∧ e.dst = b)) (he' : ∀ e ∈ σ.E, ¬ (e.src = b ∧ e.dst = a)) :
    Calls Tryz.prog 136 #[.pointer (some ⟨H.d, 0, none⟩), kI a, kI b] w fun r w' => r = .returned (errv p 4) ∧ Ext No w w' := by
  have hc := u_edge_no h hp hB he he'
  clear h hp
  go_enter Tryz.func136, Tryz.ntmps136
  go_wp2_with (first | (go_at_call 132; refine hc.mono ?_; rintro r w1 ⟨hr, h1⟩; subst hr; clear hc))
  go_ret
  exact ⟨rfl, h1.alloc _⟩

set_option maxRecDepth 100000 in
set_option maxHeartbeats 800000 in
theorem u_removeEdge_yes {w : World} {H : Hd} {τ : Tr} {σ : St} {e e' : EdgeR} {p : Nat → Addr} (h : Gr w H τ σ) (hp : Sent w p) {B : Nat} (hB : Below6 B p) (he : e ∈ σ.E) (he' : e' ∈ σ.E) (hs : e'.src = e.dst) (hd : e'.dst = e.src) (hne : e.src ≠ e.dst) :
    Calls Tryz.prog 136 #[.pointer (some ⟨H.d, 0, none⟩), kI e.src, kI e.dst] w fun r w' => r = .returned .nilIface ∧ Turned H τ σ { σ with E := cutE (cutE σ.E e.src e.dst) e.dst e.src } w w' := by
  have hc := u_edge_yes h hp hB he
  have HG := Lib.hid h
  have d2 := h.d2
  have he2 : e' ∈ cutE σ.E e.src e.dst := List.mem_filter.2 ⟨he', by simp [hs, hd, hne]⟩
  have HX := Lib.hid (And.intro hs hd)
  clear h hs hd
  go_enter Tryz.func136, Tryz.ntmps136
  have hM := M145_RemoveEdge
  go_wp2_with (first | (go_at_call 150; have hc2 := store_removeEdge HY.out.1 he2; rw [HX.out.1, HX.out.2] at hc2; refine hc2.mono ?_; rintro r w3 ⟨hr, h4, h5⟩; subst hr) | (go_at_call 150; refine (store_removeEdge (HG.out.st.ext HE.out (fun _ _ h => h)) he).mono ?_; rintro r w2 ⟨hr, h2, h3⟩; subst hr; have d3 := (HE.out.no.then h3 (fun c _ hc => Or.inl hc) : Ext (σ.foot H.A) w w2).cellv d2 HG.out.nd; have l3 := World.block_lt_of_cell? _ _ d3; have HY := Lib.hid (And.intro h2 h3); clear h2 h3) | (go_at_call 132; refine hc.mono ?_; rintro r w1 ⟨hr, h1⟩; subst hr; have d2' := h1.cellv d2 id; have l2 := World.block_lt_of_cell? _ _ d2'; have HE := Lib.hid (h1.alloc (.cells #[.int .i64 e.src, .int .i64 e.dst, .map (some e.att), .int .i64 e.wt, .nilIface] 97)); clear hc))
  go_ret
  refine ⟨rfl, HG.out.turn ((HE.out.no.then HY.out.2 (fun c _ hc => Or.inl hc)).trans (h5.mono (fun c _ hc => Or.inl hc))) h4 (fun c hc => ?_)⟩
  rcases hc with hc | hc
  · exact Or.inl (Or.inl hc)
  · refine Or.inl (Or.inr ?_)
    simp only [St.atts, List.mem_append, List.mem_map] at hc ⊢
    rcases hc with hc | ⟨x, hx, rfl⟩
    · exact Or.inl hc
    · exact Or.inr ⟨x, (List.mem_filter.1 (List.mem_filter.1 hx).1).1, rfl⟩
end Go.Proofs.YtcenebjdhbdejaaGreatDoor
