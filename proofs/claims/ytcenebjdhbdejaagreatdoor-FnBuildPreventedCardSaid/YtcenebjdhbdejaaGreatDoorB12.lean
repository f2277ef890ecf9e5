/- The directed graph's RemoveVertex and RemoveEdge, walked. -/
import Derived.Test.YtcenebjdhbdejaaGreatDoorB04
import Derived.Test.YtcenebjdhbdejaaGreatDoorB11
namespace Go.Proofs.YtcenebjdhbdejaaGreatDoor
open Go.MapKept

set_option maxRecDepth 100000 in
set_option maxHeartbeats 400000 in
/-- RemoveVertex hands on what the store's says. -/
theorem d_removeVertex {w : World} {H : Hd} {τ : Tr} {σ : St} {k : Int} {Q : Value → World → Prop} (h : Gr w H τ σ)
    (hc : Calls Tryz.prog 151 #[.pointer (some ⟨H.A.s, 0, none⟩), kI k] w fun r w' => ∃ v, r = .returned v ∧ Q v w') :
    Calls Tryz.prog 112 #[.pointer (some ⟨H.d, 0, none⟩), kI k] w fun r w' => ∃ v, r = .returned v ∧ Q v w' := by
  have hlt := h.lt
  have d2 := h.d2
  clear h
  go_enter Tryz.func112, Tryz.ntmps112
  have hM := M145_RemoveVertex
  go_wp2_with (go_at_call 151; refine hc.mono ?_; rintro r w1 ⟨v, hr, hq⟩; subst hr)
  go_ret
  exact ⟨_, rfl, hq⟩

set_option maxRecDepth 100000 in
set_option maxHeartbeats 800000 in
theorem d_removeEdge_yes {w : World} {H : Hd} {τ : Tr} {σ : St} {e : EdgeR} (h : Gr w H τ σ) (he : e ∈ σ.E) :
    Calls Tryz.prog 111 #[.pointer (some ⟨H.d, 0, none⟩), kI e.src, kI e.dst] w fun r w' => r = .returned .nilIface ∧ Turned H τ σ { σ with E := cutE σ.E e.src e.dst } w w' := by
  have hc := d_edge_yes h he
  have HG := Lib.hid h
  have d2 := h.d2
  clear h
  go_enter Tryz.func111, Tryz.ntmps111
  have hM := M145_RemoveEdge
  go_wp2_with (first | (go_at_call 107; refine hc.mono ?_; rintro r w1 ⟨hr, h1⟩; subst hr; have d2' := h1.cellv d2 id; have l2 := World.block_lt_of_cell? _ _ d2'; have HE := Lib.hid (h1.alloc (.cells #[.int .i64 e.src, .int .i64 e.dst, .map (some e.att), .int .i64 e.wt, .nilIface] 97)); clear hc) | (go_at_call 150; refine (store_removeEdge (HG.out.st.ext HE.out (fun _ _ h => h)) he).mono ?_; rintro r w2 ⟨hr, h2, h3⟩; subst hr))
  go_ret
  refine ⟨rfl, HG.out.turn (HE.out.no.then h3 (fun c _ hc => Or.inl hc)) h2 (fun c hc => ?_)⟩
  rcases hc with hc | hc
  · exact Or.inl (Or.inl hc)
  · refine Or.inl (Or.inr ?_)
    simp only [St.atts, List.mem_append, List.mem_map] at hc ⊢
    rcases hc with hc | ⟨x, hx, rfl⟩
    · exact Or.inl hc
    · exact Or.inr ⟨x, (List.mem_filter.1 hx).1, rfl⟩

set_option maxRecDepth 100000 in
set_option maxHeartbeats 800000 in
theorem d_removeEdge_no {w : World} {H : Hd} {τ : Tr} {σ : St} {a b : Int} {p : Nat → Addr} (h : Gr w H τ σ) (hp : Sent w p) {B : Nat} (hB : Below6 B p) (he : ∀ e ∈ σ.E, ¬ (e.src = a ∧ e.dst = b)) :
    Calls Tryz.prog 111 #[.pointer (some ⟨H.d, 0, none⟩), kI a, kI b] w fun r w' => r = .returned (errv p 4) ∧ Ext No w w' := by
  have hc := d_edge_no h hp hB he
  clear h hp
  go_enter Tryz.func111, Tryz.ntmps111
  go_wp2_with (first | (go_at_call 107; refine hc.mono ?_; rintro r w1 ⟨hr, h1⟩; subst hr; clear hc))
  go_ret
  exact ⟨rfl, h1.alloc _⟩

theorem Turned.chain {H : Hd} {τ : Tr} {σ σ' σ'' : St} {w w' w'' : World} (h : Turned H τ σ σ' w w') (h' : Turned H τ σ' σ'' w' w'') : Turned H τ σ σ'' w w'' :=
  ⟨h'.1, h.2.1.then h'.2.1 (fun c hlt hc => by
      rcases h.2.2 c hc with h1 | h1
      · exact h1
      · omega),
    fun c hc => by
      rcases h'.2.2 c hc with h1 | h1
      · exact h.2.2 c h1
      · exact Or.inr (Nat.le_trans h.2.1.size h1)⟩
end Go.Proofs.YtcenebjdhbdejaaGreatDoor
