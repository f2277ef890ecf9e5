/- The undirected graph's addEdge, AddEdge, walked. -/
import Derived.Test.YtcenebjdhbdejaaGreatDoorU2
namespace Go.Proofs.YtcenebjdhbdejaaGreatDoor
open Go.MapKept

/-- the same edge, from its other end -/
abbrev EdgeR.rev (e : EdgeR) : EdgeR := ⟨e.dst, e.src, e.wt, e.att⟩

/-- What AddEdge leaves of an undirected graph. -/
def AddedE2 (A : Ad) (σ : St) (e : EdgeR) (w w' : World) : Prop :=
  ∃ O' I', Store w' A { V := σ.V, E := σ.E ++ [e, e.rev], O := O', I := I' } ∧ Ext (· ∈ σ.blocks A) w w' ∧
    ∀ c, c ∈ ({ V := σ.V, E := σ.E ++ [e, e.rev], O := O', I := I' } : St).blocks A → c ∈ σ.blocks A ∨ w.heap.size ≤ c

theorem AddedE2.of {A : Ad} {σ σ1 : St} {e : EdgeR} {w0 w w1 w1' w2 : World} (he0 : Ext No w0 w) (hs1 : σ1.V = σ.V) (hE1 : σ1.E = σ.E ++ [e]) (h2 : Ext (· ∈ σ.blocks A) w w1)
    (h3 : ∀ c, c ∈ σ1.blocks A → c ∈ σ.blocks A ∨ w.heap.size ≤ c) (he : Ext No w1 w1') (hb : AddedE A σ1 e.rev w1' w2) (_hblk : ∀ c ∈ σ.blocks A, c < w0.heap.size) : AddedE2 A σ e w0 w2 := by
  obtain ⟨O2, I2, k1, k2, k3⟩ := hb
  rw [hs1, hE1] at k1 k3
  simp only [List.append_assoc, List.singleton_append] at k1 k3
  have hsz := he0.size
  refine ⟨O2, I2, k1, he0.no.trans ((h2.trans he.no).then k2 (fun c hc hm => ?_)), fun c hc => ?_⟩
  · rcases h3 c hm with h | h
    · exact h
    · omega
  · rcases k3 c hc with h | h
    · rcases h3 c h with h | h
      · exact Or.inl h
      · exact Or.inr (by omega)
    · have h4 := h2.size; have h5 := he.size; exact Or.inr (by omega)

set_option maxRecDepth 100000 in
set_option maxHeartbeats 1000000 in
theorem u_addEdgeIn {w : World} {H : Hd} {τ : Tr} {σ : St} {e : EdgeR} (h : Gr w H τ σ) (hs : ∃ n, (e.src, n) ∈ σ.V) (hd : ∃ n, (e.dst, n) ∈ σ.V) (hab : e.src ≠ e.dst)
    (hne : ∀ e' ∈ σ.E, ¬ (e'.src = e.src ∧ e'.dst = e.dst)) (hne' : ∀ e' ∈ σ.E, ¬ (e'.src = e.dst ∧ e'.dst = e.src)) (hat : w.heap[e.att]? = some (.map #[] 0)) (ha : e.att ∉ σ.blocks H.A) :
    Calls Tryz.prog 143 #[.pointer (some ⟨H.d, 0, none⟩), kI e.src, kI e.dst, e.val] w fun r w' => r = .returned .nilIface ∧ AddedE2 H.A σ e w w' := by
  have hlt := h.lt
  have d2 := h.d2
  have HG := Lib.hid (And.intro h (And.intro hs (And.intro hd (And.intro hne (And.intro hat (And.intro ha (And.intro hab hne')))))))
  clear h hs hd hne hat ha hab hne'
  have hM := M145_AddEdge
  go_enter Tryz.func143, Tryz.ntmps143
  go_wp2
  have q0 : (w.alloc (.cells #[kI e.src, kI e.dst, .map (some e.att), .int .i64 e.wt, .nilIface] 97)).cell? ⟨H.d, 2, none⟩ = some (storeV H.A) := ((Ext.refl No w).alloc _).cellv d2 id
  have r0 := (heap_alloc w (.cells #[kI e.src, kI e.dst, .map (some e.att), .int .i64 e.wt, .nilIface] 97)).1
  have e1 : Ext No w (w.alloc (.cells #[kI e.src, kI e.dst, .map (some e.att), .int .i64 e.wt, .nilIface] 97)) := (Ext.refl No w).alloc _
  revert q0 r0 e1
  generalize w.alloc (.cells #[kI e.src, kI e.dst, .map (some e.att), .int .i64 e.wt, .nilIface] 97) = W
  intro q0 r0 e1
  obtain ⟨b0, b1, b2, b3, b4, -⟩ := edge_cells r0 (Ext.refl _ W)
  have HE := Lib.hid (And.intro e1 r0)
  clear r0 e1
  go_still_tail 7, (by kernel_rfl)
  obtain ⟨h, hs, hd, hne, hat, ha, hab, hne'⟩ := HG.out
  have HC := Lib.hid (store_addEdge (h.st.ext HE.out.1.drew (fun _ _ => id)) hs hd hne (HE.out.1.drew.obj hat id) ha)
  clear h hs hd hne hat ha hab hne'
  go_wp2_with fail
  refine HC.out.mono ?_
  rintro r w1 ⟨rfl, O1, I1, g1, g2, g3⟩
  have hbox : w.heap.size ∉ σ.blocks H.A := fun hm => by have := HG.out.1.st.blocks_lt _ hm; omega
  have hdb : H.d ∉ σ.blocks H.A := fun hm => HG.out.1.nd (Or.inl hm)
  have r1 := g2.obj (HE.out.1.drew.obj (w := w) (w' := W.drew) HG.out.1.row id) hdb
  obtain ⟨x0, x1, x2, x3, x4, -⟩ := edge_cells (g2.obj (show W.drew.heap[w.heap.size]? = _ from HE.out.2) hbox) (Ext.refl _ w1)
  have l1 := World.block_lt_of_cell? _ _ x0
  have HG1 := Lib.hid (And.intro g1 (And.intro g2 (And.intro g3 r1)))
  clear hbox hdb r1 g1 g2 g3 b0 b1 b2 b3 b4 q0
  go_wp2
  have q0 : (w1.alloc (.cells #[kI e.dst, kI e.src, .map (some e.att), .int .i64 e.wt, .nilIface] 97)).cell? ⟨H.d, 2, none⟩ = some (storeV H.A) := by
    have := alloc_heap HG1.out.2.2.2 (.cells #[kI e.dst, kI e.src, .map (some e.att), .int .i64 e.wt, .nilIface] 97)
    simp [World.cell?, this]
  have r0 := (heap_alloc w1 (.cells #[kI e.dst, kI e.src, .map (some e.att), .int .i64 e.wt, .nilIface] 97)).1
  have e2 : Ext No w1 (w1.alloc (.cells #[kI e.dst, kI e.src, .map (some e.att), .int .i64 e.wt, .nilIface] 97)) := (Ext.refl No w1).alloc _
  revert q0 r0 e2
  generalize w1.alloc (.cells #[kI e.dst, kI e.src, .map (some e.att), .int .i64 e.wt, .nilIface] 97) = W2
  intro q0 r0 e2
  obtain ⟨b0, b1, b2, b3, b4, -⟩ := edge_cells r0 (Ext.refl _ W2)
  have lb := World.block_lt_of_cell? _ _ q0
  have HE2 := Lib.hid (And.intro e2 r0)
  clear r0 e2
  go_still_tail 7, (by kernel_rfl)
  have HC2 : RowKit.Hid (Calls Tryz.prog 144 #[.pointer (some ⟨H.A.s, 0, none⟩), kI e.dst, kI e.src, e.rev.val] W2.drew fun r w' => r = .returned .nilIface ∧ AddedE H.A { V := σ.V, E := σ.E ++ [e], O := O1, I := I1 } e.rev W2.drew w') := by
    obtain ⟨h, hs, hd, hne, hat, ha, hab, hne'⟩ := HG.out
    obtain ⟨g1, g2, g3, -⟩ := HG1.out
    refine Lib.hid (store_addEdge (g1.ext HE2.out.1.drew (fun _ _ => id)) hd hs ?_ (HE2.out.1.drew.obj (g2.obj (HE.out.1.drew.obj hat id) ha) id) ?_)
    · intro e' he' hh
      rcases List.mem_append.1 he' with he' | he'
      · exact hne' e' he' hh
      · simp only [List.mem_singleton] at he'
        subst he'
        exact hab hh.1
    · intro hm
      rcases g3 _ hm with hm | hm
      · exact ha hm
      · have h1 := (Array.getElem?_eq_some_iff.1 hat).1
        have h2 := HE.out.1.drew.size
        exact absurd (Nat.lt_of_lt_of_le h1 (Nat.le_trans h2 hm)) (Nat.lt_irrefl _)
  go_wp2_with (go_at_call 144; (refine HC2.out.mono ?_); rintro r w2 ⟨rfl, h2⟩)
  go_ret
  obtain ⟨g1, g2, g3, -⟩ := HG1.out
  exact ⟨rfl, AddedE2.of (σ1 := { V := σ.V, E := σ.E ++ [e], O := O1, I := I1 }) HE.out.1.drew rfl rfl g2 g3 HE2.out.1.drew h2 HG.out.1.st.blocks_lt⟩
end Go.Proofs.YtcenebjdhbdejaaGreatDoor
