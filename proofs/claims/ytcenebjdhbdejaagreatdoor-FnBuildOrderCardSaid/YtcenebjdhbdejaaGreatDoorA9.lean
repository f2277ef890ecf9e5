/- The options of an edge and of a vertex, zzWrap, the directed graph's addEdge: walked. -/
import Derived.Test.YtcenebjdhbdejaaGreatDoorA8
import Derived.Test.YtcenebjdhbdejaaGreatDoorE1
namespace Go.Proofs.YtcenebjdhbdejaaGreatDoor
open Go.MapKept

set_option maxRecDepth 100000 in
theorem wrap_any (t : TypeId) (v : Value) (w : World) : Calls Tryz.prog 118 #[.iface t v] w fun r w' => r = .returned (.iface 226 (.agg #[.iface t v])) ∧ w' = w := by
  go_enter Tryz.func118, Tryz.ntmps118
  go_wp2
  go_ret
  exact ⟨rfl, rfl⟩

/-- an edge of the call's own, that an option turns -/
abbrev ownE (s t : Int) (m : Nat) (wt : Int) : Obj := .cells #[kI s, kI t, .map (some m), .int .i64 wt, .nilIface] 97 (0, 0)

theorem set_own {w : World} {b : Nat} {s t : Int} {m : Nat} {wt : Int} (h : w.heap[b]? = some (ownE s t m wt)) (wt' : Int) : (w.setCell ⟨b, 3, none⟩ (.int .i64 wt')).heap[b]? = some (ownE s t m wt') := set_heap h _
theorem set_own' {w : World} {b : Nat} {s t : Int} {m : Nat} {wt : Int} (h : w.heap[b]? = some (ownE s t m wt)) : (w.setCell ⟨b, 4, none⟩ .nilIface).heap[b]? = some (ownE s t m wt) := set_heap h _

set_option maxRecDepth 100000 in
theorem weight_run {w : World} {b a : Nat} {s t : Int} {m : Nat} {wt wt' : Int} (h : w.heap[b]? = some (ownE s t m wt)) (hc : w.cell? ⟨a, 0, none⟩ = some (.int .i64 wt')) :
    Calls Tryz.prog 47 #[.pointer (some ⟨b, 2, none⟩), .pointer (some ⟨a, 0, none⟩)] w fun r w' => r = .returned (.tuple #[]) ∧ w'.heap[b]? = some (ownE s t m wt') ∧ Ext (fun c => c = b) w w' := by
  have x3 : w.cell? ⟨b, 3, none⟩ = some (.int .i64 wt) := by simp [World.cell?, h]
  have f3 : w.frozen? ⟨b, 3, none⟩ = false := by simp [World.frozen?, h]
  have l0 := World.block_lt_of_cell? _ _ x3
  have l1 := World.block_lt_of_cell? _ _ hc
  have H := Lib.hid h
  clear h
  go_enter Tryz.func47, Tryz.ntmps47
  go_wp2
  go_end0
  exact ⟨rfl, set_own H.out _, (Ext.refl _ _).setCell _ _ (fun _ => rfl)⟩

theorem U93 : Tryz.prog.underlying 93 = some (.map 9 9) := by kernel_rfl

set_option maxRecDepth 100000 in
set_option maxHeartbeats 400000 in
theorem copy_run {w : World} {b a : Nat} {s t s' t' : Int} {m m' : Nat} {wt wt' : Int} (h : w.heap[b]? = some (ownE s t m wt)) (ha : w.heap[a]? = some (ownE s' t' m' wt')) (hm : w.heap[m']? = some (.map #[] 0)) (_hab : a ≠ b) :
    Calls Tryz.prog 124 #[.pointer (some ⟨b, 2, none⟩), .pointer (some ⟨a, 0, none⟩)] w fun r w' => r = .returned (.tuple #[]) ∧ w'.heap[b]? = some (ownE s t m wt') ∧ Ext (fun c => c = b) w w' := by
  obtain ⟨a0, a1, a2, a3, a4, -⟩ := edge_cells ha (Ext.refl _ w)
  have l1 := World.block_lt_of_cell? _ _ a0
  have H := Lib.hid (And.intro h (And.intro ha hm))
  have hm1 : MapI kI w m' [] := MapI.empty hm
  clear h ha hm a0 a1
  go_enter Tryz.func124, Tryz.ntmps124
  go_wp2_with (first | (at_range; (refine wpL_range rfl rfl U93 rfl hm1 ?_); intro w2 hI2 hs2 he2))
  have e2 : Ext No w w2 := he2
  obtain ⟨b0, b1, b2, b3, b4, f0, f1, f2, f3, f4⟩ := edge_cells H.out.1 e2
  obtain ⟨a0, a1, a2, a3, a4, -⟩ := edge_cells H.out.2.1 e2
  have l1 := World.block_lt_of_cell? _ _ a0
  have l2 := World.block_lt_of_cell? _ _ b0
  have HE := Lib.hid e2
  clear hs2 he2 e2 a0 a1 b0 b1
  refine wp_loop_rounds 1 ?_
  rw [rounds_succ]
  go_wp2_with (first | (at_next; (refine wpL_nextM (γ := Int × Value) (g := id) (left := []) rfl rfl rfl hI2 ?_ ?_); intro h0; rotate_left; (intro l1 o l2 wn h1; simp at h1)))
  go_end0
  refine ⟨rfl, set_own' (set_own (HE.out.obj H.out.1 id) _), ((HE.out.no (S := fun c => c = b)).setCell _ _ (fun _ => rfl)).setCell _ _ (fun _ => rfl)⟩

/-- An option that sets an edge's weight: EdgeWeight's, or copyEdge's (which copies no attributes, there being none). -/
inductive Opt (w : World) (wt : Int) : Value → Prop
  | weight (a : Nat) : w.cell? ⟨a, 0, none⟩ = some (.int .i64 wt) → Opt w wt (.func (.func 47) #[] #[.pointer (some ⟨a, 0, none⟩)])
  | copy (a : Nat) (s t : Int) (m : Nat) : w.heap[a]? = some (ownE s t m wt) → w.heap[m]? = some (.map #[] 0) → Opt w wt (.func (.func 124) #[] #[.pointer (some ⟨a, 0, none⟩)])

set_option maxRecDepth 100000 in
set_option maxHeartbeats 400000 in
theorem d_addEdgeIn {w : World} {H : Hd} {τ : Tr} {σ : St} {e : EdgeR} (h : Gr w H τ σ) (hs : ∃ n, (e.src, n) ∈ σ.V) (hd : ∃ n, (e.dst, n) ∈ σ.V)
    (hne : ∀ e' ∈ σ.E, ¬ (e'.src = e.src ∧ e'.dst = e.dst)) (hat : w.heap[e.att]? = some (.map #[] 0)) (ha : e.att ∉ σ.blocks H.A) :
    Calls Tryz.prog 120 #[.pointer (some ⟨H.d, 0, none⟩), kI e.src, kI e.dst, e.val] w fun r w' => r = .returned .nilIface ∧ AddedE H.A σ e w w' := by
  have hlt := h.lt
  have d2 := h.d2
  have HG := Lib.hid (And.intro h (And.intro hs (And.intro hd (And.intro hne (And.intro hat ha)))))
  clear h hs hd hne hat ha
  go_enter Tryz.func120, Tryz.ntmps120
  go_wp2
  have q0 : (w.alloc (.cells #[kI e.src, kI e.dst, .map (some e.att), .int .i64 e.wt, .nilIface] 97)).cell? ⟨H.d, 2, none⟩ = some (storeV H.A) := ((Ext.refl No w).alloc _).cellv d2 id
  have r0 := (heap_alloc w (.cells #[kI e.src, kI e.dst, .map (some e.att), .int .i64 e.wt, .nilIface] 97)).1
  have e1 : Ext No w (w.alloc (.cells #[kI e.src, kI e.dst, .map (some e.att), .int .i64 e.wt, .nilIface] 97)) := (Ext.refl No w).alloc _
  revert q0 r0 e1
  generalize w.alloc (.cells #[kI e.src, kI e.dst, .map (some e.att), .int .i64 e.wt, .nilIface] 97) = W
  intro q0 r0 e1
  obtain ⟨b0, b1, b2, b3, b4, -⟩ := edge_cells r0 (Ext.refl _ W)
  have hM := M145_AddEdge
  have HE := Lib.hid e1
  clear r0 e1
  go_still_tail 7, (by kernel_rfl)
  obtain ⟨h, hs, hd, hne, hat, ha⟩ := HG.out
  have HC := Lib.hid (store_addEdge (h.st.ext HE.out.drew (fun _ _ => id)) hs hd hne (HE.out.drew.obj hat id) ha)
  clear h hs hd hne hat ha
  go_wp2_with (go_at_call 144; refine HC.out.mono ?_; rintro e w' ⟨rfl, h1⟩)
  go_ret
  obtain ⟨O', I', g1, g2, g3⟩ := h1
  exact ⟨rfl, O', I', g1, HE.out.drew.no.trans g2, fun c hc => (g3 c hc).imp id (fun h => Nat.le_trans HE.out.size h)⟩
end Go.Proofs.YtcenebjdhbdejaaGreatDoor
