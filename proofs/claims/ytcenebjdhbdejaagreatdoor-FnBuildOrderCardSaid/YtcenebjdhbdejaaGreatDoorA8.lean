/- The directed graph's Edge, walked. -/
import Derived.Test.YtcenebjdhbdejaaGreatDoorA7
namespace Go.Proofs.YtcenebjdhbdejaaGreatDoor
open Go.MapKept

theorem sz97 : (Tryz.prog.info? 97).map (·.size) = some 5 := by kernel_rfl

/-- the cells of an edge of the call's own, in a later world -/
theorem edge_cells {w0 w1 : World} {b : Nat} {c0 c1 c2 c3 c4 : Value} {T : TypeId} (hb : w0.heap[b]? = some (.cells #[c0, c1, c2, c3, c4] T (0, 0))) (he : Ext No w0 w1) :
    w1.cell? ⟨b, 0, none⟩ = some c0 ∧ w1.cell? ⟨b, 1, none⟩ = some c1 ∧ w1.cell? ⟨b, 2, none⟩ = some c2 ∧ w1.cell? ⟨b, 3, none⟩ = some c3 ∧ w1.cell? ⟨b, 4, none⟩ = some c4 ∧
    w1.frozen? ⟨b, 0, none⟩ = false ∧ w1.frozen? ⟨b, 1, none⟩ = false ∧ w1.frozen? ⟨b, 2, none⟩ = false ∧ w1.frozen? ⟨b, 3, none⟩ = false ∧ w1.frozen? ⟨b, 4, none⟩ = false := by
  have h := he.obj hb id
  simp [World.cell?, World.frozen?, h]

set_option maxRecDepth 100000 in
set_option maxHeartbeats 800000 in
theorem d_edge_yes {w : World} {H : Hd} {τ : Tr} {σ : St} {e : EdgeR} (h : Gr w H τ σ) (he : e ∈ σ.E) :
    Calls Tryz.prog 107 #[.pointer (some ⟨H.d, 0, none⟩), kI e.src, kI e.dst] w fun r w' => r = .returned (.tuple #[e.val, .nilIface]) ∧ Ext No w w' := by
  have hlt := h.lt
  have d2 := h.d2
  obtain ⟨⟨a1, v1⟩, a2, v2⟩ := h.st.ends e he
  have HG := Lib.hid h
  clear h
  go_enter Tryz.func107, Tryz.ntmps107
  have hM1 := M145_Edge
  have hM2 := M145_Vertex
  have hN0 := (heap_alloc w (.cells #[.int .i64 0, .int .i64 0, .map none, .int .i64 0, .nilIface] 97)).1
  have HN0 := Lib.hid hN0
  clear hN0
  have E0 : Ext No w (w.alloc (.cells #[.int .i64 0, .int .i64 0, .map none, .int .i64 0, .nilIface] 97)) := (Ext.refl _ _).alloc _
  go_wp2_with fail
  refine (edge_yes (A := H.A) (σ := σ) (HG.out.st.ext E0 (fun _ _ h => h)) he).mono ?_
  rintro e1 w1 ⟨rfl, h1⟩
  have d2 := (E0.trans h1).cellv d2 id
  have hlt := World.block_lt_of_cell? _ _ d2
  have HE1 := Lib.hid (E0.trans h1)
  have H01 := Lib.hid h1
  have E1 : Ext No w1 (w1.alloc (.cells #[.int .i64 e.src, .int .i64 e.dst, .map (some e.att), .int .i64 e.wt, .nilIface] 97)) := (Ext.refl _ _).alloc _
  have HN1 := Lib.hid (heap_alloc w1 (.cells #[.int .i64 e.src, .int .i64 e.dst, .map (some e.att), .int .i64 e.wt, .nilIface] 97)).1
  clear h1
  go_wp2_with fail
  refine (vertex_yes (A := H.A) (σ := σ) (HG.out.st.ext (S := No) (HE1.out.trans E1) (fun _ _ h => h)) v1).mono ?_
  rintro e2 w2 ⟨rfl, h2⟩
  have d2 := (E1.trans h2).cellv d2 id
  have hlt := World.block_lt_of_cell? _ _ d2
  have HE2 := Lib.hid (HE1.out.trans (E1.trans h2))
  have H02 := Lib.hid (H01.out.trans (E1.trans h2))
  have H12 := Lib.hid h2
  clear h2
  go_wp2_with fail
  refine (vertex_yes (A := H.A) (σ := σ) (HG.out.st.ext (S := No) (HE2.out.alloc _) (fun _ _ h => h)) v2).mono ?_
  rintro e3 w3 ⟨rfl, h3⟩
  have HE3 := Lib.hid ((HE2.out.alloc _).trans h3)
  have HY := Lib.hid (((H02.out.alloc _).trans h3).obj HN0.out id)
  obtain ⟨y0, y1, y2, y3, y4, f0, f1, f2, f3, f4⟩ := edge_cells HN0.out (((H02.out.alloc _).trans h3))
  obtain ⟨x0, x1, x2, x3, x4, -⟩ := edge_cells HN1.out (((H12.out.alloc _).trans h3))
  have l0 := World.block_lt_of_cell? _ _ y0
  have l1 := World.block_lt_of_cell? _ _ x0
  clear h3 E0 E1 hlt d2
  go_wp2
  refine bodyPost_ret (results_cell_tmp rfl rfl (alloc_heap (set5 HY.out _ _ _ _ _) _) Tryz.underlying97 rfl sz97 rfl) rfl ⟨rfl, ?_⟩
  exact (HE3.out.set5 (Nat.le_refl _) _ _ _ _ _).alloc _

set_option maxRecDepth 100000 in
set_option maxHeartbeats 800000 in
theorem d_edge_no {w : World} {H : Hd} {τ : Tr} {σ : St} {a b : Int} {p : Nat → Addr} (h : Gr w H τ σ) (hp : Sent w p) {B : Nat} (hB : Below6 B p) (he : ∀ e ∈ σ.E, ¬ (e.src = a ∧ e.dst = b)) :
    Calls Tryz.prog 107 #[.pointer (some ⟨H.d, 0, none⟩), kI a, kI b] w fun r w' => r = .returned (.tuple #[zero97, errv p 4]) ∧ Ext No w w' := by
  have hlt := h.lt
  have d2 := h.d2
  have HG := Lib.hid (And.intro h hp)
  clear h hp
  go_enter Tryz.func107, Tryz.ntmps107
  have hM1 := M145_Edge
  have hM2 := M145_Vertex
  have hN0 := (heap_alloc w (.cells #[.int .i64 0, .int .i64 0, .map none, .int .i64 0, .nilIface] 97)).1
  have HN0 := Lib.hid hN0
  clear hN0
  have E0 : Ext No w (w.alloc (.cells #[.int .i64 0, .int .i64 0, .map none, .int .i64 0, .nilIface] 97)) := (Ext.refl _ _).alloc _
  go_wp2_with fail
  refine (edge_no (A := H.A) (σ := σ) (HG.out.1.st.ext E0 (fun _ _ h => h)) (HG.out.2.ext hB E0 (fun _ h => h.elim)) he).mono ?_
  rintro e1 w1 ⟨rfl, h1⟩
  have HE1 := Lib.hid (E0.trans h1)
  have HY := Lib.hid (h1.obj HN0.out id)
  obtain ⟨y0, y1, y2, y3, y4, f0, f1, f2, f3, f4⟩ := edge_cells HN0.out h1
  have l0 := World.block_lt_of_cell? _ _ y0
  clear h1 E0 hlt d2
  go_wp2_with fail
  refine bodyPost_ret (results_cell_tmp rfl rfl (alloc_heap (set5 HY.out _ _ _ _ _) _) Tryz.underlying97 rfl sz97 rfl) rfl ⟨rfl, ?_⟩
  exact (HE1.out.set5 (Nat.le_refl _) _ _ _ _ _).alloc _
end Go.Proofs.YtcenebjdhbdejaaGreatDoor
