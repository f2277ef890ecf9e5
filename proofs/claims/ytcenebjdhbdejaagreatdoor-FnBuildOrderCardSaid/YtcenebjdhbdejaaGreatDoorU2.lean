/- The undirected graph's Edge and addEdge, walked. -/
import Derived.Test.YtcenebjdhbdejaaGreatDoorB2
import Derived.Test.YtcenebjdhbdejaaGreatDoorU1
namespace Go.Proofs.YtcenebjdhbdejaaGreatDoor
open Go.MapKept

theorem set5_ne {w : World} {b c : Nat} {o : Obj} (h : w.heap[c]? = some o) (hne : c ≠ b) (v0 v1 v2 v3 v4 : Value) :
    (((((w.setCell ⟨b, 0, none⟩ v0).setCell ⟨b, 1, none⟩ v1).setCell ⟨b, 2, none⟩ v2).setCell ⟨b, 3, none⟩ v3).setCell ⟨b, 4, none⟩ v4).heap[c]? = some o :=
  ((((((Ext.refl (fun x => x = b) w).setCell ⟨b, 0, none⟩ v0 (fun _ => rfl)).setCell ⟨b, 1, none⟩ v1 (fun _ => rfl)).setCell ⟨b, 2, none⟩ v2 (fun _ => rfl)).setCell ⟨b, 3, none⟩ v3 (fun _ => rfl)).setCell ⟨b, 4, none⟩ v4 (fun _ => rfl)).obj h hne

set_option maxRecDepth 100000 in
set_option maxHeartbeats 800000 in
theorem u_edge_yes {w : World} {H : Hd} {τ : Tr} {σ : St} {e : EdgeR} {p : Nat → Addr} (h : Gr w H τ σ) (hp : Sent w p) {B : Nat} (hB : Below6 B p) (he : e ∈ σ.E) :
    Calls Tryz.prog 132 #[.pointer (some ⟨H.d, 0, none⟩), kI e.src, kI e.dst] w fun r w' => r = .returned (.tuple #[e.val, .nilIface]) ∧ Ext No w w' := by
  have hlt := h.lt
  have d2 := h.d2
  obtain ⟨⟨a1, v1⟩, a2, v2⟩ := h.st.ends e he
  have HG := Lib.hid (And.intro h (And.intro hp hB))
  clear h hp hB
  go_enter Tryz.func132, Tryz.ntmps132
  have hM1 := M145_Edge
  have hM2 := M145_Vertex
  have hN0 := (heap_alloc w (.cells #[.int .i64 0, .int .i64 0, .map none, .int .i64 0, .nilIface] 97)).1
  have HN0 := Lib.hid hN0
  clear hN0
  have E0 : Ext No w (w.alloc (.cells #[.int .i64 0, .int .i64 0, .map none, .int .i64 0, .nilIface] 97)) := (Ext.refl _ _).alloc _
  go_wp2_with fail
  refine (edge_yes (A := H.A) (σ := σ) (HG.out.1.st.ext E0 (fun _ _ h => h)) he).mono ?_
  rintro e1 w1 ⟨rfl, h1⟩
  have HE1 := Lib.hid (E0.trans h1)
  have H01 := Lib.hid h1
  have c4 := (HG.out.2.1.ext HG.out.2.2 HE1.out (fun _ h => h.elim)).c4
  have l4 := World.block_lt_of_cell? _ _ c4
  have HN1 := Lib.hid (heap_alloc w1 (.cells #[.int .i64 e.src, .int .i64 e.dst, .map (some e.att), .int .i64 e.wt, .nilIface] 97)).1
  clear h1
  go_wp2_with fail
  refine (is_nil (p := p) 4).mono ?_
  rintro e4 w4 ⟨rfl, h4⟩
  have E1 : Ext No w1 (w1.alloc (.cells #[.int .i64 e.src, .int .i64 e.dst, .map (some e.att), .int .i64 e.wt, .nilIface] 97)) := (Ext.refl _ _).alloc _
  have H14 := Lib.hid h4
  have HE4 := Lib.hid (HE1.out.trans (E1.trans h4))
  have H04 := Lib.hid (H01.out.trans (E1.trans h4))
  clear d2 hlt c4 l4 h4
  have d2 := (HG.out.1.ext HE4.out (fun _ _ h => h)).d2
  have hlt := World.block_lt_of_cell? _ _ d2
  go_wp2_with fail
  refine (vertex_yes (A := H.A) (σ := σ) (HG.out.1.st.ext (S := No) HE4.out (fun _ _ h => h)) v1).mono ?_
  rintro e2 w2 ⟨rfl, h2⟩
  have d2 := h2.cellv d2 id
  have hlt := World.block_lt_of_cell? _ _ d2
  have HE2 := Lib.hid (HE4.out.trans h2)
  have H02 := Lib.hid (H04.out.trans h2)
  have H12 := Lib.hid (H14.out.trans h2)
  clear h2
  go_wp2_with fail
  refine (vertex_yes (A := H.A) (σ := σ) (HG.out.1.st.ext (S := No) (HE2.out.alloc _) (fun _ _ h => h)) v2).mono ?_
  rintro e3 w3 ⟨rfl, h3⟩
  have HE3 := Lib.hid ((HE2.out.alloc _).trans h3)
  have HY := Lib.hid (((H02.out.alloc _).trans h3).obj HN0.out id)
  obtain ⟨y0, y1, y2, y3, y4, f0, f1, f2, f3, f4⟩ := edge_cells HN0.out (((H02.out.alloc _).trans h3))
  obtain ⟨x0, x1, x2, x3, x4, -⟩ := edge_cells HN1.out (((H12.out.alloc _).trans h3))
  have l0 := World.block_lt_of_cell? _ _ y0
  have l1 := World.block_lt_of_cell? _ _ x0
  clear h3 E0 E1 hlt d2
  go_wp2
  refine bodyPost_ret (results_cell_tmp rfl rfl (alloc_heap (set5 HY.out _ _ _ _ _) _) Tryz.underlying97 rfl sz97 rfl) rfl ⟨rfl, ?_⟩
  exact (HE3.out.set5 (Nat.le_refl _) _ _ _ _ _).alloc _

set_option maxRecDepth 100000 in
set_option maxHeartbeats 800000 in
theorem u_edge_no {w : World} {H : Hd} {τ : Tr} {σ : St} {a b : Int} {p : Nat → Addr} (h : Gr w H τ σ) (hp : Sent w p) {B : Nat} (hB : Below6 B p) (he : ∀ e ∈ σ.E, ¬ (e.src = a ∧ e.dst = b)) (he' : ∀ e ∈ σ.E, ¬ (e.src = b ∧ e.dst = a)) :
    Calls Tryz.prog 132 #[.pointer (some ⟨H.d, 0, none⟩), kI a, kI b] w fun r w' => r = .returned (.tuple #[zero97, errv p 4]) ∧ Ext No w w' := by
  have hlt := h.lt
  have d2 := h.d2
  have HG := Lib.hid (And.intro h (And.intro hp hB))
  clear h hp hB
  go_enter Tryz.func132, Tryz.ntmps132
  have hM1 := M145_Edge
  have hM2 := M145_Vertex
  have hN0 := (heap_alloc w (.cells #[.int .i64 0, .int .i64 0, .map none, .int .i64 0, .nilIface] 97)).1
  have HN0 := Lib.hid hN0
  clear hN0
  have E0 : Ext No w (w.alloc (.cells #[.int .i64 0, .int .i64 0, .map none, .int .i64 0, .nilIface] 97)) := (Ext.refl _ _).alloc _
  go_wp2_with fail
  refine (edge_no (A := H.A) (σ := σ) (HG.out.1.st.ext E0 (fun _ _ h => h)) (HG.out.2.1.ext HG.out.2.2 E0 (fun _ h => h.elim)) he).mono ?_
  rintro e1 w1 ⟨rfl, h1⟩
  have HE1 := Lib.hid (E0.trans h1)
  have H01 := Lib.hid h1
  have c4 := (HG.out.2.1.ext HG.out.2.2 HE1.out (fun _ h => h.elim)).c4
  have l4 := World.block_lt_of_cell? _ _ c4
  have HN1 := Lib.hid (heap_alloc w1 (.cells #[.int .i64 0, .int .i64 0, .map none, .int .i64 0, .nilIface] 97)).1
  clear h1
  have E1 : Ext No w1 (w1.alloc (.cells #[.int .i64 0, .int .i64 0, .map none, .int .i64 0, .nilIface] 97)) := (Ext.refl _ _).alloc _
  go_wp2_with fail
  refine (is_any (HG.out.2.1.ext HG.out.2.2 (HE1.out.trans E1) (fun _ h => h.elim)) (.sent 4) 4 (by decide) (by decide)).mono ?_
  rintro e4 w4 ⟨rfl, h4⟩
  have H14 := Lib.hid h4
  have HE4 := Lib.hid (HE1.out.trans (E1.trans h4))
  have H04 := Lib.hid (H01.out.trans (E1.trans h4))
  clear d2 hlt c4 l4 h4
  have d2 := (HG.out.1.ext HE4.out (fun _ _ h => h)).d2
  have hlt := World.block_lt_of_cell? _ _ d2
  go_wp2_with fail
  refine (edge_no (A := H.A) (σ := σ) (HG.out.1.st.ext HE4.out (fun _ _ h => h)) (HG.out.2.1.ext HG.out.2.2 HE4.out (fun _ h => h.elim)) he').mono ?_
  rintro e2 w2 ⟨rfl, h2⟩
  have HE2 := Lib.hid (HE4.out.trans h2)
  have H02 := Lib.hid (H04.out.trans h2)
  have H12 := Lib.hid (H14.out.trans h2)
  clear d2 hlt
  have hY := H02.out.obj HN0.out id
  have hX := H12.out.obj HN1.out id
  obtain ⟨y0, y1, y2, y3, y4, f0, f1, f2, f3, f4⟩ := edge_cells hY (Ext.refl _ w2)
  obtain ⟨x0, x1, x2, x3, x4, g0, g1, g2, g3, g4⟩ := edge_cells hX (Ext.refl _ w2)
  have l0 := World.block_lt_of_cell? _ _ y0
  have l1 := World.block_lt_of_cell? _ _ x0
  have hne : w.heap.size ≠ w1.heap.size := by have := H01.out.size; simp at this; omega
  have HY := Lib.hid hY
  have HS := Lib.hid (And.intro HE1.out.size hne)
  clear hY hX h2
  go_wp2_with fail
  have hYX := set5_ne HY.out HS.out.2 (.int .i64 0) (.int .i64 0) (.map none) (.int .i64 0) .nilIface
  refine bodyPost_ret (results_cell_tmp rfl rfl (set5 hYX _ _ _ _ _) Tryz.underlying97 rfl sz97 rfl) rfl ⟨rfl, ?_⟩
  exact (HE2.out.set5 HS.out.1 _ _ _ _ _).set5 (Nat.le_refl _) _ _ _ _ _

end Go.Proofs.YtcenebjdhbdejaaGreatDoor
