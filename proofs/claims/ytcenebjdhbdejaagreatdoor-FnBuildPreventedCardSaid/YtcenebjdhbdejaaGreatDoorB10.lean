/- The undirected graph's Edge and addEdge, walked. The undirected graph's addEdge, AddEdge, walked. The undirected graph's AddEdge, walked. -/
import Derived.Test.YtcenebjdhbdejaaGreatDoorB07
import Derived.Test.YtcenebjdhbdejaaGreatDoorB09
namespace Go.Proofs.YtcenebjdhbdejaaGreatDoor
open Go.MapKept

theorem set5_ne {w : World} {b c : Nat} {o : Obj} (h : w.heap[c]? = some o) (hne : c ≠ b) (v0 v1 v2 v3 v4 : Value) :
    (((((w.setCell ⟨b, 0, none⟩ v0).setCell ⟨b, 1, none⟩ v1).setCell ⟨b, 2, none⟩ v2).setCell ⟨b, 3, none⟩ v3).setCell ⟨b, 4, none⟩ v4).heap[c]? = some o :=
  ((((((Ext.refl (fun x => x = b) w).setCell ⟨b, 0, none⟩ v0 (fun _ => rfl)).setCell ⟨b, 1, none⟩ v1 (fun _ => rfl)).setCell ⟨b, 2, none⟩ v2 (fun _ => rfl)).setCell ⟨b, 3, none⟩ v3 (fun _ => rfl)).setCell ⟨b, 4, none⟩ v4 (fun _ => rfl)).obj h hne

set_option maxRecDepth 100000 in
set_option maxHeartbeats 800000 in
theorem u_edge_yes {w : World} {H : Hd} {τ : Tr} {σ : St} {e : EdgeR} {p : Nat → Addr} (h : Gr w H τ σ) (hp : Sent w p) {B : Nat} (hB : Below6 B p) (he : e ∈ σ.E) :
    Calls Tryz.prog 132 #[.pointer (some ⟨H.d, 0, none⟩), kI e.src, kI e.dst] w fun r w' => r = .returned (.tuple #[e.val, .nilIface]) ∧ Ext No w w' := by
  have hlt := h.lt
  have d2 := h.d2
  obtain ⟨⟨a1, v1⟩, a2, v2⟩ := h.st.ends e he
  have HG := Lib.hid (And.intro h (And.intro hp hB))
  clear h hp hB
  go_enter Tryz.func132, Tryz.ntmps132
  have hM1 := M145_Edge
  have hM2 := M145_Vertex
  have hN0 := (heap_alloc w (.cells #[.int .i64 0, .int .i64 0, .map none, .int .i64 0, .nilIface] 97)).1
  have HN0 := Lib.hid hN0
  clear hN0
  have E0 : Ext No w (w.alloc (.cells #[.int .i64 0, .int .i64 0, .map none, .int .i64 0, .nilIface] 97)) := (Ext.refl _ _).alloc _
  go_wp2_with fail
  refine (edge_yes (A := H.A) (σ := σ) (HG.out.1.st.ext E0 (fun _ _ h => h)) he).mono ?_
  rintro e1 w1 ⟨rfl, h1⟩
  have HE1 := Lib.hid (E0.trans h1)
  have H01 := Lib.hid h1
  have c4 := (HG.out.2.1.ext HG.out.2.2 HE1.out (fun _ h => h.elim)).c4
  have l4 := World.block_lt_of_cell? _ _ c4
  have HN1 := Lib.hid (heap_alloc w1 (.cells #[.int .i64 e.src, .int .i64 e.dst, .map (some e.att), .int .i64 e.wt, .nilIface] 97)).1
  clear h1
  go_wp2_with fail
  refine (is_nil (p := p) 4).mono ?_
  rintro e4 w4 ⟨rfl, h4⟩
  have E1 : Ext No w1 (w1.alloc (.cells #[.int .i64 e.src, .int .i64 e.dst, .map (some e.att), .int .i64 e.wt, .nilIface] 97)) := (Ext.refl _ _).alloc _
  have H14 := Lib.hid h4
  have HE4 := Lib.hid (HE1.out.trans (E1.trans h4))
  have H04 := Lib.hid (H01.out.trans (E1.trans h4))
  clear d2 hlt c4 l4 h4
  have d2 := (HG.out.1.ext HE4.out (fun _ _ h => h)).d2
  have hlt := World.block_lt_of_cell? _ _ d2
  go_wp2_with fail
  refine (vertex_yes (A := H.A) (σ := σ) (HG.out.1.st.ext (S := No) HE4.out (fun _ _ h => h)) v1).mono ?_
  rintro e2 w2 ⟨rfl, h2⟩
  have d2 := h2.cellv d2 id
  have hlt := World.block_lt_of_cell? _ _ d2
  have HE2 := Lib.hid (HE4.out.trans h2)
  have H02 := Lib.hid (H04.out.trans h2)
  have H12 := Lib.hid (H14.out.trans h2)
  clear h2
  go_wp2_with fail
  refine (vertex_yes (A := H.A) (σ := σ) (HG.out.1.st.ext (S := No) (HE2.out.alloc _) (fun _ _ h => h)) v2).mono ?_
  rintro e3 w3 ⟨rfl, h3⟩
  have HE3 := Lib.hid ((HE2.out.alloc _).trans h3)
  have HY := Lib.hid (((H02.out.alloc _).trans h3).obj HN0.out id)
  obtain ⟨y0, y1, y2, y3, y4, f0, f1, f2, f3, f4⟩ := edge_cells HN0.out (((H02.out.alloc _).trans h3))
  obtain ⟨x0, x1, x2, x3, x4, -⟩ := edge_cells HN1.out (((H12.out.alloc _).trans h3))
  have l0 := World.block_lt_of_cell? _ _ y0
  have l1 := World.block_lt_of_cell? _ _ x0
  clear h3 E0 E1 hlt d2
  go_wp2
  refine bodyPost_ret (results_cell_tmp rfl rfl (alloc_heap (set5 HY.out _ _ _ _ _) _) Tryz.underlying97 rfl sz97 rfl) rfl ⟨rfl, ?_⟩
  exact (HE3.out.set5 (Nat.le_refl _) _ _ _ _ _).alloc _

set_option maxRecDepth 100000 in
set_option maxHeartbeats 800000 in
theorem u_edge_no {w : World} {H : Hd} {τ : Tr} {σ : St} {a b : Int} {p : Nat → Addr} (h : Gr w H τ σ) (hp : Sent w p) {B : Nat} (hB : Below6 B p) (he : ∀ e ∈ σ.E, ¬ (e.src = a ∧ e.dst = b)) (he' : ∀ e ∈ σ.E, ¬ (e.src = b ∧ e.dst = a)) :
    Calls Tryz.prog 132 #[.pointer (some ⟨H.d, 0, none⟩), kI a, kI b] w fun r w' => r = .returned (.tuple #[zero97, errv p 4]) ∧ Ext No w w' := by
  have hlt := h.lt
  have d2 := h.d2
  have HG := Lib.hid (And.intro h (And.intro hp hB))
  clear h hp hB
  go_enter Tryz.func132, Tryz.ntmps132
  have hM1 := M145_Edge
  have hM2 := M145_Vertex
  have hN0 := (heap_alloc w (.cells #[.int .i64 0, .int .i64 0, .map none, .int .i64 0, .nilIface] 97)).1
  have HN0 := Lib.hid hN0
  clear hN0
  have E0 : Ext No w (w.alloc (.cells #[.int .i64 0, .int .i64 0, .map none, .int .i64 0, .nilIface] 97)) := (Ext.refl _ _).alloc _
  go_wp2_with fail
  refine (edge_no (A := H.A) (σ := σ) (HG.out.1.st.ext E0 (fun _ _ h => h)) (HG.out.2.1.ext HG.out.2.2 E0 (fun _ h => h.elim)) he).mono ?_
  rintro e1 w1 ⟨rfl, h1⟩
  have HE1 := Lib.hid (E0.trans h1)
  have H01 := Lib.hid h1
  have c4 := (HG.out.2.1.ext HG.out.2.2 HE1.out (fun _ h => h.elim)).c4
  have l4 := World.block_lt_of_cell? _ _ c4
  have HN1 := Lib.hid (heap_alloc w1 (.cells #[.int .i64 0, .int .i64 0, .map none, .int .i64 0, .nilIface] 97)).1
  clear h1
  have E1 : Ext No w1 (w1.alloc (.cells #[.int .i64 0, .int .i64 0, .map none, .int .i64 0, .nilIface] 97)) := (Ext.refl _ _).alloc _
  go_wp2_with fail
  refine (is_any (HG.out.2.1.ext HG.out.2.2 (HE1.out.trans E1) (fun _ h => h.elim)) (.sent 4) 4 (by decide) (by decide)).mono ?_
  rintro e4 w4 ⟨rfl, h4⟩
  have H14 := Lib.hid h4
  have HE4 := Lib.hid (HE1.out.trans (E1.trans h4))
  have H04 := Lib.hid (H01.out.trans (E1.trans h4))
  clear d2 hlt c4 l4 h4
  have d2 := (HG.out.1.ext HE4.out (fun _ _ h => h)).d2
  have hlt := World.block_lt_of_cell? _ _ d2
  go_wp2_with fail
  refine (edge_no (A := H.A) (σ := σ) (HG.out.1.st.ext HE4.out (fun _ _ h => h)) (HG.out.2.1.ext HG.out.2.2 HE4.out (fun _ h => h.elim)) he').mono ?_
  rintro e2 w2 ⟨rfl, h2⟩
  have HE2 := Lib.hid (HE4.out.trans h2)
  have H02 := Lib.hid (H04.out.trans h2)
  have H12 := Lib.hid (H14.out.trans h2)
  clear d2 hlt
  have hY := H02.out.obj HN0.out id
  have hX := H12.out.obj HN1.out id
  obtain ⟨y0, y1, y2, y3, y4, f0, f1, f2, f3, f4⟩ := edge_cells hY (Ext.refl _ w2)
  obtain ⟨x0, x1, x2, x3, x4, g0, g1, g2, g3, g4⟩ := edge_cells hX (Ext.refl _ w2)
  have l0 := World.block_lt_of_cell? _ _ y0
  have l1 := World.block_lt_of_cell? _ _ x0
  have hne : w.heap.size ≠ w1.heap.size := by have := H01.out.size; simp at this; omega
  have HY := Lib.hid hY
  have HS := Lib.hid (And.intro HE1.out.size hne)
  clear hY hX h2
  go_wp2_with fail
  have hYX := set5_ne HY.out HS.out.2 (.int .i64 0) (.int .i64 0) (.map none) (.int .i64 0) .nilIface
  refine bodyPost_ret (results_cell_tmp rfl rfl (set5 hYX _ _ _ _ _) Tryz.underlying97 rfl sz97 rfl) rfl ⟨rfl, ?_⟩
  exact (HE2.out.set5 HS.out.1 _ _ _ _ _).set5 (Nat.le_refl _) _ _ _ _ _

end Go.Proofs.YtcenebjdhbdejaaGreatDoor

namespace Go.Proofs.YtcenebjdhbdejaaGreatDoor
open Go.MapKept

/-- the same edge, from its other end -/
abbrev EdgeR.rev (e : EdgeR) : EdgeR := ⟨e.dst, e.src, e.wt, e.att⟩

/-- What AddEdge leaves of an undirected graph. -/
def AddedE2 (A : Ad) (σ : St) (e : EdgeR) (w w' : World) : Prop :=
  ∃ O' I', Store w' A { V := σ.V, E := σ.E ++ [e, e.rev], O := O', I := I' } ∧ Ext (· ∈ σ.blocks A) w w' ∧
    ∀ c, c ∈ ({ V := σ.V, E := σ.E ++ [e, e.rev], O := O', I := I' } : St).blocks A → c ∈ σ.blocks A ∨ w.heap.size ≤ c

theorem AddedE2.of {A : Ad} {σ σ1 : St} {e : EdgeR} {w0 w w1 w1' w2 : World} (he0 : Ext No w0 w) (hs1 : σ1.V = σ.V) (hE1 : σ1.E = σ.E ++ [e]) (h2 : Ext (· ∈ σ.blocks A) w w1)
    (h3 : ∀ c, c ∈ σ1.blocks A → c ∈ σ.blocks A ∨ w.heap.size ≤ c) (he : Ext No w1 w1') (hb : AddedE A σ1 e.rev w1' w2) (_hblk : ∀ c ∈ σ.blocks A, c < w0.heap.size) : AddedE2 A σ e w0 w2 := by
  obtain ⟨O2, I2, k1, k2, k3⟩ := hb
  rw [hs1, hE1] at k1 k3
  simp only [List.append_assoc, List.singleton_append] at k1 k3
  have hsz := he0.size
  refine ⟨O2, I2, k1, he0.no.trans ((h2.trans he.no).then k2 (fun c hc hm => ?_)), fun c hc => ?_⟩
  · rcases h3 c hm with h | h
    · exact h
    · omega
  · rcases k3 c hc with h | h
    · rcases h3 c h with h | h
      · exact Or.inl h
      · exact Or.inr (by omega)
    · have h4 := h2.size; have h5 := he.size; exact Or.inr (by omega)

set_option maxRecDepth 100000 in
set_option maxHeartbeats 1000000 in
theorem u_addEdgeIn {w : World} {H : Hd} {τ : Tr} {σ : St} {e : EdgeR} (h : Gr w H τ σ) (hs : ∃ n, (e.src, n) ∈ σ.V) (hd : ∃ n, (e.dst, n) ∈ σ.V) (hab : e.src ≠ e.dst)
    (hne : ∀ e' ∈ σ.E, ¬ (e'.src = e.src ∧ e'.dst = e.dst)) (hne' : ∀ e' ∈ σ.E, ¬ (e'.src = e.dst ∧ e'.dst = e.src)) (hat : w.heap[e.att]? = some (.map #[] 0)) (ha : e.att ∉ σ.blocks H.A) :
    Calls Tryz.prog 143 #[.pointer (some ⟨H.d, 0, none⟩), kI e.src, kI e.dst, e.val] w fun r w' => r = .returned .nilIface ∧ AddedE2 H.A σ e w w' := by
  have hlt := h.lt
  have d2 := h.d2
  have HG := Lib.hid (And.intro h (And.intro hs (And.intro hd (And.intro hne (And.intro hat (And.intro ha (And.intro hab hne')))))))
  clear h hs hd hne hat ha hab hne'
  have hM := M145_AddEdge
  go_enter Tryz.func143, Tryz.ntmps143
  go_wp2
  have q0 : (w.alloc (.cells #[kI e.src, kI e.dst, .map (some e.att), .int .i64 e.wt, .nilIface] 97)).cell? ⟨H.d, 2, none⟩ = some (storeV H.A) := ((Ext.refl No w).alloc _).cellv d2 id
  have r0 := (heap_alloc w (.cells #[kI e.src, kI e.dst, .map (some e.att), .int .i64 e.wt, .nilIface] 97)).1
  have e1 : Ext No w (w.alloc (.cells #[kI e.src, kI e.dst, .map (some e.att), .int .i64 e.wt, .nilIface] 97)) := (Ext.refl No w).alloc _
  revert q0 r0 e1
  generalize w.alloc (.cells #[kI e.src, kI e.dst, .map (some e.att), .int .i64 e.wt, .nilIface] 97) = W
  intro q0 r0 e1
  obtain ⟨b0, b1, b2, b3, b4, -⟩ := edge_cells r0 (Ext.refl _ W)
  have HE := Lib.hid (And.intro e1 r0)
  clear r0 e1
  go_still_tail 7, (by kernel_rfl)
  obtain ⟨h, hs, hd, hne, hat, ha, hab, hne'⟩ := HG.out
  have HC := Lib.hid (store_addEdge (h.st.ext HE.out.1.drew (fun _ _ => id)) hs hd hne (HE.out.1.drew.obj hat id) ha)
  clear h hs hd hne hat ha hab hne'
  go_wp2_with fail
  refine HC.out.mono ?_
  rintro r w1 ⟨rfl, O1, I1, g1, g2, g3⟩
  have hbox : w.heap.size ∉ σ.blocks H.A := fun hm => by have := HG.out.1.st.blocks_lt _ hm; omega
  have hdb : H.d ∉ σ.blocks H.A := fun hm => HG.out.1.nd (Or.inl hm)
  have r1 := g2.obj (HE.out.1.drew.obj (w := w) (w' := W.drew) HG.out.1.row id) hdb
  obtain ⟨x0, x1, x2, x3, x4, -⟩ := edge_cells (g2.obj (show W.drew.heap[w.heap.size]? = _ from HE.out.2) hbox) (Ext.refl _ w1)
  have l1 := World.block_lt_of_cell? _ _ x0
  have HG1 := Lib.hid (And.intro g1 (And.intro g2 (And.intro g3 r1)))
  clear hbox hdb r1 g1 g2 g3 b0 b1 b2 b3 b4 q0
  go_wp2
  have q0 : (w1.alloc (.cells #[kI e.dst, kI e.src, .map (some e.att), .int .i64 e.wt, .nilIface] 97)).cell? ⟨H.d, 2, none⟩ = some (storeV H.A) := by
    have := alloc_heap HG1.out.2.2.2 (.cells #[kI e.dst, kI e.src, .map (some e.att), .int .i64 e.wt, .nilIface] 97)
    simp [World.cell?, this]
  have r0 := (heap_alloc w1 (.cells #[kI e.dst, kI e.src, .map (some e.att), .int .i64 e.wt, .nilIface] 97)).1
  have e2 : Ext No w1 (w1.alloc (.cells #[kI e.dst, kI e.src, .map (some e.att), .int .i64 e.wt, .nilIface] 97)) := (Ext.refl No w1).alloc _
  revert q0 r0 e2
  generalize w1.alloc (.cells #[kI e.dst, kI e.src, .map (some e.att), .int .i64 e.wt, .nilIface] 97) = W2
  intro q0 r0 e2
  obtain ⟨b0, b1, b2, b3, b4, -⟩ := edge_cells r0 (Ext.refl _ W2)
  have lb := World.block_lt_of_cell? _ _ q0
  have HE2 := Lib.hid (And.intro e2 r0)
  clear r0 e2
  go_still_tail 7, (by kernel_rfl)
  have HC2 : RowKit.Hid (Calls Tryz.prog 144 #[.pointer (some ⟨H.A.s, 0, none⟩), kI e.dst, kI e.src, e.rev.val] W2.drew fun r w' => r = .returned .nilIface ∧ AddedE H.A { V := σ.V, E := σ.E ++ [e], O := O1, I := I1 } e.rev W2.drew w') := by
    obtain ⟨h, hs, hd, hne, hat, ha, hab, hne'⟩ := HG.out
    obtain ⟨g1, g2, g3, -⟩ := HG1.out
    refine Lib.hid (store_addEdge (g1.ext HE2.out.1.drew (fun _ _ => id)) hd hs ?_ (HE2.out.1.drew.obj (g2.obj (HE.out.1.drew.obj hat id) ha) id) ?_)
    · intro e' he' hh
      rcases List.mem_append.1 he' with he' | he'
      · exact hne' e' he' hh
      · simp only [List.mem_singleton] at he'
        subst he'
        exact hab hh.1
    · intro hm
      rcases g3 _ hm with hm | hm
      · exact ha hm
      · have h1 := (Array.getElem?_eq_some_iff.1 hat).1
        have h2 := HE.out.1.drew.size
        exact absurd (Nat.lt_of_lt_of_le h1 (Nat.le_trans h2 hm)) (Nat.lt_irrefl _)
  go_wp2_with (go_at_call 144; (refine HC2.out.mono ?_); rintro r w2 ⟨rfl, h2⟩)
  go_ret
  obtain ⟨g1, g2, g3, -⟩ := HG1.out
  exact ⟨rfl, AddedE2.of (σ1 := { V := σ.V, E := σ.E ++ [e], O := O1, I := I1 }) HE.out.1.drew rfl rfl g2 g3 HE2.out.1.drew h2 HG.out.1.st.blocks_lt⟩
end Go.Proofs.YtcenebjdhbdejaaGreatDoor

namespace Go.Proofs.YtcenebjdhbdejaaGreatDoor
open Go.MapKept

theorem Gr.added2 {w w1 w2 : World} {H : Hd} {τ : Tr} {σ : St} {a b wt : Int} {m : Nat} (h : Gr w H τ σ) (he : Ext No w w1) (hm : w.heap.size ≤ m) (h2 : AddedE2 H.A σ ⟨a, b, wt, m⟩ w1 w2) :
    ∃ m O' I', w.heap.size ≤ m ∧ Turned H τ σ { V := σ.V, E := σ.E ++ [⟨a, b, wt, m⟩, ⟨b, a, wt, m⟩], O := O', I := I' } w w2 := by
  obtain ⟨O', I', g1, g2, g3⟩ := h2
  refine ⟨m, O', I', hm, h.turn (he.no.trans (g2.mono (fun c _ hc => Or.inl hc))) g1 (fun c hc => ?_)⟩
  rcases hc with hc | hc
  · rcases g3 c hc with h | h
    · exact Or.inl (Or.inl h)
    · exact Or.inr (Nat.le_trans he.size h)
  · simp only [St.atts, List.map_append, List.map_cons, List.map_nil, List.mem_append, List.mem_cons, List.not_mem_nil, or_false] at hc
    rcases hc with hc | hc | hc | hc
    · exact Or.inl (Or.inr (List.mem_append_left _ hc))
    · exact Or.inl (Or.inr (List.mem_append_right _ hc))
    · exact Or.inr (hc ▸ hm)
    · exact Or.inr (hc ▸ hm)

set_option maxRecDepth 100000 in
set_option maxHeartbeats 1000000 in
theorem u_addEdge_new {w : World} {H : Hd} {τ : Tr} {σ : St} {a b wt : Int} {f : Value} {ob : Nat} {p : Nat → Addr} (h : Gr w H τ σ) (hp : Sent w p) {B : Nat} (hB : Below6 B p) (hprev : τ.prev = false)
    (hs : ∃ n, (a, n) ∈ σ.V) (hd : ∃ n, (b, n) ∈ σ.V) (hab : a ≠ b) (hne : ∀ e ∈ σ.E, ¬ (e.src = a ∧ e.dst = b)) (hne' : ∀ e ∈ σ.E, ¬ (e.src = b ∧ e.dst = a)) (ho : w.cell? ⟨ob, 0, none⟩ = some f) (hf : Opt w wt f) :
    Calls Tryz.prog 126 #[.pointer (some ⟨H.d, 0, none⟩), kI a, kI b, .slice (some ⟨ob, 0, none⟩) 1 1] w fun r w' => r = .returned .nilIface ∧
      ∃ m O' I', w.heap.size ≤ m ∧ Turned H τ σ { V := σ.V, E := σ.E ++ [⟨a, b, wt, m⟩, ⟨b, a, wt, m⟩], O := O', I := I' } w w' := by
  obtain ⟨d0, d1, d2, t4, ld, lt⟩ := h.now (Ext.refl No w)
  obtain ⟨n1, hs⟩ := hs
  obtain ⟨n2, hd⟩ := hd
  have HG := Lib.hid (And.intro h (And.intro hp hB))
  have HB := Lib.hid hB
  have HF := Lib.hid (And.intro ho hf)
  have lo := World.block_lt_of_cell? _ _ ho
  clear h hp ho hf hB
  go_enter Tryz.func126, Tryz.ntmps126
  have hM1 := M145_Vertex
  go_wp2_with fail
  refine (vertex_yes (A := H.A) (σ := σ) (HG.out.1.st.ext (Ext.refl No _) (fun _ _ h => h)) hs).mono ?_
  rintro e1 w1 ⟨rfl, h1⟩
  clear d0 d1 d2 t4 ld lt
  obtain ⟨d0, d1, d2, t4, ld, lt⟩ := HG.out.1.now h1
  have HE1 := Lib.hid h1
  clear h1
  go_wp2_with fail
  refine (vertex_yes (A := H.A) (σ := σ) (HG.out.1.st.ext (S := No) (HE1.out.trans ((Ext.refl No w1).alloc _)) (fun _ _ h => h)) hd).mono ?_
  rintro e2 w2 ⟨rfl, h2⟩
  have HE2 := Lib.hid (HE1.out.trans (((Ext.refl No w1).alloc _).trans h2))
  clear d0 d1 d2 t4 ld lt
  obtain ⟨d0, d1, d2, t4, ld, lt⟩ := HG.out.1.now HE2.out
  clear h2
  go_wp2_with fail
  have HE2' : RowKit.Hid (Ext No w (w2.alloc (.cells #[.map (some n2), .int .i64 0] 213))) := Lib.hid (HE2.out.alloc _)
  refine (u_edge_no (HG.out.1.ext HE2'.out (fun _ _ h => h)) (HG.out.2.1.ext HB.out HE2'.out (fun _ h => h.elim)) HB.out hne hne').mono ?_
  rintro e3 w3 ⟨rfl, h3⟩
  have HE3 := Lib.hid (HE2'.out.trans h3)
  clear d0 d1 d2 t4 ld lt
  obtain ⟨d0, d1, d2, t4, ld, lt⟩ := HG.out.1.now HE3.out
  have HP3 := Lib.hid (HG.out.2.1.ext HB.out HE3.out (fun _ h => h.elim))
  have c4 := HP3.out.c4
  have l4 := World.block_lt_of_cell? _ _ c4
  clear h3
  have E3 : Ext No w3 (w3.alloc (.cells #[.int .i64 0, .int .i64 0, .map none, .int .i64 0, .nilIface] 97)) := (Ext.refl No w3).alloc _
  go_wp2_with fail
  refine (is_any (HP3.out.ext HB.out E3 (fun _ h => h.elim)) (.sent 4) 4 (by decide) (by decide)).mono ?_
  rintro e4 wc ⟨rfl, h4⟩
  have HE5 := Lib.hid (HE3.out.trans (E3.trans h4))
  clear d0 d1 d2 t4 ld lt E3 h4 c4 l4
  obtain ⟨d0, d1, d2, t4, ld, lt⟩ := HG.out.1.now HE5.out
  rw [hprev] at t4
  have ho := HE5.out.cellv HF.out.1 id
  have lo := World.block_lt_of_cell? _ _ ho
  have hmm := makeMapR Tryz.prog
  have HW : RowKit.Hid (Ext No w ((wc.alloc (.map #[] 0)).alloc (ownE a b wc.heap.size 0))) := Lib.hid ((HE5.out.alloc _).alloc _)
  have hr : ((wc.alloc (.map #[] 0)).alloc (ownE a b wc.heap.size 0)).heap[wc.heap.size + 1]? = some (ownE a b wc.heap.size 0) := by
    have := (heap_alloc (wc.alloc (.map #[] 0)) (ownE a b wc.heap.size 0)).1
    simpa using this
  have HR := Lib.hid hr
  have hmr : ((wc.alloc (.map #[] 0)).alloc (ownE a b wc.heap.size 0)).heap[wc.heap.size]? = some (.map #[] 0) :=
    alloc_heap (heap_alloc wc (.map #[] 0)).1 _
  have HMR := Lib.hid hmr
  clear hr hmr
  have HT : ∀ W', Ext (fun c => c = wc.heap.size + 1) ((wc.alloc (.map #[] 0)).alloc (ownE a b wc.heap.size 0)) W' → W'.heap[wc.heap.size + 1]? = some (ownE a b wc.heap.size wt) →
      Ext No w W' ∧ Gr W' H τ σ ∧ W'.heap[wc.heap.size]? = some (.map #[] 0) ∧ wc.heap.size ∉ σ.blocks H.A ∧ w.heap.size ≤ wc.heap.size := by
    intro W' h1 h2
    have hsz := HE5.out.size
    have e1 : Ext No w W' := HW.out.then h1 (fun c hc e => by omega)
    exact ⟨e1, HG.out.1.ext e1 (fun _ _ h => h), h1.obj HMR.out (by omega), fun hm => by have := HG.out.1.st.blocks_lt _ hm; omega, hsz⟩
  have HT := Lib.hid HT
  rcases HF.out.2 with ⟨oa, hc⟩ | ⟨oa, s', t', m', hr, hm⟩
  · have HC := Lib.hid (weight_run HR.out (HW.out.cellv hc id))
    clear hc
    go_wp2_with fail
    refine wp_loop_rounds 2 ?_
    rw [rounds_succ]
    go_wp2_with (go_at_call 47; (refine HC.out.mono ?_); rintro e6 w6 ⟨rfl, h6, h7⟩)
    obtain ⟨y0, y1, y2, y3, y4, -⟩ := edge_cells h6 (Ext.refl _ w6)
    have l6 := World.block_lt_of_cell? _ _ y0
    have HE6 := Lib.hid (HT.out _ h7 h6)
    clear h6 h7
    rw [rounds_succ]
    go_wp2_with (go_at_call 143; (refine (u_addEdgeIn (e := ⟨a, b, wt, wc.heap.size⟩) HE6.out.2.1 ⟨n1, hs⟩ ⟨n2, hd⟩ hab hne hne' HE6.out.2.2.1 HE6.out.2.2.2.1).mono ?_); rintro e7 w7 ⟨rfl, h8⟩)
    go_ret
    exact ⟨rfl, HG.out.1.added2 HE6.out.1 HE6.out.2.2.2.2 h8⟩
  · have HC := Lib.hid (copy_run HR.out (HW.out.obj hr id) (HW.out.obj hm id) (by have := (Array.getElem?_eq_some_iff.1 hr).1; have := HE5.out.size; omega))
    clear hr hm
    go_wp2_with fail
    refine wp_loop_rounds 2 ?_
    rw [rounds_succ]
    go_wp2_with (go_at_call 124; (refine HC.out.mono ?_); rintro e6 w6 ⟨rfl, h6, h7⟩)
    obtain ⟨y0, y1, y2, y3, y4, -⟩ := edge_cells h6 (Ext.refl _ w6)
    have l6 := World.block_lt_of_cell? _ _ y0
    have HE6 := Lib.hid (HT.out _ h7 h6)
    clear h6 h7
    rw [rounds_succ]
    go_wp2_with (go_at_call 143; (refine (u_addEdgeIn (e := ⟨a, b, wt, wc.heap.size⟩) HE6.out.2.1 ⟨n1, hs⟩ ⟨n2, hd⟩ hab hne hne' HE6.out.2.2.1 HE6.out.2.2.2.1).mono ?_); rintro e7 w7 ⟨rfl, h8⟩)
    go_ret
    exact ⟨rfl, HG.out.1.added2 HE6.out.1 HE6.out.2.2.2.2 h8⟩

set_option maxRecDepth 100000 in
set_option maxHeartbeats 1000000 in
theorem u_addEdge_src {w : World} {H : Hd} {τ : Tr} {σ : St} {a b : Int} {s : Value} {p : Nat → Addr} (h : Gr w H τ σ) (hp : Sent w p)
    (hs : ∀ n, (a, n) ∉ σ.V) :
    Calls Tryz.prog 126 #[.pointer (some ⟨H.d, 0, none⟩), kI a, kI b, s] w fun r w' => r = .returned ((Er.wrap (.sent 1)).val p) ∧ Ext No w w' := by
  obtain ⟨d0, d1, d2, t4, ld, lt⟩ := h.now (Ext.refl No w)
  have HG := Lib.hid (And.intro h hp)
  clear h hp
  go_enter Tryz.func126, Tryz.ntmps126
  have hM1 := M145_Vertex
  go_wp2_with fail
  refine (vertex_no (A := H.A) (σ := σ) (HG.out.1.st.ext (Ext.refl No _) (fun _ _ h => h)) HG.out.2 hs).mono ?_
  rintro e1 w1 ⟨rfl, h1⟩
  have HE1 := Lib.hid h1
  clear h1
  go_wp2_with (go_at_call 118; (refine (wrap_any _ _ _).mono ?_); rintro e2 w2 ⟨rfl, rfl⟩)
  go_ret
  exact ⟨rfl, HE1.out.alloc _⟩

set_option maxRecDepth 100000 in
set_option maxHeartbeats 1000000 in
theorem u_addEdge_dst {w : World} {H : Hd} {τ : Tr} {σ : St} {a b : Int} {s : Value} {p : Nat → Addr} (h : Gr w H τ σ) (hp : Sent w p) {B : Nat} (hB : Below6 B p)
    (hs : ∃ n, (a, n) ∈ σ.V) (hd : ∀ n, (b, n) ∉ σ.V) :
    Calls Tryz.prog 126 #[.pointer (some ⟨H.d, 0, none⟩), kI a, kI b, s] w fun r w' => r = .returned ((Er.wrap (.sent 1)).val p) ∧ Ext No w w' := by
  obtain ⟨d0, d1, d2, t4, ld, lt⟩ := h.now (Ext.refl No w)
  obtain ⟨n1, hs⟩ := hs
  have HG := Lib.hid (And.intro h (And.intro hp hB))
  clear h hp hB
  go_enter Tryz.func126, Tryz.ntmps126
  have hM1 := M145_Vertex
  go_wp2_with fail
  refine (vertex_yes (A := H.A) (σ := σ) (HG.out.1.st.ext (Ext.refl No _) (fun _ _ h => h)) hs).mono ?_
  rintro e1 w1 ⟨rfl, h1⟩
  obtain ⟨d0, d1, d2, t4, ld, lt⟩ := HG.out.1.now h1
  have HE1 := Lib.hid h1
  clear h1
  go_wp2_with fail
  have HE : RowKit.Hid (Ext No w (w1.alloc (.cells #[.map (some n1), .int .i64 0] 213))) := Lib.hid (HE1.out.alloc _)
  refine (vertex_no (A := H.A) (σ := σ) (HG.out.1.st.ext HE.out (fun _ _ h => h)) (HG.out.2.1.ext HG.out.2.2 HE.out (fun _ h => h.elim)) hd).mono ?_
  rintro e2 w2 ⟨rfl, h2⟩
  have HE2 := Lib.hid (HE.out.trans h2)
  clear h2
  go_wp2_with (go_at_call 118; (refine (wrap_any _ _ _).mono ?_); rintro e2 w2 ⟨rfl, rfl⟩)
  go_ret
  exact ⟨rfl, HE2.out.alloc _⟩

set_option maxRecDepth 100000 in
set_option maxHeartbeats 1000000 in
theorem u_addEdge_old {w : World} {H : Hd} {τ : Tr} {σ : St} {e : EdgeR} {s : Value} {p : Nat → Addr} (h : Gr w H τ σ) (hp : Sent w p) {B : Nat} (hB : Below6 B p)
    (he : e ∈ σ.E) :
    Calls Tryz.prog 126 #[.pointer (some ⟨H.d, 0, none⟩), kI e.src, kI e.dst, s] w fun r w' => r = .returned (errv p 3) ∧ Ext No w w' := by
  obtain ⟨d0, d1, d2, t4, ld, lt⟩ := h.now (Ext.refl No w)
  obtain ⟨⟨n1, hs⟩, n2, hd⟩ := h.st.ends e he
  have HG := Lib.hid (And.intro h (And.intro hp hB))
  clear h hp hB
  go_enter Tryz.func126, Tryz.ntmps126
  have hM1 := M145_Vertex
  go_wp2_with fail
  refine (vertex_yes (A := H.A) (σ := σ) (HG.out.1.st.ext (Ext.refl No _) (fun _ _ h => h)) hs).mono ?_
  rintro e1 w1 ⟨rfl, h1⟩
  obtain ⟨d0, d1, d2, t4, ld, lt⟩ := HG.out.1.now h1
  have HE1 := Lib.hid h1
  clear h1
  go_wp2_with fail
  have HE : RowKit.Hid (Ext No w (w1.alloc (.cells #[.map (some n1), .int .i64 0] 213))) := Lib.hid (HE1.out.alloc _)
  refine (vertex_yes (A := H.A) (σ := σ) (HG.out.1.st.ext HE.out (fun _ _ h => h)) hd).mono ?_
  rintro e2 w2 ⟨rfl, h2⟩
  have HE2 := Lib.hid (HE.out.trans h2)
  obtain ⟨d0, d1, d2, t4, ld, lt⟩ := HG.out.1.now HE2.out
  clear h2
  go_wp2_with fail
  have HE2' : RowKit.Hid (Ext No w (w2.alloc (.cells #[.map (some n2), .int .i64 0] 213))) := Lib.hid (HE2.out.alloc _)
  refine (u_edge_yes (HG.out.1.ext HE2'.out (fun _ _ h => h)) (HG.out.2.1.ext HG.out.2.2 HE2'.out (fun _ h => h.elim)) HG.out.2.2 he).mono ?_
  rintro e3 w3 ⟨rfl, h3⟩
  have HE3 := Lib.hid (HE2'.out.trans h3)
  have HP3 := Lib.hid (HG.out.2.1.ext HG.out.2.2 HE3.out (fun _ h => h.elim))
  have c4 := HP3.out.c4
  have l4 := World.block_lt_of_cell? _ _ c4
  clear h3
  go_wp2_with fail
  refine (is_nil (p := p) 4).mono ?_
  rintro e4 w4 ⟨rfl, h4⟩
  have HE4 := Lib.hid ((HE3.out.alloc _).trans h4)
  have HP4 := Lib.hid (HG.out.2.1.ext HG.out.2.2 HE4.out (fun _ h => h.elim))
  have c3 := HP4.out.c3
  have l3 := World.block_lt_of_cell? _ _ c3
  clear h4
  go_wp2
  go_ret
  exact ⟨rfl, HE4.out⟩
end Go.Proofs.YtcenebjdhbdejaaGreatDoor
