/- The undirected graph's UpdateEdge, walked. -/
import Derived.Test.YtcenebjdhbdejaaGreatDoorB13
import Derived.Test.YtcenebjdhbdejaaGreatDoorB14
namespace Go.Proofs.YtcenebjdhbdejaaGreatDoor
open Go.MapKept

set_option maxRecDepth 100000 in
set_option maxHeartbeats 1000000 in
theorem u_updateEdge_no {w : World} {H : Hd} {τ : Tr} {σ : St} {a b : Int} {ov : Value} {p : Nat → Addr} (h : Gr w H τ σ) (hp : Sent w p) (he : ∀ e ∈ σ.E, ¬ (e.src = a ∧ e.dst = b)) :
    Calls Tryz.prog 140 #[.pointer (some ⟨H.d, 0, none⟩), kI a, kI b, ov] w fun r w' => r = .returned (errv p 4) ∧ Ext No w w' := by
  have hlt := h.lt
  have d2 := h.d2
  have hc := edge_no h.st hp he
  clear h hp
  go_enter Tryz.func140, Tryz.ntmps140
  have hM := M145_Edge
  go_wp2_with (first | (go_at_call 147; refine hc.mono ?_; rintro r w1 ⟨hr, h1⟩; subst hr))
  go_ret
  exact ⟨rfl, h1.alloc _⟩

/-- an edge with another weight, the other way round -/
abbrev EdgeR.rvd (e : EdgeR) (wt : Int) : EdgeR := ⟨e.dst, e.src, wt, e.att⟩

theorem atts_rev {σ : St} {e : EdgeR} {wt : Int} (he : e.wtd wt ∈ σ.E) {c : Nat} (hc : c ∈ ({ σ with E := putE σ.E (e.rvd wt) } : St).atts) : c ∈ σ.atts := by
  simp only [St.atts, List.mem_append, List.mem_map] at hc ⊢
  rcases hc with hc | ⟨x, hx, rfl⟩
  · exact Or.inl hc
  · obtain ⟨y, hy, rfl⟩ := List.mem_map.1 hx
    refine Or.inr ?_
    by_cases hc : (y.src == (e.rvd wt).src && y.dst == (e.rvd wt).dst) = true
    · simp only [hc, if_true]
      exact ⟨_, he, rfl⟩
    · simp only [hc]
      exact ⟨y, hy, rfl⟩

set_option maxRecDepth 100000 in
set_option maxHeartbeats 1000000 in
theorem u_updateEdge_yes {w : World} {H : Hd} {τ : Tr} {σ : St} {e e' : EdgeR} {wt : Int} {f : Value} {ob : Nat} (h : Gr w H τ σ) (he : e ∈ σ.E) (he' : e' ∈ σ.E) (hs : e'.src = e.dst) (hd : e'.dst = e.src) (hne : e.src ≠ e.dst) (ho : w.cell? ⟨ob, 0, none⟩ = some f) (hf : Opt w wt f) :
    Calls Tryz.prog 140 #[.pointer (some ⟨H.d, 0, none⟩), kI e.src, kI e.dst, .slice (some ⟨ob, 0, none⟩) 1 1] w fun r w' => r = .returned .nilIface ∧ Turned H τ σ { σ with E := putE (putE σ.E (e.wtd wt)) (e.rvd wt) } w w' := by
  obtain ⟨d0, d1, d2, t4, ld, lt⟩ := h.now (Ext.refl No w)
  have hc := edge_yes h.st he
  have he2 : e' ∈ putE σ.E (e.wtd wt) := List.mem_map.2 ⟨e', he', by simp [hs, hd, Ne.symm hne]⟩
  have he3 : e.wtd wt ∈ putE σ.E (e.wtd wt) := List.mem_map.2 ⟨e, he, by simp⟩
  have HX := Lib.hid (And.intro hs (And.intro hd (And.intro he2 he3)))
  have HG := Lib.hid h
  have HF := Lib.hid (And.intro ho hf)
  have lo := World.block_lt_of_cell? _ _ ho
  clear h ho hf hs hd he2 he3
  go_enter Tryz.func140, Tryz.ntmps140
  have hM := M145_Edge
  have hM2 := M145_UpdateEdge
  go_wp2_with (first | (go_at_call 147; refine hc.mono ?_; rintro r w1 ⟨hr, h1⟩; subst hr; clear hc; obtain ⟨d0, d1, d2, t4, ld, lt⟩ := HG.out.now h1; have ho := h1.cellv HF.out.1 id; have lo := World.block_lt_of_cell? _ _ ho))
  have hr := (heap_alloc w1 (ownE e.src e.dst e.att e.wt)).1
  have e1 : Ext No w (w1.alloc (ownE e.src e.dst e.att e.wt)) := h1.alloc _
  have HT : ∀ W', Ext (fun c => c = w1.heap.size) (w1.alloc (ownE e.src e.dst e.att e.wt)) W' → Ext No w W' := fun W' h2 => e1.then h2 (fun c hc e => by have := h1.size; omega)
  have HT := Lib.hid HT
  have HB1 : w1.heap.size ∉ σ.blocks H.A := fun hm => by have := HG.out.st.blocks_lt _ hm; have := h1.size; omega
  have HB1 := Lib.hid HB1
  rcases HF.out.2 with ⟨oa, hc⟩ | ⟨oa, s', t', m', hr', hm⟩
  · have HC := Lib.hid (weight_run hr (e1.cellv hc id))
    clear hc e1 hr
    refine wp_loop_rounds 2 ?_
    rw [rounds_succ]
    go_wp2_with (go_at_call 47; (refine HC.out.mono ?_); rintro e6 w6 ⟨rfl, h6, h7⟩)
    obtain ⟨y0, y1, y2, y3, y4, -⟩ := edge_cells h6 (Ext.refl _ w6)
    have l6 := World.block_lt_of_cell? _ _ y0
    have HE6 := Lib.hid (HT.out _ h7)
    obtain ⟨d0, d1, d2, t4, ld, lt⟩ := HG.out.now HE6.out
    have H6 := Lib.hid h6
    clear h6 h7
    rw [rounds_succ]
    go_upto_region 9 with (fail)
    go_still_tail 7, (by kernel_rfl)
    have HC2 : RowKit.Hid (Calls Tryz.prog 152 #[.pointer (some ⟨H.A.s, 0, none⟩), kI e.src, kI e.dst, (e.wtd wt).val] w6.drew fun r w' => r = .returned .nilIface ∧ Store w' H.A { σ with E := putE σ.E (e.wtd wt) } ∧ Ext (· ∈ σ.blocks H.A) w6.drew w') :=
      Lib.hid (store_updateEdge (e := e.wtd wt) (HG.out.st.ext HE6.out.drew (fun _ _ h => h)) he rfl rfl (HE6.out.drew.obj (HG.out.st.att _ (List.mem_append_right _ (List.mem_map.2 ⟨e, he, rfl⟩))) id) (HG.out.st.apart _ (List.mem_append_right _ (List.mem_map.2 ⟨e, he, rfl⟩))))
    clear d0 d1 d2 t4 ld lt y0 y1 y2 y3 y4 l6
    go_upto_region 15 with (go_at_call 152; (refine HC2.out.mono ?_); rintro r7 w7 ⟨rfl, h8, h9⟩; obtain ⟨y0, y1, y2, y3, y4, -⟩ := edge_cells (h9.obj H6.out HB1.out) (Ext.refl _ w7); have l7 := World.block_lt_of_cell? _ _ y0; have HE7 : RowKit.Hid (Ext (σ.foot H.A) w w7) := Lib.hid (HE6.out.drew.no.then h9 (fun c _ hc => Or.inl hc)); have d2 := HE7.out.cellv HG.out.d2 HG.out.nd; have ld := World.block_lt_of_cell? _ _ d2; have H8 := Lib.hid h8; clear h8 h9)
    have hr8 := (heap_alloc w7 (ownE e.dst e.src e.att wt)).1
    have e8 : Ext No w7 (w7.alloc (ownE e.dst e.src e.att wt)) := (Ext.refl _ _).alloc _
    have hat8 : (w7.alloc (ownE e.dst e.src e.att wt)).heap[e.att]? = some (.map #[] 0) := e8.obj (H8.out.att e.att (List.mem_append_right _ (List.mem_map.2 ⟨_, HX.out.2.2.2, rfl⟩))) id
    revert hr8 e8 hat8
    generalize w7.alloc (ownE e.dst e.src e.att wt) = W8
    intro hr8 e8 hat8
    obtain ⟨x0, x1, x2, x3, x4, -⟩ := edge_cells hr8 (Ext.refl _ W8)
    have l8 := World.block_lt_of_cell? _ _ x0
    have d2 := e8.cellv d2 id
    have ld := World.block_lt_of_cell? _ _ d2
    have HC8 : RowKit.Hid (Calls Tryz.prog 152 #[.pointer (some ⟨H.A.s, 0, none⟩), kI e.dst, kI e.src, (e.rvd wt).val] W8.drew fun r w' => r = .returned .nilIface ∧ Store w' H.A { σ with E := putE (putE σ.E (e.wtd wt)) (e.rvd wt) } ∧ Ext (· ∈ σ.blocks H.A) W8.drew w') :=
      Lib.hid (store_updateEdge (e := e.rvd wt) (H8.out.ext (e8.drew) (fun _ _ h => h)) HX.out.2.2.1 HX.out.1 HX.out.2.1 hat8 (H8.out.apart e.att (List.mem_append_right _ (List.mem_map.2 ⟨_, HX.out.2.2.2, rfl⟩))))
    have HE8 := Lib.hid e8
    clear e8 hr8 hat8
    go_still_tail 7, (by kernel_rfl)
    go_wp2_with (go_at_call 152; (refine HC8.out.mono ?_); rintro r9 w9 ⟨rfl, h8, h9⟩)
    go_ret
    refine ⟨rfl, HG.out.turn ((HE7.out.trans HE8.out.drew.no).trans (h9.mono (fun c _ hc => Or.inl hc))) h8 (fun c hc => ?_)⟩
    rcases hc with hc | hc
    · exact Or.inl (Or.inl hc)
    · exact Or.inl (Or.inr (atts_put he (atts_rev HX.out.2.2.2 hc)))
  · have HC := Lib.hid (copy_run hr (e1.obj hr' id) (e1.obj hm id) (by have := (Array.getElem?_eq_some_iff.1 hr').1; have := h1.size; omega))
    clear hr' hm e1 hr
    refine wp_loop_rounds 2 ?_
    rw [rounds_succ]
    go_wp2_with (go_at_call 124; (refine HC.out.mono ?_); rintro e6 w6 ⟨rfl, h6, h7⟩)
    obtain ⟨y0, y1, y2, y3, y4, -⟩ := edge_cells h6 (Ext.refl _ w6)
    have l6 := World.block_lt_of_cell? _ _ y0
    have HE6 := Lib.hid (HT.out _ h7)
    obtain ⟨d0, d1, d2, t4, ld, lt⟩ := HG.out.now HE6.out
    have H6 := Lib.hid h6
    clear h6 h7
    rw [rounds_succ]
    go_upto_region 9 with (fail)
    go_still_tail 7, (by kernel_rfl)
    have HC2 : RowKit.Hid (Calls Tryz.prog 152 #[.pointer (some ⟨H.A.s, 0, none⟩), kI e.src, kI e.dst, (e.wtd wt).val] w6.drew fun r w' => r = .returned .nilIface ∧ Store w' H.A { σ with E := putE σ.E (e.wtd wt) } ∧ Ext (· ∈ σ.blocks H.A) w6.drew w') :=
      Lib.hid (store_updateEdge (e := e.wtd wt) (HG.out.st.ext HE6.out.drew (fun _ _ h => h)) he rfl rfl (HE6.out.drew.obj (HG.out.st.att _ (List.mem_append_right _ (List.mem_map.2 ⟨e, he, rfl⟩))) id) (HG.out.st.apart _ (List.mem_append_right _ (List.mem_map.2 ⟨e, he, rfl⟩))))
    clear d0 d1 d2 t4 ld lt y0 y1 y2 y3 y4 l6
    go_upto_region 15 with (go_at_call 152; (refine HC2.out.mono ?_); rintro r7 w7 ⟨rfl, h8, h9⟩; obtain ⟨y0, y1, y2, y3, y4, -⟩ := edge_cells (h9.obj H6.out HB1.out) (Ext.refl _ w7); have l7 := World.block_lt_of_cell? _ _ y0; have HE7 : RowKit.Hid (Ext (σ.foot H.A) w w7) := Lib.hid (HE6.out.drew.no.then h9 (fun c _ hc => Or.inl hc)); have d2 := HE7.out.cellv HG.out.d2 HG.out.nd; have ld := World.block_lt_of_cell? _ _ d2; have H8 := Lib.hid h8; clear h8 h9)
    have hr8 := (heap_alloc w7 (ownE e.dst e.src e.att wt)).1
    have e8 : Ext No w7 (w7.alloc (ownE e.dst e.src e.att wt)) := (Ext.refl _ _).alloc _
    have hat8 : (w7.alloc (ownE e.dst e.src e.att wt)).heap[e.att]? = some (.map #[] 0) := e8.obj (H8.out.att e.att (List.mem_append_right _ (List.mem_map.2 ⟨_, HX.out.2.2.2, rfl⟩))) id
    revert hr8 e8 hat8
    generalize w7.alloc (ownE e.dst e.src e.att wt) = W8
    intro hr8 e8 hat8
    obtain ⟨x0, x1, x2, x3, x4, -⟩ := edge_cells hr8 (Ext.refl _ W8)
    have l8 := World.block_lt_of_cell? _ _ x0
    have d2 := e8.cellv d2 id
    have ld := World.block_lt_of_cell? _ _ d2
    have HC8 : RowKit.Hid (Calls Tryz.prog 152 #[.pointer (some ⟨H.A.s, 0, none⟩), kI e.dst, kI e.src, (e.rvd wt).val] W8.drew fun r w' => r = .returned .nilIface ∧ Store w' H.A { σ with E := putE (putE σ.E (e.wtd wt)) (e.rvd wt) } ∧ Ext (· ∈ σ.blocks H.A) W8.drew w') :=
      Lib.hid (store_updateEdge (e := e.rvd wt) (H8.out.ext (e8.drew) (fun _ _ h => h)) HX.out.2.2.1 HX.out.1 HX.out.2.1 hat8 (H8.out.apart e.att (List.mem_append_right _ (List.mem_map.2 ⟨_, HX.out.2.2.2, rfl⟩))))
    have HE8 := Lib.hid e8
    clear e8 hr8 hat8
    go_still_tail 7, (by kernel_rfl)
    go_wp2_with (go_at_call 152; (refine HC8.out.mono ?_); rintro r9 w9 ⟨rfl, h8, h9⟩)
    go_ret
    refine ⟨rfl, HG.out.turn ((HE7.out.trans HE8.out.drew.no).trans (h9.mono (fun c _ hc => Or.inl hc))) h8 (fun c hc => ?_)⟩
    rcases hc with hc | hc
    · exact Or.inl (Or.inl hc)
    · exact Or.inl (Or.inr (atts_put he (atts_rev HX.out.2.2.2 hc)))
end Go.Proofs.YtcenebjdhbdejaaGreatDoor
