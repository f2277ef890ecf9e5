/- The store's methods, walked: Vertex, AddVertex, Edge, AddEdge, and so on. The store's methods, walked: Edge. The store's methods, walked: AddEdge. The store's AddEdge, walked. The store's ListVertices, ListEdges, walked. -/
import Derived.Test.YtcenebjdhbdejaaGreatDoorB01
import Derived.Deep.Cut
namespace Go.Proofs.YtcenebjdhbdejaaGreatDoor
open Go.MapKept

set_option maxRecDepth 100000 in
set_option maxHeartbeats 400000 in
theorem vertex_yes {w : World} {A : Ad} {σ : St} {k : Int} {a : Nat} (h : Store w A σ) (hk : (k, a) ∈ σ.V) :
    Calls Tryz.prog 153 #[.pointer (some ⟨A.s, 0, none⟩), kI k] w fun e w' => e = .returned (.tuple #[kI k, vp a, .nilIface]) ∧ Ext No w w' := by
  have l1 := lookup_mem (f := fun v => kI v.1) h.keys hk
  have l2 := lookup_mem (f := fun v => vp v.2) h.keys hk
  have hlt := h.lt
  have c0 := h.c0
  have c1 := h.c1
  unfold kI
  go_enter Tryz.func153, Tryz.ntmps153
  have hv1 := h.vm.alloc (.cells #[.map none, .int .i64 0] 213)
  have hp1 := h.pm.alloc (.cells #[.map none, .int .i64 0] 213)
  clear h
  go_wp2_with (first | (at_lookup; (refine wpL_lookup_ok rfl rfl U146 K2 Z2 rfl rfl hv1 ?_); rw [l1]) | (at_lookup; (refine wpL_lookup rfl rfl U147 K2 Z213 rfl rfl hp1 ?_); rw [l2]))
  go_region
  go_wp2
  refine bodyPost_ret (v := .tuple #[kI k, vp a, .nilIface]) (by simp [results, Tryz.results153, go_sem]) rfl ⟨rfl, ?_⟩
  exact (((Ext.refl _ _).alloc _).alloc _).drew

set_option maxRecDepth 100000 in
set_option maxHeartbeats 400000 in
theorem vertex_no {w : World} {A : Ad} {σ : St} {k : Int} {p : Nat → Addr} (h : Store w A σ) (hp : Sent w p) (hk : ∀ a, (k, a) ∉ σ.V) :
    Calls Tryz.prog 153 #[.pointer (some ⟨A.s, 0, none⟩), kI k] w fun e w' => e = .returned (.tuple #[kI 0, .agg #[.map none, .int .i64 0], errv p 1]) ∧ Ext No w w' := by
  have l1 := lookup_not (f := fun v => kI v.1) hk
  have hlt := h.lt
  have c0 := h.c0
  have e1 := hp.c1
  have hl1 : 1 < w.heap.size := World.block_lt_of_cell? w _ hp.c1
  unfold kI
  go_enter Tryz.func153, Tryz.ntmps153
  have hv1 := h.vm.alloc (.cells #[.map none, .int .i64 0] 213)
  clear h hp
  go_wp2_with (first | (at_lookup; (refine wpL_lookup_ok rfl rfl U146 K2 Z2 rfl rfl hv1 ?_); rw [l1]))
  go_region
  all_goals go_wp2
  refine bodyPost_ret (v := .tuple #[kI 0, .agg #[.map none, .int .i64 0], errv p 1]) (by simp [results, Tryz.results153, go_sem]) rfl ⟨rfl, ?_⟩
  repeat (first | exact Ext.refl _ _ | refine Ext.drew ?_ | refine Ext.alloc ?_ _ | refine Ext.setCell ?_ _ _ (fun h => absurd h (by simp)))

/-- A vertex more. -/
theorem Store.addV {w w' : World} {A : Ad} {σ : St} {k : Int} {a : Nat} {S : Nat → Prop} (h : Store w A σ) (hk : ∀ a, (k, a) ∉ σ.V) (ha : ¬ σ.foot A a)
    (he : Ext S w w') (hS : ∀ c, σ.foot A c → S c → c = A.bv ∨ c = A.bp) (hatt : w'.heap[a]? = some (.map #[] 0))
    (hv : MapI kI w' A.bv (setA k (kI k) (σ.V.map fun v => (v.1, kI v.1)))) (hp : MapI kI w' A.bp (setA k (vp a) (σ.V.map fun v => (v.1, vp v.2)))) :
    Store w' A { σ with V := σ.V ++ [(k, a)] } := by
  have g1 := (findA_none (v' := kI k) (k := k) (m := σ.V.map fun v => (v.1, kI v.1)) (i := 0) (by
    cases hr : findA k (σ.V.map fun v => (v.1, kI v.1)) 0 with
    | none => rfl
    | some q =>
      have := findA_lookup k (σ.V.map fun v => (v.1, kI v.1)) 0
      rw [hr, lookup_not (f := fun v => kI v.1) hk] at this
      simp at this)).2.1
  have g2 := (findA_none (v' := vp a) (k := k) (m := σ.V.map fun v => (v.1, vp v.2)) (i := 0) (by
    cases hr : findA k (σ.V.map fun v => (v.1, vp v.2)) 0 with
    | none => rfl
    | some q =>
      have := findA_lookup k (σ.V.map fun v => (v.1, vp v.2)) 0
      rw [hr, lookup_not (f := fun v => vp v.2) hk] at this
      simp at this)).2.1
  rw [g1] at hv
  rw [g2] at hp
  have nd := h.nd
  have sub : ∀ c, c ∈ σ.blocks A → c ≠ A.bv → c ≠ A.bp → ¬ S c := fun c hc h1 h2 hs => by
    rcases hS c (Or.inl hc) hs with e | e
    · exact h1 e
    · exact h2 e
  simp only [St.blocks, List.nodup_cons, List.mem_cons, List.mem_append, not_or] at nd
  obtain ⟨⟨n1, n2, n3, n4, n5⟩, ⟨m1, m2, m3, m4⟩, ⟨q1, q2, q3⟩, -⟩ := nd
  have hb : ({ σ with V := σ.V ++ [(k, a)] } : St).blocks A = σ.blocks A := rfl
  have atts : ({ σ with V := σ.V ++ [(k, a)] } : St).atts = (σ.V.map (·.2)) ++ a :: σ.E.map (·.att) := by simp [St.atts]
  refine ⟨he.obj h.row (sub _ (by simp [St.blocks]) n1 n2), by simpa using hv, by simpa using hp, h.om.ext he (sub _ (by simp [St.blocks]) (Ne.symm m2) (Ne.symm q1)), h.im.ext he (sub _ (by simp [St.blocks]) (Ne.symm m3) (Ne.symm q2)), ?_, ?_, h.outk, h.ink, ?_, ?_, h.nd, ?_⟩
  · intro o ho
    refine (h.outs o ho).ext he (sub _ ?_ ?_ ?_)
    · simp only [St.blocks, List.mem_cons, List.mem_append, List.mem_map]; right; right; right; right; right; left; exact ⟨o, ho, rfl⟩
    · intro e; exact m4.1 (List.mem_map.2 ⟨o, ho, e⟩)
    · intro e; exact q3.1 (List.mem_map.2 ⟨o, ho, e⟩)
  · intro o ho
    refine (h.ins o ho).ext he (sub _ ?_ ?_ ?_)
    · simp only [St.blocks, List.mem_cons, List.mem_append, List.mem_map]; right; right; right; right; right; right; exact ⟨o, ho, rfl⟩
    · intro e; exact m4.2 (List.mem_map.2 ⟨o, ho, e⟩)
    · intro e; exact q3.2 (List.mem_map.2 ⟨o, ho, e⟩)
  · intro e he'
    obtain ⟨⟨a1, h1⟩, a2, h2⟩ := h.ends e he'
    exact ⟨⟨a1, List.mem_append_left _ h1⟩, a2, List.mem_append_left _ h2⟩
  · intro b hb'
    rw [atts] at hb'
    rcases List.mem_append.1 hb' with hb' | hb'
    · exact he.obj (h.att b (List.mem_append_left _ hb')) (fun hs => by
        rcases hS b (Or.inr (List.mem_append_left _ hb')) hs with e | e
        · exact h.apart b (List.mem_append_left _ hb') (by simp [St.blocks, e])
        · exact h.apart b (List.mem_append_left _ hb') (by simp [St.blocks, e]))
    · rcases List.mem_cons.1 hb' with rfl | hb'
      · exact hatt
      · exact he.obj (h.att b (List.mem_append_right _ hb')) (fun hs => by
          rcases hS b (Or.inr (List.mem_append_right _ hb')) hs with e | e
          · exact h.apart b (List.mem_append_right _ hb') (by simp [St.blocks, e])
          · exact h.apart b (List.mem_append_right _ hb') (by simp [St.blocks, e]))
  · intro b hb'
    rw [atts] at hb'
    rw [hb]
    rcases List.mem_append.1 hb' with hb' | hb'
    · exact h.apart b (List.mem_append_left _ hb')
    · rcases List.mem_cons.1 hb' with rfl | hb'
      · exact fun hm => ha (Or.inl hm)
      · exact h.apart b (List.mem_append_right _ hb')

theorem Store.ne {w : World} {A : Ad} {σ : St} (h : Store w A σ) : A.s ≠ A.bv ∧ A.s ≠ A.bp ∧ A.s ≠ A.bo ∧ A.s ≠ A.bi ∧ A.bv ≠ A.bp ∧ A.bv ≠ A.bo ∧ A.bv ≠ A.bi ∧ A.bp ≠ A.bo ∧ A.bp ≠ A.bi ∧ A.bo ≠ A.bi := by
  have nd := h.nd
  simp only [St.blocks, List.nodup_cons, List.mem_cons, List.mem_append, not_or] at nd
  exact ⟨nd.1.1, nd.1.2.1, nd.1.2.2.1, nd.1.2.2.2.1, nd.2.1.1, nd.2.1.2.1, nd.2.1.2.2.1, nd.2.2.1.1, nd.2.2.1.2.1, nd.2.2.2.1.1⟩

set_option maxRecDepth 100000 in
set_option maxHeartbeats 400000 in
theorem addVertex_new {w : World} {A : Ad} {σ : St} {k : Int} {a : Nat} (h : Store w A σ) (hk : ∀ a, (k, a) ∉ σ.V) (ha : ¬ σ.foot A a) (hat : w.heap[a]? = some (.map #[] 0)) :
    Calls Tryz.prog 145 #[.pointer (some ⟨A.s, 0, none⟩), kI k, kI k, vp a] w fun e w' => e = .returned .nilIface ∧ Store w' A { σ with V := σ.V ++ [(k, a)] } ∧ Ext (fun c => c = A.bv ∨ c = A.bp) w w' := by
  have l1 := lookup_not (f := fun v => kI v.1) hk
  have hlt := h.lt
  have c0 := h.c0
  have c1 := h.c1
  obtain ⟨n1, n2, -, -, n3, -⟩ := h.ne
  have hq : w.heap.size ≠ A.bv := by have := h.vm.lt; omega
  have hnv : A.bv < w.heap.size := h.vm.lt
  have hnp : A.bp < w.heap.size := h.pm.lt
  unfold kI
  go_enter Tryz.func145, Tryz.ntmps145
  have hv1 := h.vm.alloc (.cells #[.map (some a), .int .i64 0] 213)
  have hp1 := h.pm.alloc (.cells #[.map (some a), .int .i64 0] 213)
  have H := Lib.hid h
  have HA := Lib.hid hat
  have HE : Ext (fun c => c = A.bv ∨ c = A.bp) w (w.alloc (.cells #[.map (some a), .int .i64 0] 213)) := (Ext.refl _ _).alloc _
  clear h hat
  go_wp2_with (first | (at_lookup; (refine wpL_lookup_ok rfl rfl U146 K2 Z2 rfl rfl hv1 ?_); rw [l1]) | (at_mapUpdate; (refine wpL_mapUpdate rfl rfl U146 K2 rfl rfl (kI k) rfl hv1 ?_); intro w1 hv2 ho1; have hc := ho1.cell; have hf := ho1.frz; have hp2 := ho1.mapI (Ne.symm n3) hp1; have he1 := HE.only ho1 (fun _ => Or.inl rfl); clear ho1))
  go_still_tail 6, (by kernel_rfl)
  have hp3 := hp2.drew
  refine wpL_mapUpdate rfl rfl U147 K2 rfl rfl (vp a) rfl hp3 ?_
  intro w2 hp4 ho2
  have he2 := (he1.drew).only ho2 (fun _ => Or.inr rfl)
  have hv4 := ho2.mapI n3 hv2.drew
  clear hc hf
  go_wp2
  go_ret
  have h := H.out
  refine ⟨rfl, Store.addV h hk ha he2 (fun _ _ x => x) (he2.obj HA.out ?_) hv4 hp4, he2⟩
  rintro (rfl | rfl) <;> exact ha (Or.inl (by simp [St.blocks]))

set_option maxRecDepth 100000 in
set_option maxHeartbeats 400000 in
theorem addVertex_old {w : World} {A : Ad} {σ : St} {k : Int} {a b : Nat} {p : Nat → Addr} (h : Store w A σ) (hp : Sent w p) (hk : (k, b) ∈ σ.V) :
    Calls Tryz.prog 145 #[.pointer (some ⟨A.s, 0, none⟩), kI k, kI k, vp a] w fun e w' => e = .returned (errv p 0) ∧ Ext No w w' := by
  have l1 := lookup_mem (f := fun v => kI v.1) h.keys hk
  have hlt := h.lt
  have c0 := h.c0
  have e0 := hp.c0
  have hl1 : 0 < w.heap.size := World.block_lt_of_cell? w _ hp.c0
  unfold kI
  go_enter Tryz.func145, Tryz.ntmps145
  have hv1 := h.vm.alloc (.cells #[.map (some a), .int .i64 0] 213)
  clear h hp
  go_wp2_with (first | (at_lookup; (refine wpL_lookup_ok rfl rfl U146 K2 Z2 rfl rfl hv1 ?_); rw [l1]))
  go_ret
  exact ⟨rfl, (Ext.refl _ _).alloc _⟩
end Go.Proofs.YtcenebjdhbdejaaGreatDoor
namespace Go.Proofs.YtcenebjdhbdejaaGreatDoor
open Go.MapKept

theorem lookup_of_mem {M : List (Int × Value)} (hn : (M.map (·.1)).Nodup) {k : Int} {v : Value} (hm : (k, v) ∈ M) : M.lookup k = some v := by
  induction M with
  | nil => simp at hm
  | cons p M ih =>
    simp only [List.map_cons, List.nodup_cons] at hn
    rcases List.mem_cons.1 hm with rfl | hm
    · simp
    · have hne : (k == p.1) = false := by
        simp only [beq_eq_false_iff_ne, ne_eq]
        intro e
        exact hn.1 (List.mem_map.2 ⟨_, hm, e⟩)
      simp [List.lookup, hne, ih hn.2 hm]
theorem lookup_of_not {M : List (Int × Value)} {k : Int} (hm : ∀ v, (k, v) ∉ M) : M.lookup k = none := by
  induction M with
  | nil => rfl
  | cons p M ih =>
    have hne : (k == p.1) = false := by
      simp only [beq_eq_false_iff_ne, ne_eq]
      intro e
      exact hm p.2 (by rw [e]; exact List.mem_cons_self)
    simp only [List.lookup, hne]
    exact ih fun b hb => hm b (List.mem_cons_of_mem _ hb)

theorem mem_outOf {E : List EdgeR} {e : EdgeR} (he : e ∈ E) : (e.dst, e.val) ∈ outOf E e.src :=
  List.mem_map.2 ⟨e, List.mem_filter.2 ⟨he, by simp⟩, rfl⟩
theorem mem_inOf {E : List EdgeR} {e : EdgeR} (he : e ∈ E) : (e.src, e.val) ∈ inOf E e.dst :=
  List.mem_map.2 ⟨e, List.mem_filter.2 ⟨he, by simp⟩, rfl⟩
theorem not_outOf {E : List EdgeR} {a b : Int} (h : ∀ e ∈ E, ¬ (e.src = a ∧ e.dst = b)) : (outOf E a).lookup b = none := by
  apply lookup_of_not
  intro v hv
  obtain ⟨e, he, h2⟩ := List.mem_map.1 hv
  obtain ⟨h3, h4⟩ := List.mem_filter.1 he
  simp only [Prod.mk.injEq] at h2
  exact h e h3 ⟨by simpa using h4, h2.1⟩
theorem not_inOf {E : List EdgeR} {a b : Int} (h : ∀ e ∈ E, ¬ (e.src = a ∧ e.dst = b)) : (inOf E b).lookup a = none := by
  apply lookup_of_not
  intro v hv
  obtain ⟨e, he, h2⟩ := List.mem_map.1 hv
  obtain ⟨h3, h4⟩ := List.mem_filter.1 he
  simp only [Prod.mk.injEq] at h2
  exact h e h3 ⟨h2.1, by simpa using h4⟩
theorem Store.out_lookup {w : World} {A : Ad} {σ : St} (h : Store w A σ) {e : EdgeR} (he : e ∈ σ.E) : (outOf σ.E e.src).lookup e.dst = some e.val := by
  obtain ⟨b, hb⟩ := h.outk e he
  exact lookup_of_mem (h.outs _ hb).nodup (mem_outOf he)
theorem Store.in_lookup {w : World} {A : Ad} {σ : St} (h : Store w A σ) {e : EdgeR} (he : e ∈ σ.E) : (inOf σ.E e.dst).lookup e.src = some e.val := by
  obtain ⟨b, hb⟩ := h.ink e he
  exact lookup_of_mem (h.ins _ hb).nodup (mem_inOf he)

abbrev zero97 : Value := .agg #[.int .i64 0, .int .i64 0, .map none, .int .i64 0, .nilIface]

set_option maxRecDepth 100000 in
set_option maxHeartbeats 400000 in
theorem edge_yes {w : World} {A : Ad} {σ : St} {e : EdgeR} (h : Store w A σ) (he : e ∈ σ.E) :
    Calls Tryz.prog 147 #[.pointer (some ⟨A.s, 0, none⟩), kI e.src, kI e.dst] w fun r w' => r = .returned (.tuple #[e.val, .nilIface]) ∧ Ext No w w' := by
  obtain ⟨b, hb⟩ := h.outk e he
  have l1 := lookup_mem (f := fun v => .map (some v.2)) h.okeys hb
  have l2 := h.out_lookup he
  have hlt := h.lt
  have c2 := h.c2
  go_enter Tryz.func147, Tryz.ntmps147
  have hv1 := h.om.alloc (.cells #[.int .i64 0, .int .i64 0, .map none, .int .i64 0, .nilIface] 97)
  have hp1 := (h.outs _ hb).alloc (.cells #[.int .i64 0, .int .i64 0, .map none, .int .i64 0, .nilIface] 97)
  clear h hb he
  go_wp2_with (first | (at_lookup; (refine wpL_lookup_ok rfl rfl U105 K2 Z107 rfl rfl hv1 ?_); rw [l1]) | (at_lookup; (refine wpL_lookup_ok rfl rfl U107 K2 Z97 rfl rfl hp1 ?_); rw [l2]))
  refine bodyPost_ret (v := .tuple #[e.val, .nilIface]) (by simp [results, Tryz.results147, go_sem]) rfl ⟨rfl, ?_⟩
  repeat (first | exact Ext.refl _ _ | refine Ext.drew ?_ | refine Ext.alloc ?_ _ | refine Ext.setCell ?_ _ _ (fun h => absurd h (by simp)))

set_option maxRecDepth 100000 in
set_option maxHeartbeats 400000 in
theorem edge_no {w : World} {A : Ad} {σ : St} {a b : Int} {p : Nat → Addr} (h : Store w A σ) (hp : Sent w p) (he : ∀ e ∈ σ.E, ¬ (e.src = a ∧ e.dst = b)) :
    Calls Tryz.prog 147 #[.pointer (some ⟨A.s, 0, none⟩), kI a, kI b] w fun r w' => r = .returned (.tuple #[zero97, errv p 4]) ∧ Ext No w w' := by
  have hlt := h.lt
  have c2 := h.c2
  have e1 := hp.c4
  have hl1 : 4 < w.heap.size := World.block_lt_of_cell? w _ hp.c4
  by_cases hk : ∃ ob, (a, ob) ∈ σ.O
  · obtain ⟨ob, hb⟩ := hk
    have l1 := lookup_mem (f := fun v => .map (some v.2)) h.okeys hb
    have l2 := not_outOf he
    go_enter Tryz.func147, Tryz.ntmps147
    have hv1 := h.om.alloc (.cells #[.int .i64 0, .int .i64 0, .map none, .int .i64 0, .nilIface] 97)
    have hp1 := (h.outs _ hb).alloc (.cells #[.int .i64 0, .int .i64 0, .map none, .int .i64 0, .nilIface] 97)
    clear h hb he hp
    go_wp2_with (first | (at_lookup; (refine wpL_lookup_ok rfl rfl U105 K2 Z107 rfl rfl hv1 ?_); rw [l1]) | (at_lookup; (refine wpL_lookup_ok rfl rfl U107 K2 Z97 rfl rfl hp1 ?_); rw [l2]))
    go_region
    all_goals go_wp2
    refine bodyPost_ret (v := .tuple #[zero97, errv p 4]) (by simp [results, Tryz.results147, go_sem]) rfl ⟨rfl, ?_⟩
    repeat (first | exact Ext.refl _ _ | refine Ext.drew ?_ | refine Ext.alloc ?_ _ | refine Ext.setCell ?_ _ _ (fun h => absurd h (by simp)))
  · have l1 := lookup_not (f := fun v => .map (some v.2)) (fun b hb => hk ⟨b, hb⟩)
    go_enter Tryz.func147, Tryz.ntmps147
    have hv1 := h.om.alloc (.cells #[.int .i64 0, .int .i64 0, .map none, .int .i64 0, .nilIface] 97)
    clear h he hp hk
    go_wp2_with (first | (at_lookup; (refine wpL_lookup_ok rfl rfl U105 K2 Z107 rfl rfl hv1 ?_); rw [l1]))
    go_region
    all_goals go_wp2
    refine bodyPost_ret (v := .tuple #[zero97, errv p 4]) (by simp [results, Tryz.results147, go_sem]) rfl ⟨rfl, ?_⟩
    repeat (first | exact Ext.refl _ _ | refine Ext.drew ?_ | refine Ext.alloc ?_ _ | refine Ext.setCell ?_ _ _ (fun h => absurd h (by simp)))
end Go.Proofs.YtcenebjdhbdejaaGreatDoor
namespace Go.Proofs.YtcenebjdhbdejaaGreatDoor
open Go.MapKept

/-- a map in a block of the store's own is turned: the other blocks stay -/
theorem setA_new {m : List (Int × Value)} {k : Int} {v : Value} (h : m.lookup k = none) : setA k v m = m ++ [(k, v)] := by
  have : findA k m 0 = none := by
    cases hr : findA k m 0 with
    | none => rfl
    | some q => have := findA_lookup k m 0; rw [hr, h] at this; simp at this
  exact (findA_none (v' := v) this).2.1

theorem outOf_none {w : World} {A : Ad} {σ : St} (h : Store w A σ) {a : Int} (ha : ∀ b, (a, b) ∉ σ.O) : outOf σ.E a = [] := by
  unfold outOf
  rw [List.filter_eq_nil_iff.2]
  · rfl
  · intro e he hs
    obtain ⟨b, hb⟩ := h.outk e he
    rw [beq_iff_eq] at hs
    exact ha b (hs ▸ hb)
theorem inOf_none {w : World} {A : Ad} {σ : St} (h : Store w A σ) {a : Int} (ha : ∀ b, (a, b) ∉ σ.I) : inOf σ.E a = [] := by
  unfold inOf
  rw [List.filter_eq_nil_iff.2]
  · rfl
  · intro e he hs
    obtain ⟨b, hb⟩ := h.ink e he
    rw [beq_iff_eq] at hs
    exact ha b (hs ▸ hb)

/-- A new, empty inner map for the edges that go out of a. -/
theorem Store.addO {w w' : World} {A : Ad} {σ : St} {a : Int} {n : Nat} {S : Nat → Prop} (h : Store w A σ) (ha : ∀ b, (a, b) ∉ σ.O) (hn : ¬ σ.foot A n)
    (he : Ext S w w') (hS : ∀ c, σ.foot A c → S c → c = A.bo) (hm : MapI kI w' n [])
    (ho : MapI kI w' A.bo (setA a (.map (some n)) (σ.O.map fun o => (o.1, .map (some o.2))))) :
    Store w' A { σ with O := σ.O ++ [(a, n)] } := by
  rw [setA_new (lookup_not (f := fun v => .map (some v.2)) ha)] at ho
  have nd := h.nd
  have sub : ∀ c, c ∈ σ.blocks A → c ≠ A.bo → ¬ S c := fun c hc h1 hs => h1 (hS c (Or.inl hc) hs)
  have hO : ∀ o ∈ σ.O, o.2 ∈ σ.blocks A := fun o ho => by
    simp only [St.blocks, List.mem_cons, List.mem_append, List.mem_map]; right; right; right; right; right; left; exact ⟨o, ho, rfl⟩
  have hI : ∀ o ∈ σ.I, o.2 ∈ σ.blocks A := fun o ho => by
    simp only [St.blocks, List.mem_cons, List.mem_append, List.mem_map]; right; right; right; right; right; right; exact ⟨o, ho, rfl⟩
  have hnd : (({ σ with O := σ.O ++ [(a, n)] } : St).blocks A).Perm (n :: σ.blocks A) := by
    simp only [St.blocks, List.map_append, List.map_cons, List.map_nil, List.append_assoc]
    refine List.Perm.trans ?_ (List.Perm.swap _ _ _)
    refine List.Perm.cons _ (List.Perm.trans ?_ (List.Perm.swap _ _ _))
    refine List.Perm.cons _ (List.Perm.trans ?_ (List.Perm.swap _ _ _))
    refine List.Perm.cons _ (List.Perm.trans ?_ (List.Perm.swap _ _ _))
    refine List.Perm.cons _ (List.Perm.trans ?_ (List.Perm.swap _ _ _))
    refine List.Perm.cons _ ?_
    exact List.perm_middle
  have hnb : n ∉ σ.blocks A := fun hm => hn (Or.inl hm)
  simp only [St.blocks, List.nodup_cons, List.mem_cons, List.mem_append, not_or] at nd
  obtain ⟨⟨n1, n2, n3, n4, n5⟩, ⟨m1, m2, m3, m4⟩, ⟨q1, q2, q3⟩, ⟨r1, r2⟩, -⟩ := nd
  refine ⟨he.obj h.row (sub _ (by simp [St.blocks]) n3), h.vm.ext he (sub _ (by simp [St.blocks]) m2), h.pm.ext he (sub _ (by simp [St.blocks]) q1), by simpa using ho, h.im.ext he (sub _ (by simp [St.blocks]) (Ne.symm r1)), ?_, ?_, ?_, h.ink, h.ends, ?_, ?_, ?_⟩
  · intro o ho
    rcases List.mem_append.1 ho with ho | ho
    · exact (h.outs o ho).ext he (sub _ (hO o ho) (fun e => r2.1 (List.mem_map.2 ⟨o, ho, e⟩)))
    · simp only [List.mem_singleton] at ho
      subst ho
      show MapI kI w' n (outOf σ.E a)
      rw [outOf_none h ha]; exact hm
  · intro o ho
    exact (h.ins o ho).ext he (sub _ (hI o ho) (fun e => r2.2 (List.mem_map.2 ⟨o, ho, e⟩)))
  · intro e he
    obtain ⟨b, hb⟩ := h.outk e he
    exact ⟨b, List.mem_append_left _ hb⟩
  · intro b hb
    exact he.obj (h.att b hb) (fun hs => by
      have := hS b (Or.inr hb) hs
      exact h.apart b hb (by simp [St.blocks, this]))
  · exact hnd.nodup_iff.2 (List.nodup_cons.2 ⟨hnb, h.nd⟩)
  · intro b hb hm
    rcases List.mem_cons.1 (hnd.mem_iff.1 hm) with rfl | hm
    · exact hn (Or.inr hb)
    · exact h.apart b hb hm

/-- A new, empty inner map for the edges that come to a. -/
theorem Store.addI {w w' : World} {A : Ad} {σ : St} {a : Int} {n : Nat} {S : Nat → Prop} (h : Store w A σ) (ha : ∀ b, (a, b) ∉ σ.I) (hn : ¬ σ.foot A n)
    (he : Ext S w w') (hS : ∀ c, σ.foot A c → S c → c = A.bi) (hm : MapI kI w' n [])
    (ho : MapI kI w' A.bi (setA a (.map (some n)) (σ.I.map fun o => (o.1, .map (some o.2))))) :
    Store w' A { σ with I := σ.I ++ [(a, n)] } := by
  rw [setA_new (lookup_not (f := fun v => .map (some v.2)) ha)] at ho
  have nd := h.nd
  have sub : ∀ c, c ∈ σ.blocks A → c ≠ A.bi → ¬ S c := fun c hc h1 hs => h1 (hS c (Or.inl hc) hs)
  have hO : ∀ o ∈ σ.O, o.2 ∈ σ.blocks A := fun o ho => by
    simp only [St.blocks, List.mem_cons, List.mem_append, List.mem_map]; right; right; right; right; right; left; exact ⟨o, ho, rfl⟩
  have hI : ∀ o ∈ σ.I, o.2 ∈ σ.blocks A := fun o ho => by
    simp only [St.blocks, List.mem_cons, List.mem_append, List.mem_map]; right; right; right; right; right; right; exact ⟨o, ho, rfl⟩
  have hnd : (({ σ with I := σ.I ++ [(a, n)] } : St).blocks A).Perm (n :: σ.blocks A) := by
    simp only [St.blocks, List.map_append, List.map_cons, List.map_nil]
    refine List.Perm.trans ?_ (List.Perm.swap _ _ _)
    refine List.Perm.cons _ (List.Perm.trans ?_ (List.Perm.swap _ _ _))
    refine List.Perm.cons _ (List.Perm.trans ?_ (List.Perm.swap _ _ _))
    refine List.Perm.cons _ (List.Perm.trans ?_ (List.Perm.swap _ _ _))
    refine List.Perm.cons _ (List.Perm.trans ?_ (List.Perm.swap _ _ _))
    refine List.Perm.cons _ ?_
    rw [← List.append_assoc]
    exact List.perm_append_comm
  have hnb : n ∉ σ.blocks A := fun hm => hn (Or.inl hm)
  simp only [St.blocks, List.nodup_cons, List.mem_cons, List.mem_append, not_or] at nd
  obtain ⟨⟨n1, n2, n3, n4, n5⟩, ⟨m1, m2, m3, m4⟩, ⟨q1, q2, q3⟩, ⟨r1, r2⟩, ⟨u1, u2⟩, -⟩ := nd
  refine ⟨he.obj h.row (sub _ (by simp [St.blocks]) n4), h.vm.ext he (sub _ (by simp [St.blocks]) m3), h.pm.ext he (sub _ (by simp [St.blocks]) q2), h.om.ext he (sub _ (by simp [St.blocks]) r1), by simpa using ho, ?_, ?_, h.outk, ?_, h.ends, ?_, ?_, ?_⟩
  · intro o ho
    exact (h.outs o ho).ext he (sub _ (hO o ho) (fun e => u1 (List.mem_map.2 ⟨o, ho, e⟩)))
  · intro o ho
    rcases List.mem_append.1 ho with ho | ho
    · exact (h.ins o ho).ext he (sub _ (hI o ho) (fun e => u2 (List.mem_map.2 ⟨o, ho, e⟩)))
    · simp only [List.mem_singleton] at ho
      subst ho
      show MapI kI w' n (inOf σ.E a)
      rw [inOf_none h ha]; exact hm
  · intro e he
    obtain ⟨b, hb⟩ := h.ink e he
    exact ⟨b, List.mem_append_left _ hb⟩
  · intro b hb
    exact he.obj (h.att b hb) (fun hs => by
      have := hS b (Or.inr hb) hs
      exact h.apart b hb (by simp [St.blocks, this]))
  · exact hnd.nodup_iff.2 (List.nodup_cons.2 ⟨hnb, h.nd⟩)
  · intro b hb hm
    rcases List.mem_cons.1 (hnd.mem_iff.1 hm) with rfl | hm
    · exact hn (Or.inr hb)
    · exact h.apart b hb hm

theorem uniq_of {β γ : Type} (f : β → γ) : ∀ (l : List β), (l.map f).Nodup → ∀ x ∈ l, ∀ y ∈ l, f x = f y → x = y := by
  intro l hl
  induction l with
  | nil => intro x hx; simp at hx
  | cons z l ih =>
    simp only [List.map_cons, List.nodup_cons] at hl
    intro x hx y hy e
    rcases List.mem_cons.1 hx with h1 | h1 <;> rcases List.mem_cons.1 hy with h2 | h2
    · rw [h1, h2]
    · exact absurd (List.mem_map.2 ⟨y, h2, by rw [← e, h1]⟩) hl.1
    · exact absurd (List.mem_map.2 ⟨x, h1, by rw [e, h2]⟩) hl.1
    · exact ih hl.2 x h1 y h2 e

/-- The edges between a and b are turned: both inner maps that hold them. -/
theorem Store.turnE {w w' : World} {A : Ad} {σ : St} {a b : Int} {ob ib : Nat} {S : Nat → Prop} {E' : List EdgeR} (h : Store w A σ) (ha : (a, ob) ∈ σ.O) (hb : (b, ib) ∈ σ.I)
    (he : Ext S w w') (hS : ∀ c, σ.foot A c → S c → c = ob ∨ c = ib)
    (ho : MapI kI w' ob (outOf E' a)) (hi : MapI kI w' ib (inOf E' b))
    (hoo : ∀ x, x ≠ a → outOf E' x = outOf σ.E x) (hii : ∀ x, x ≠ b → inOf E' x = inOf σ.E x)
    (hE : ∀ e ∈ E', e ∈ σ.E ∨ (e.src = a ∧ e.dst = b ∧ (∃ n, (a, n) ∈ σ.V) ∧ (∃ n, (b, n) ∈ σ.V) ∧ e.att ∉ σ.blocks A ∧ w'.heap[e.att]? = some (.map #[] 0))) :
    Store w' A { σ with E := E' } := by
  have hO : ∀ o ∈ σ.O, o.2 ∈ σ.blocks A := fun o ho => by
    simp only [St.blocks, List.mem_cons, List.mem_append, List.mem_map]; right; right; right; right; right; left; exact ⟨o, ho, rfl⟩
  have hI : ∀ o ∈ σ.I, o.2 ∈ σ.blocks A := fun o ho => by
    simp only [St.blocks, List.mem_cons, List.mem_append, List.mem_map]; right; right; right; right; right; right; exact ⟨o, ho, rfl⟩
  have nd := h.nd
  simp only [St.blocks, List.nodup_cons, List.mem_cons, List.mem_append, not_or, List.nodup_append] at nd
  obtain ⟨⟨n1, n2, n3, n4, n5, n6⟩, ⟨m1, m2, m3, m4, m5⟩, ⟨q1, q2, q3, q4⟩, ⟨r1, r2, r3⟩, ⟨u1, u2⟩, t1, t2, t3⟩ := nd
  have iO : ∀ {x : Int} {n : Nat}, (x, n) ∈ σ.O → n ∈ σ.O.map (·.2) := fun hx => List.mem_map.2 ⟨_, hx, rfl⟩
  have iI : ∀ {x : Int} {n : Nat}, (x, n) ∈ σ.I → n ∈ σ.I.map (·.2) := fun hx => List.mem_map.2 ⟨_, hx, rfl⟩
  have sub : ∀ c, c ∈ σ.blocks A → c ≠ ob → c ≠ ib → ¬ S c := fun c hc h1 h2 hs => by
    rcases hS c (Or.inl hc) hs with e | e
    · exact h1 e
    · exact h2 e
  refine ⟨he.obj h.row (sub _ (by simp [St.blocks]) (fun e => n5 (e ▸ iO ha)) (fun e => n6 (e ▸ iI hb))),
    h.vm.ext he (sub _ (by simp [St.blocks]) (fun e => m4 (e ▸ iO ha)) (fun e => m5 (e ▸ iI hb))),
    h.pm.ext he (sub _ (by simp [St.blocks]) (fun e => q3 (e ▸ iO ha)) (fun e => q4 (e ▸ iI hb))),
    h.om.ext he (sub _ (by simp [St.blocks]) (fun e => r2 (e ▸ iO ha)) (fun e => r3 (e ▸ iI hb))),
    h.im.ext he (sub _ (by simp [St.blocks]) (fun e => u1 (e ▸ iO ha)) (fun e => u2 (e ▸ iI hb))), ?_, ?_, ?_, ?_, ?_, ?_, h.nd, ?_⟩
  · intro o hoM
    by_cases hx : o.1 = a
    · have : o = (a, ob) := by
        have hk := h.okeys
        exact uniq_of (·.1) _ hk o hoM _ ha hx
      subst this
      exact ho
    · show MapI kI w' o.2 (outOf E' o.1)
      rw [hoo o.1 hx]
      refine (h.outs o hoM).ext he (sub _ (hO o hoM) (fun e => hx ?_) (fun e => ?_))
      · have := uniq_of (·.2) σ.O t1 o hoM _ ha e
        rw [this]
      · exact t3 o.2 (List.mem_map.2 ⟨o, hoM, rfl⟩) ib (iI hb) e
  · intro o hoM
    by_cases hx : o.1 = b
    · have : o = (b, ib) := by
        have hk := h.ikeys
        exact uniq_of (·.1) _ hk o hoM _ hb hx
      subst this
      exact hi
    · show MapI kI w' o.2 (inOf E' o.1)
      rw [hii o.1 hx]
      refine (h.ins o hoM).ext he (sub _ (hI o hoM) (fun e => ?_) (fun e => hx ?_))
      · exact t3 ob (iO ha) o.2 (List.mem_map.2 ⟨o, hoM, rfl⟩) e.symm
      · have := uniq_of (·.2) σ.I t2 o hoM _ hb e
        rw [this]
  · intro e he'
    rcases hE e he' with h1 | ⟨rfl, -⟩
    · exact h.outk e h1
    · exact ⟨ob, ha⟩
  · intro e he'
    rcases hE e he' with h1 | ⟨-, rfl, -⟩
    · exact h.ink e h1
    · exact ⟨ib, hb⟩
  · intro e he'
    rcases hE e he' with h1 | ⟨rfl, rfl, h1, h2, -⟩
    · exact h.ends e h1
    · exact ⟨h1, h2⟩
  · intro c hc
    have old : ∀ c, c ∈ σ.atts → w'.heap[c]? = some (.map #[] 0) := fun c hc => he.obj (h.att c hc) (fun hs => by
      rcases hS c (Or.inr hc) hs with e | e
      · exact h.apart c hc (e ▸ hO _ ha)
      · exact h.apart c hc (e ▸ hI _ hb))
    rcases List.mem_append.1 hc with hc | hc
    · exact old c (List.mem_append_left _ hc)
    · obtain ⟨e, he', rfl⟩ := List.mem_map.1 hc
      rcases hE e he' with h1 | ⟨-, -, -, -, -, h1⟩
      · exact old _ (List.mem_append_right _ (List.mem_map.2 ⟨e, h1, rfl⟩))
      · exact h1
  · intro c hc hm
    rcases List.mem_append.1 hc with hc | hc
    · exact h.apart c (List.mem_append_left _ hc) hm
    · obtain ⟨e, he', rfl⟩ := List.mem_map.1 hc
      rcases hE e he' with h1 | ⟨-, -, -, -, h1, -⟩
      · exact h.apart _ (List.mem_append_right _ (List.mem_map.2 ⟨e, h1, rfl⟩)) hm
      · exact h1 hm
end Go.Proofs.YtcenebjdhbdejaaGreatDoor

namespace Go.Proofs.YtcenebjdhbdejaaGreatDoor
open Go.MapKept

theorem Store.blocks_lt {w : World} {A : Ad} {σ : St} (h : Store w A σ) : ∀ c ∈ σ.blocks A, c < w.heap.size := by
  intro c hc
  simp only [St.blocks, List.mem_cons, List.mem_append, List.mem_map] at hc
  rcases hc with rfl | rfl | rfl | rfl | rfl | ⟨o, ho, rfl⟩ | ⟨o, ho, rfl⟩
  · exact h.lt
  · exact h.vm.lt
  · exact h.pm.lt
  · exact h.om.lt
  · exact h.im.lt
  · exact (h.outs o ho).lt
  · exact (h.ins o ho).lt

/-- What the first half of AddEdge leaves: there is an inner map for the edges that go out of a. -/
def HalfO (A : Ad) (σ : St) (a : Int) (w0 wc : World) : Prop :=
  ∃ O' ob, (a, ob) ∈ O' ∧ Store wc A { σ with O := O' } ∧ Ext (· ∈ σ.blocks A) w0 wc ∧ ∀ c, c ∈ ({ σ with O := O' } : St).blocks A → c ∈ σ.blocks A ∨ w0.heap.size ≤ c

theorem HalfO.old {A : Ad} {σ : St} {a : Int} {w0 : World} {ob : Nat} (h : Store w0 A σ) (ha : (a, ob) ∈ σ.O) : HalfO A σ a w0 w0 :=
  ⟨σ.O, ob, ha, h, Ext.refl _ _, fun _ hc => Or.inl hc⟩

theorem HalfO.new {A : Ad} {σ : St} {a : Int} {w0 w1 : World} (h : Store w0 A σ) (ha : ∀ b, (a, b) ∉ σ.O)
    (hv : MapI kI w1 A.bo (setA a (.map (some w0.heap.size)) (σ.O.map fun o => (o.1, .map (some o.2))))) (ho : Only A.bo (w0.alloc (.map #[] 0)) w1) : HalfO A σ a w0 w1 := by
  have he : Ext (fun c => c = A.bo) w0 w1 := ((Ext.refl _ w0).alloc _).only ho (fun _ => rfl)
  have hlt := h.om.lt
  have hf : ¬ σ.foot A w0.heap.size := by
    intro hf
    have : w0.heap.size < w0.heap.size := by
      rcases hf with hf | hf
      · exact h.blocks_lt _ hf
      · exact (Array.getElem?_eq_some_iff.1 (h.att _ hf)).1
    omega
  refine ⟨σ.O ++ [(a, w0.heap.size)], w0.heap.size, by simp, h.addO ha hf he (fun c _ hc => hc) (MapI.empty (clk := 0) ?_) hv, he.mono ?_, ?_⟩
  · rw [ho.other _ (by omega)]; exact (heap_alloc w0 _).1
  · rintro c - rfl; simp [St.blocks]
  · intro c hc
    simp only [St.blocks, List.map_append, List.map_cons, List.map_nil, List.mem_cons, List.mem_append, List.not_mem_nil, or_false] at hc ⊢
    rcases hc with h | h | h | h | h | (h | h) | h
    · exact Or.inl (Or.inl h)
    · exact Or.inl (Or.inr (Or.inl h))
    · exact Or.inl (Or.inr (Or.inr (Or.inl h)))
    · exact Or.inl (Or.inr (Or.inr (Or.inr (Or.inl h))))
    · exact Or.inl (Or.inr (Or.inr (Or.inr (Or.inr (Or.inl h)))))
    · exact Or.inl (Or.inr (Or.inr (Or.inr (Or.inr (Or.inr (Or.inl h))))))
    · exact Or.inr (Nat.le_of_eq h.symm)
    · exact Or.inl (Or.inr (Or.inr (Or.inr (Or.inr (Or.inr (Or.inr h))))))

/-- What the second half of AddEdge leaves: there is an inner map for the edges that come to a. -/
def HalfI (A : Ad) (σ : St) (a : Int) (w0 wc : World) : Prop :=
  ∃ I' ib, (a, ib) ∈ I' ∧ Store wc A { σ with I := I' } ∧ Ext (· ∈ σ.blocks A) w0 wc ∧ ∀ c, c ∈ ({ σ with I := I' } : St).blocks A → c ∈ σ.blocks A ∨ w0.heap.size ≤ c

theorem HalfI.old {A : Ad} {σ : St} {a : Int} {w0 : World} {ib : Nat} (h : Store w0 A σ) (ha : (a, ib) ∈ σ.I) : HalfI A σ a w0 w0 :=
  ⟨σ.I, ib, ha, h, Ext.refl _ _, fun _ hc => Or.inl hc⟩

theorem HalfI.new {A : Ad} {σ : St} {a : Int} {w0 w1 : World} (h : Store w0 A σ) (ha : ∀ b, (a, b) ∉ σ.I)
    (hv : MapI kI w1 A.bi (setA a (.map (some w0.heap.size)) (σ.I.map fun o => (o.1, .map (some o.2))))) (ho : Only A.bi (w0.alloc (.map #[] 0)) w1) : HalfI A σ a w0 w1 := by
  have he : Ext (fun c => c = A.bi) w0 w1 := ((Ext.refl _ w0).alloc _).only ho (fun _ => rfl)
  have hlt := h.im.lt
  have hf : ¬ σ.foot A w0.heap.size := by
    intro hf
    have : w0.heap.size < w0.heap.size := by
      rcases hf with hf | hf
      · exact h.blocks_lt _ hf
      · exact (Array.getElem?_eq_some_iff.1 (h.att _ hf)).1
    omega
  refine ⟨σ.I ++ [(a, w0.heap.size)], w0.heap.size, by simp, h.addI ha hf he (fun c _ hc => hc) (MapI.empty (clk := 0) ?_) hv, he.mono ?_, ?_⟩
  · rw [ho.other _ (by omega)]; exact (heap_alloc w0 _).1
  · rintro c - rfl; simp [St.blocks]
  · intro c hc
    simp only [St.blocks, List.map_append, List.map_cons, List.map_nil, List.mem_cons, List.mem_append, List.not_mem_nil, or_false] at hc ⊢
    rcases hc with h | h | h | h | h | h | h | h
    · exact Or.inl (Or.inl h)
    · exact Or.inl (Or.inr (Or.inl h))
    · exact Or.inl (Or.inr (Or.inr (Or.inl h)))
    · exact Or.inl (Or.inr (Or.inr (Or.inr (Or.inl h))))
    · exact Or.inl (Or.inr (Or.inr (Or.inr (Or.inr (Or.inl h)))))
    · exact Or.inl (Or.inr (Or.inr (Or.inr (Or.inr (Or.inr (Or.inl h))))))
    · exact Or.inl (Or.inr (Or.inr (Or.inr (Or.inr (Or.inr (Or.inr h))))))
    · exact Or.inr (Nat.le_of_eq h.symm)

/-- The world in which block x has not yet been turned. -/
theorem revert {w w' : World} {x : Nat} {T : Nat → Prop} {o : Obj} (hx : w.heap[x]? = some o) (h : Ext (fun c => c = x ∨ T c) w w') :
    ∃ wv, Ext T w wv ∧ Ext (fun c => c = x) wv w' ∧ wv.heap.size = w'.heap.size ∧ ∀ c : Nat, c ≠ x → wv.heap[c]? = w'.heap[c]? := by
  have hlt : x < w.heap.size := (Array.getElem?_eq_some_iff.1 hx).1
  have hlt' : x < w'.heap.size := Nat.lt_of_lt_of_le hlt h.size
  refine ⟨{ w' with heap := w'.heap.setIfInBounds x o }, ⟨by simpa using h.size, ?_, h.os, h.out⟩, ⟨by simp, ?_, rfl, rfl⟩, by simp, ?_⟩
  · intro c hc hT
    by_cases e : c = x
    · subst e; simp [hlt', hx]
    · show (w'.heap.setIfInBounds x o)[c]? = _
      rw [Array.getElem?_setIfInBounds_ne (Ne.symm e)]
      exact h.same c hc (by rintro (h | h) <;> contradiction)
  · intro c hc e
    show _ = (w'.heap.setIfInBounds x o)[c]?
    rw [Array.getElem?_setIfInBounds_ne (Ne.symm e)]
  · intro c e
    show (w'.heap.setIfInBounds x o)[c]? = _
    rw [Array.getElem?_setIfInBounds_ne (Ne.symm e)]

/-- What stands between the halves: the first inner map has the edge already. -/
def Half2 (A : Ad) (σ : St) (b : Int) (ob : Nat) (M : List (Int × Value)) (wc w4 : World) : Prop :=
  ∃ wv, HalfI A σ b wc wv ∧ Ext (fun c => c = ob) wv w4 ∧ MapI kI w4 ob M ∧ wv.heap.size = w4.heap.size ∧ ∀ c : Nat, c ≠ ob → wv.heap[c]? = w4.heap[c]?

theorem outOf_snoc (E : List EdgeR) (e : EdgeR) : outOf (E ++ [e]) e.src = outOf E e.src ++ [(e.dst, e.val)] := by simp [outOf]
theorem inOf_snoc (E : List EdgeR) (e : EdgeR) : inOf (E ++ [e]) e.dst = inOf E e.dst ++ [(e.src, e.val)] := by simp [inOf]
theorem outOf_snoc_ne (E : List EdgeR) (e : EdgeR) {x : Int} (h : x ≠ e.src) : outOf (E ++ [e]) x = outOf E x := by
  have : (e.src == x) = false := by simp [Ne.symm h]
  simp [outOf, this]
theorem inOf_snoc_ne (E : List EdgeR) (e : EdgeR) {x : Int} (h : x ≠ e.dst) : inOf (E ++ [e]) x = inOf E x := by
  have : (e.dst == x) = false := by simp [Ne.symm h]
  simp [inOf, this]

/-- What AddEdge leaves. -/
def AddedE (A : Ad) (σ : St) (e : EdgeR) (w w' : World) : Prop :=
  ∃ O' I', Store w' A { V := σ.V, E := σ.E ++ [e], O := O', I := I' } ∧ Ext (· ∈ σ.blocks A) w w' ∧
    ∀ c, c ∈ ({ V := σ.V, E := σ.E ++ [e], O := O', I := I' } : St).blocks A → c ∈ σ.blocks A ∨ w.heap.size ≤ c

theorem St.mem_O {σ : St} {A : Ad} {x : Int} {n : Nat} (h : (x, n) ∈ σ.O) : n ∈ σ.blocks A := by
  simp only [St.blocks, List.mem_cons, List.mem_append, List.mem_map]; right; right; right; right; right; left; exact ⟨_, h, rfl⟩
theorem St.mem_I {σ : St} {A : Ad} {x : Int} {n : Nat} (h : (x, n) ∈ σ.I) : n ∈ σ.blocks A := by
  simp only [St.blocks, List.mem_cons, List.mem_append, List.mem_map]; right; right; right; right; right; right; exact ⟨_, h, rfl⟩
theorem Store.ne_O {w : World} {A : Ad} {σ : St} (h : Store w A σ) {x : Int} {n : Nat} (hm : (x, n) ∈ σ.O) : n ≠ A.s ∧ n ≠ A.bv ∧ n ≠ A.bp ∧ n ≠ A.bo ∧ n ≠ A.bi := by
  have nd := h.nd
  have hn : n ∈ σ.O.map (·.2) := List.mem_map.2 ⟨_, hm, rfl⟩
  simp only [St.blocks, List.nodup_cons, List.mem_cons, List.mem_append, not_or] at nd
  exact ⟨fun e => nd.1.2.2.2.2.1 (e ▸ hn), fun e => nd.2.1.2.2.2.1 (e ▸ hn), fun e => nd.2.2.1.2.2.1 (e ▸ hn), fun e => nd.2.2.2.1.2.1 (e ▸ hn), fun e => nd.2.2.2.2.1.1 (e ▸ hn)⟩
theorem Store.ne_I {w : World} {A : Ad} {σ : St} (h : Store w A σ) {x : Int} {n : Nat} (hm : (x, n) ∈ σ.I) : n ≠ A.s ∧ n ≠ A.bv ∧ n ≠ A.bp ∧ n ≠ A.bo ∧ n ≠ A.bi := by
  have nd := h.nd
  have hn : n ∈ σ.I.map (·.2) := List.mem_map.2 ⟨_, hm, rfl⟩
  simp only [St.blocks, List.nodup_cons, List.mem_cons, List.mem_append, not_or] at nd
  exact ⟨fun e => nd.1.2.2.2.2.2 (e ▸ hn), fun e => nd.2.1.2.2.2.2 (e ▸ hn), fun e => nd.2.2.1.2.2.2 (e ▸ hn), fun e => nd.2.2.2.1.2.2 (e ▸ hn), fun e => nd.2.2.2.2.1.2 (e ▸ hn)⟩
theorem Store.ne_OI {w : World} {A : Ad} {σ : St} (h : Store w A σ) {x y : Int} {n m : Nat} (hm : (x, n) ∈ σ.O) (hn : (y, m) ∈ σ.I) : n ≠ m := by
  have nd := h.nd
  simp only [St.blocks, List.nodup_cons, List.nodup_append] at nd
  exact nd.2.2.2.2.2.2.2 n (List.mem_map.2 ⟨_, hm, rfl⟩) m (List.mem_map.2 ⟨_, hn, rfl⟩)

theorem HalfI.drew {A : Ad} {σ : St} {b : Int} {w w1 : World} (h : HalfI A σ b w w1) : HalfI A σ b w w1.drew := by
  obtain ⟨I', ib, h1, h2, h3, h4⟩ := h
  exact ⟨I', ib, h1, h2.ext ((Ext.refl No w1).drew) (fun _ _ => id), h3.drew, h4⟩

theorem Half2.old {A : Ad} {σ : St} {b : Int} {ob ib : Nat} {M : List (Int × Value)} {wc w3 : World} (h : Store wc A σ) (hb : (b, ib) ∈ σ.I) (hm : MapI kI w3 ob M) (ho : Only ob wc.drew w3) : Half2 A σ b ob M wc w3 :=
  ⟨wc.drew, HalfI.drew (HalfI.old h hb), ⟨Nat.le_of_eq ho.size.symm, fun c _ hc => ho.other c hc, ho.os, ho.out⟩, hm, ho.size.symm, fun c hc => (ho.other c hc).symm⟩

theorem Half2.new {A : Ad} {σ : St} {b a : Int} {ob : Nat} {M : List (Int × Value)} {wc w3 w4 : World} (h : Store wc A σ) (hb : ∀ n, (b, n) ∉ σ.I) (hO : (a, ob) ∈ σ.O) (hm : MapI kI w3 ob M) (ho : Only ob wc.drew w3)
    (hi : MapI kI w4 A.bi (setA b (.map (some w3.heap.size)) (σ.I.map fun o => (o.1, .map (some o.2))))) (h4 : Only A.bi (w3.alloc (.map #[] 0)) w4) : Half2 A σ b ob M wc w4 := by
  have hsz : w3.heap.size = wc.heap.size := ho.size
  have nb := h.ne_O hO
  have holt := (h.outs _ hO).lt
  have e3 : Ext (fun c => c = ob ∨ c = A.bi) wc w4 := ((((Ext.refl _ wc).drew).only ho (fun _ => Or.inl rfl)).alloc _).only h4 (fun _ => Or.inr rfl)
  obtain ⟨⟨es, clk, ho1, -⟩, -⟩ := h.outs _ hO
  obtain ⟨wv, v1, v2, v3, v4⟩ := revert ho1 e3
  have hsz4 : w4.heap.size = wc.heap.size + 1 := by rw [h4.size, World.size_alloc, hsz]
  refine ⟨wv, ?_, v2, hm.of_same ?_, v3, v4⟩
  · have hi' : MapI kI wv A.bi (setA b (.map (some wc.heap.size)) (σ.I.map fun o => (o.1, .map (some o.2)))) := by
      rw [← hsz]; exact hi.of_same (v4 _ nb.2.2.2.2.symm)
    have hnew : wv.heap[wc.heap.size]? = some (.map #[] 0) := by
      have hbi := h.im.lt
      rw [v4 _ (by omega), h4.other _ (by omega), ← hsz]; exact (heap_alloc w3 _).1
    have hlt := h.im.lt
    have hf : ¬ σ.foot A wc.heap.size := by
      intro hf
      have : wc.heap.size < wc.heap.size := by
        rcases hf with hf | hf
        · exact h.blocks_lt _ hf
        · exact (Array.getElem?_eq_some_iff.1 (h.att _ hf)).1
      omega
    refine ⟨σ.I ++ [(b, wc.heap.size)], wc.heap.size, by simp, h.addI hb hf v1 (fun c _ hc => hc) (MapI.empty hnew) hi', v1.mono ?_, ?_⟩
    · rintro c - rfl; simp [St.blocks]
    · intro c hc
      simp only [St.blocks, List.map_append, List.map_cons, List.map_nil, List.mem_cons, List.mem_append, List.not_mem_nil, or_false] at hc ⊢
      rcases hc with h | h | h | h | h | h | h | h
      · exact Or.inl (Or.inl h)
      · exact Or.inl (Or.inr (Or.inl h))
      · exact Or.inl (Or.inr (Or.inr (Or.inl h)))
      · exact Or.inl (Or.inr (Or.inr (Or.inr (Or.inl h))))
      · exact Or.inl (Or.inr (Or.inr (Or.inr (Or.inr (Or.inl h)))))
      · exact Or.inl (Or.inr (Or.inr (Or.inr (Or.inr (Or.inr (Or.inl h))))))
      · exact Or.inl (Or.inr (Or.inr (Or.inr (Or.inr (Or.inr (Or.inr h))))))
      · exact Or.inr (Nat.le_of_eq h.symm)
  · have := h4.other ob nb.2.2.2.2
    rw [this, (heap_alloc w3 _).2 ob (by rw [hsz]; exact holt)]

set_option maxRecDepth 100000 in
set_option maxHeartbeats 400000 in
theorem store_addEdge {w : World} {A : Ad} {σ : St} {e : EdgeR} (h : Store w A σ) (hs : ∃ n, (e.src, n) ∈ σ.V) (hd : ∃ n, (e.dst, n) ∈ σ.V)
    (hne : ∀ e' ∈ σ.E, ¬ (e'.src = e.src ∧ e'.dst = e.dst)) (hat : w.heap[e.att]? = some (.map #[] 0)) (ha : e.att ∉ σ.blocks A) :
    Calls Tryz.prog 144 #[.pointer (some ⟨A.s, 0, none⟩), kI e.src, kI e.dst, e.val] w fun r w' => r = .returned .nilIface ∧ AddedE A σ e w w' := by
  have hlt := h.lt
  have c2 := h.c2
  have c3 := h.c3
  go_enter Tryz.func144, Tryz.ntmps144
  have h1 : Store (w.alloc (.cells #[kI e.src, kI e.dst, .map (some e.att), .int .i64 e.wt, .nilIface] 97)) A σ := h.ext ((Ext.refl No w).alloc _) (fun _ _ => id)
  have hv1 := h1.om
  have H := Lib.hid h1
  have hbox : ∀ c ∈ σ.blocks A, w.heap.size = c → False := fun c hc e => by have := h.blocks_lt c hc; omega
  have H0 := Lib.hid (And.intro h (And.intro hs (And.intro hd (And.intro hne hat))))
  clear h1 h hs hd hne hat
  go_upto_if 23 with (first | (at_lookup; (refine wpL_lookup_ok rfl rfl U105 K2 Z107 rfl rfl hv1 ?_)))
  go_cut [9, 10] from 13 (fun _ _ wc => HalfO A σ e.src (w.alloc (.cells #[kI e.src, kI e.dst, .map (some e.att), .int .i64 e.wt, .nilIface] 97)) wc)
  case first =>
    by_cases hk : ∃ ob, (e.src, ob) ∈ σ.O
    · obtain ⟨ob, hb⟩ := hk
      have l1 := lookup_mem (f := fun v => .map (some v.2)) H.out.okeys hb
      rw [l1]
      go_wp2
      go_meet
      case rel => exact HalfO.old H.out hb
    · have l1 := lookup_not (f := fun v => .map (some v.2)) (fun b hb => hk ⟨b, hb⟩)
      rw [l1]
      have hmm := makeMapR Tryz.prog
      have hv2 := hv1.alloc (.map #[] 0)
      have hnb : A.bo < w.heap.size + 1 := by have := hv1.lt; simpa using this
      go_wp2_with (first | (at_mapUpdate; (refine wpL_mapUpdate rfl rfl U105 K2 rfl rfl (.map (some (w.heap.size + 1))) rfl hv2 ?_); intro w1 hv3 ho1))
      go_meet
      case rel => exact HalfO.new H.out (fun b hb => hk ⟨b, hb⟩) (by simpa using hv3) (by simpa using ho1)
  case rest =>
    obtain ⟨O', ob, hO, hS2, hE2, hB2⟩ := hcut
    have c2' := hS2.c2
    have b0 : wc.cell? ⟨w.heap.size, 0, none⟩ = some (kI e.src) := hE2.cellv (by simp) (fun hm => hbox _ hm rfl)
    have b1 : wc.cell? ⟨w.heap.size, 1, none⟩ = some (kI e.dst) := hE2.cellv (by simp) (fun hm => hbox _ hm rfl)
    have b2 : wc.cell? ⟨w.heap.size, 2, none⟩ = some (.map (some e.att)) := hE2.cellv (by simp) (fun hm => hbox _ hm rfl)
    have b3 : wc.cell? ⟨w.heap.size, 3, none⟩ = some (.int .i64 e.wt) := hE2.cellv (by simp) (fun hm => hbox _ hm rfl)
    have b4 : wc.cell? ⟨w.heap.size, 4, none⟩ = some .nilIface := hE2.cellv (by simp) (fun hm => hbox _ hm rfl)
    have l1 := lookup_mem (f := fun v => .map (some v.2)) hS2.okeys hO
    have hl : (Instr.lookup 105 (.map (some A.bo)) (.int .i64 e.src) false).run Tryz.prog wc.drew = .ok (.map (some ob)) wc.drew := by
      rw [run_lookup (P := Tryz.prog) e.src U105 K2 hS2.om.drew (Z107 _), l1]; rfl
    have nb := hS2.ne_O hO
    have hw : ob ≠ w.heap.size := by
      intro e
      rcases hB2 ob (St.mem_O (σ := { σ with O := O' }) hO) with h | h
      · exact hbox ob h e.symm
      · simp at h; omega
    have HS2 := Lib.hid hS2
    have hout := (hS2.outs _ hO).drew
    have him := hS2.im.drew
    have c3' := hS2.c3
    clear hS2
    go_upto_region 4 with (fail)
    go_still_tail 8, (by kernel_rfl)
    refine wpL_mapUpdate rfl rfl U107 K2 rfl rfl e.val rfl hout ?_
    intro w3 hm3 ho3
    have hi3 := ho3.mapI nb.2.2.2.2.symm him
    have c3'' : w3.cell? ⟨A.s, 3, none⟩ = some (.map (some A.bi)) := by rw [ho3.cell _ (by simpa using nb.1.symm)]; exact c3'
    have b0' : w3.cell? ⟨w.heap.size, 0, none⟩ = some (kI e.src) := by rw [ho3.cell _ (by simpa using hw.symm)]; exact b0
    have b1' : w3.cell? ⟨w.heap.size, 1, none⟩ = some (kI e.dst) := by rw [ho3.cell _ (by simpa using hw.symm)]; exact b1
    have b2' : w3.cell? ⟨w.heap.size, 2, none⟩ = some (.map (some e.att)) := by rw [ho3.cell _ (by simpa using hw.symm)]; exact b2
    have b3' : w3.cell? ⟨w.heap.size, 3, none⟩ = some (.int .i64 e.wt) := by rw [ho3.cell _ (by simpa using hw.symm)]; exact b3
    have b4' : w3.cell? ⟨w.heap.size, 4, none⟩ = some .nilIface := by rw [ho3.cell _ (by simpa using hw.symm)]; exact b4
    have HX := Lib.hid (And.intro b0' (And.intro b1' (And.intro b2' (And.intro b3' b4'))))
    have HO3 := Lib.hid (And.intro hm3 ho3)
    have hsz3 : wc.heap.size = w3.heap.size := ho3.size.symm
    have HZ := Lib.hid hsz3
    clear b0 b1 b2 b3 b4 b0' b1' b2' b3' b4' hm3 ho3 hl l1 hout him c2' c3' hsz3
    go_upto_if 48 with (first | (at_lookup; (refine wpL_lookup_ok rfl rfl U105 K2 Z107 rfl rfl hi3 ?_)))
    obtain ⟨w2, rfl⟩ : ∃ w2 : World, w2 = wc := ⟨_, rfl⟩
    go_cut [11, 12] from 38 (fun _ _ w4 => Half2 A { σ with O := O' } e.dst ob (setA e.dst e.val (outOf σ.E e.src)) w2 w4)
    case first =>
      by_cases hk : ∃ ib, (e.dst, ib) ∈ σ.I
      · obtain ⟨ib, hb⟩ := hk
        have l1 := lookup_mem (f := fun v => .map (some v.2)) HS2.out.ikeys hb
        rw [l1]
        go_wp2
        go_meet
        case rel => exact Half2.old HS2.out hb HO3.out.1 HO3.out.2
      · have l1 := lookup_not (f := fun v => .map (some v.2)) (fun b hb => hk ⟨b, hb⟩)
        rw [l1]
        have hmm := makeMapR Tryz.prog
        have hi4 := hi3.alloc (.map #[] 0)
        have hnb : A.bi < w3.heap.size := hi3.lt
        go_wp2_with (first | (at_mapUpdate; (refine wpL_mapUpdate rfl rfl U105 K2 rfl rfl (.map (some w3.heap.size)) rfl hi4 ?_); intro w4 hi5 ho4))
        go_meet
        case rel => exact Half2.new HS2.out (fun b hb => hk ⟨b, hb⟩) hO HO3.out.1 HO3.out.2 hi5 ho4
    case rest =>
      obtain ⟨wv, ⟨I', ib, hI, hSv, hEv, hBv⟩, hv4, hm4, hsz4, hsame⟩ := hcut
      have nbi := hSv.ne_I hI
      have noi : ob ≠ ib := hSv.ne_OI (σ := { V := σ.V, E := σ.E, O := O', I := I' }) hO hI
      have hib : ib ≠ w.heap.size := by
        intro e'
        have hz := HZ.out
        rcases hBv ib (St.mem_I (σ := { V := σ.V, E := σ.E, O := O', I := I' }) hI) with h | h
        · rcases hB2 ib h with h | h
          · exact hbox ib h e'.symm
          · simp at h; omega
        · have := hE2.size; simp at this; omega
      have hnb2 : w.heap.size ∉ ({ σ with O := O' } : St).blocks A := by
        intro hm
        rcases hB2 _ hm with h | h
        · exact hbox _ h rfl
        · exact absurd h (by rw [World.size_alloc]; omega)
      have ea : Ext (fun c => c ∈ σ.blocks A ∨ c ∈ ({ σ with O := O' } : St).blocks A ∨ c = ob) (w.alloc (.cells #[kI e.src, kI e.dst, .map (some e.att), .int .i64 e.wt, .nilIface] 97)) wc :=
        ((hE2.mono (fun _ _ h => Or.inl h)).trans (hEv.mono (fun _ _ h => Or.inr (Or.inl h)))).trans (hv4.mono (fun _ _ h => Or.inr (Or.inr h)))
      have hno : ¬ (w.heap.size ∈ σ.blocks A ∨ w.heap.size ∈ ({ σ with O := O' } : St).blocks A ∨ w.heap.size = ob) := by
        rintro (h | h | h)
        · exact hbox _ h rfl
        · exact hnb2 h
        · exact hw h.symm
      have b0 : wc.cell? ⟨w.heap.size, 0, none⟩ = some (kI e.src) := ea.cellv (by simp) hno
      have b1 : wc.cell? ⟨w.heap.size, 1, none⟩ = some (kI e.dst) := ea.cellv (by simp) hno
      have b2 : wc.cell? ⟨w.heap.size, 2, none⟩ = some (.map (some e.att)) := ea.cellv (by simp) hno
      have b3 : wc.cell? ⟨w.heap.size, 3, none⟩ = some (.int .i64 e.wt) := ea.cellv (by simp) hno
      have b4 : wc.cell? ⟨w.heap.size, 4, none⟩ = some .nilIface := ea.cellv (by simp) hno
      have c3w : wc.cell? ⟨A.s, 3, none⟩ = some (.map (some A.bi)) := hv4.cellv hSv.c3 nb.1.symm
      have him4 : MapI kI wc A.bi (I'.map fun o => (o.1, .map (some o.2))) := hSv.im.of_same (hsame _ nb.2.2.2.2.symm).symm
      have hin4 : MapI kI wc.drew ib (inOf σ.E e.dst) := ((hSv.ins _ hI).of_same (hsame _ (Ne.symm noi)).symm).drew
      have l1 := lookup_mem (f := fun v => .map (some v.2)) hSv.ikeys hI
      have hl : (Instr.lookup 105 (.map (some A.bi)) (.int .i64 e.dst) false).run Tryz.prog wc.drew = .ok (.map (some ib)) wc.drew := by
        rw [run_lookup (P := Tryz.prog) e.dst U105 K2 him4.drew (Z107 _), l1]; rfl
      have HF := Lib.hid (And.intro hSv (And.intro hEv (And.intro hBv (And.intro hv4 (And.intro hm4 (And.intro hsz4 (And.intro hsame ea)))))))
      clear hSv hEv hBv hv4 hm4 hsz4 hsame ea hno him4 l1
      go_upto_region 8 with (fail)
      go_still_tail 8, (by kernel_rfl)
      refine wpL_mapUpdate rfl rfl U107 K2 rfl rfl e.val rfl hin4 ?_
      intro w5 hm5 ho5
      clear hl b0 b1 b2 b3 b4 c3w hin4
      go_wp2
      go_ret
      obtain ⟨hSv, hEv, hBv, hv4, hm4, hsz4, hsame, ea⟩ := HF.out
      obtain ⟨h, hs, hd, hne, hat⟩ := H0.out
      have hz := HZ.out
      have hsz2 : w.heap.size + 1 ≤ w2.heap.size := by have := hE2.size; rwa [World.size_alloc] at this
      have lo : ∀ c, c < w.heap.size → c ∈ ({ σ with O := O' } : St).blocks A → c ∈ σ.blocks A := fun c hc hm => by
        rcases hB2 c hm with h | h
        · exact h
        · rw [World.size_alloc] at h; omega
      have li : ∀ c, c < w.heap.size → c ∈ ({ V := σ.V, E := σ.E, O := O', I := I' } : St).blocks A → c ∈ σ.blocks A := fun c hc hm => by
        rcases hBv c hm with h | h
        · exact lo c hc h
        · omega
      have hob : ob ∈ ({ σ with O := O' } : St).blocks A := St.mem_O (σ := { σ with O := O' }) hO
      have hibm : ib ∈ ({ V := σ.V, E := σ.E, O := O', I := I' } : St).blocks A := St.mem_I (σ := { V := σ.V, E := σ.E, O := O', I := I' }) hI
      have e2 : Ext (· ∈ σ.blocks A) w w5 := by
        refine Ext.only (w' := wc.drew) (Ext.drew ?_) ho5 (fun hlt => li _ hlt hibm)
        refine ((Ext.refl _ w).alloc _).then ea ?_
        rintro c hc (h | h | h)
        · exact h
        · exact lo c hc h
        · subst h; exact lo _ hc hob
      have halt : e.att < w.heap.size := (Array.getElem?_eq_some_iff.1 hat).1
      have hne' : ∀ e' ∈ σ.E, ¬ (e'.src = e.src ∧ e'.dst = e.dst) := hne
      have m1 : setA e.dst e.val (outOf σ.E e.src) = outOf (σ.E ++ [e]) e.src := by rw [setA_new (not_outOf hne'), outOf_snoc]
      have m2 : setA e.src e.val (inOf σ.E e.dst) = inOf (σ.E ++ [e]) e.dst := by rw [setA_new (not_inOf hne'), inOf_snoc]
      refine ⟨rfl, O', I', ?_, e2, ?_⟩
      · refine hSv.turnE hO hI (S := fun c => c = ob ∨ c = ib) (((hv4.mono (fun _ _ h => Or.inl h)).drew).only ho5 (fun _ => Or.inr rfl)) (fun _ _ h => h) ?_ ?_ (fun x hx => outOf_snoc_ne _ _ hx) (fun x hx => inOf_snoc_ne _ _ hx) ?_
        · rw [← m1]; exact ho5.mapI noi hm4.drew
        · rw [← m2]; exact hm5
        · intro e' he'
          rcases List.mem_append.1 he' with h1 | h1
          · exact Or.inl h1
          · simp only [List.mem_singleton] at h1
            subst h1
            exact Or.inr ⟨rfl, rfl, hs, hd, fun hm => ha (li _ halt hm), e2.obj hat ha⟩
      · intro c hc
        rcases hBv c hc with h | h
        · rcases hB2 c h with h | h
          · exact Or.inl h
          · rw [World.size_alloc] at h; exact Or.inr (by omega)
        · exact Or.inr (by omega)
end Go.Proofs.YtcenebjdhbdejaaGreatDoor

namespace Go.Proofs.YtcenebjdhbdejaaGreatDoor
open Go.MapKept

theorem U26 : Tryz.prog.underlying 26 = some (.slice 2) := by kernel_rfl
theorem I2 : (Tryz.prog.info? 2).map (fun i => (i.zero, i.size, i.bytes)) = some (some (.int .i64 0), 1, 8) := by kernel_rfl
theorem U120 : Tryz.prog.underlying 120 = some (.slice 97) := by kernel_rfl
theorem I97 : (Tryz.prog.info? 97).map (fun i => (i.zero, i.size, i.bytes)) = some (some (.agg #[.int .i64 0, .int .i64 0, .map none, .int .i64 0, .nilIface]), 5, 48) := by kernel_rfl

/-- The keys collected so far. -/
def LV (w : World) (M : List (Int × Value)) (bv r : Nat) (k : Nat) (v : Value) (wr : World) : Prop :=
  ∃ (done left : List (Int × Value)) (cur : Option (Int × Value)), left.length = k ∧ (done ++ left).Perm M ∧ IterI kI wr r bv M left cur ∧ wr.ownsRow w.heap.size 2 1 v done.length (done.flatMap fun p => [kI p.1]) ∧ Ext No w wr

/-- What ListVertices leaves. -/
def Listed (σ : St) (w : World) (r : Ending) (w' : World) : Prop :=
  ∃ (v : Value) (l : List Int), r = .returned (.tuple #[v, .nilIface]) ∧ l.Perm (σ.V.map (·.1)) ∧ w'.ownsRow w.heap.size 2 1 v l.length (l.flatMap fun k => [kI k]) ∧ Ext No w w'

set_option maxRecDepth 100000 in
set_option maxHeartbeats 400000 in
theorem listVertices {w : World} {A : Ad} {σ : St} (h : Store w A σ) (hN : σ.V.length < 1000000) :
    Calls Tryz.prog 149 #[.pointer (some ⟨A.s, 0, none⟩)] w (Listed σ w) := by
  have hlt := h.lt
  have c0 := h.c0
  have hv := h.vm
  go_enter Tryz.func149, Tryz.ntmps149
  have H := Lib.hid h
  clear h
  go_wp2_with (first | (at_len; refine wpL_len rfl rfl U146 rfl hv ?_; simp only [List.length_map]) | (at_make; (refine wpL_make0 rfl rfl U26 I2 rfl (n := σ.V.length) rfl hN (by decide) (Nat.le_refl _) ?_); intro w1 ho1 he1; have hv1 := hv.ext he1 (fun h => h); have c01 := he1.cellv c0 (fun h => h); have hs1 := he1.size) | (at_range; (refine wpL_range rfl rfl U146 rfl hv1 ?_); intro w2 hI2 hs2 he2; have ho2 := ownsRow_ext ho1 he2 (fun _ _ h => h); have he3 := he1.trans he2))
  go_frame
  clear hv hv1 c0 c01 ho1 he1 he2
  go_loopg [4] σ.V.length (fun k v wr => LV w (σ.V.map fun v => (v.1, kI v.1)) A.bv w1.heap.size k v wr)
  case atStart => exact ⟨[], _, _, by simp, by simp, hI2, ho2, he3⟩
  case round =>
    obtain ⟨done, left, cur, hl, hperm, hI, ho, he⟩ := hrel
    clear hI2 ho2 he3 hs2
    have hb : ∀ c, u4.ownBlock = some c → w.heap.size ≤ c := fun c hc => (ho.lt c hc).1
    have hnr := (hI.not_row ho).1
    have HL := Lib.hid hl
    have hdl : done.length < 1000000 := by have := hperm.length_eq; simp at this; omega
    clear hl
    go_wp2_with (first | (at_next; (refine wpL_next rfl rfl rfl hI ?_ ?_); intro h0; rotate_left; intro l1 p l2 wn h1 hIn hsn hen hE; have HS := Lib.hid hsn; clear hsn; have hon := (ownsRow_ext ho hen (fun c hc e => hnr (e ▸ hc))).alloc (.cells #[kI p.1] 2); have hEn := ((he.then hen (T := fun c => c = w1.heap.size) (fun c hc e => by subst e; omega)).alloc (.cells #[kI p.1] 2)); rotate_left) | (at_builtin; (refine wpL_append1 rfl rfl U26 I2 rfl (by decide) (by decide) (f := fun p => [kI p.1]) (fun _ => rfl) (fun _ _ h => by simp at h; subst h; rfl) rfl hon p rfl ⟨2, (0, 0), (heap_alloc wn _).1⟩ hdl hEn.size ?_); intro v' wa hoa hea hba))
    · go_ret2
      have h := H.out
      subst h0
      have hp : done.Perm (σ.V.map fun v => (v.1, kI v.1)) := by simpa using hperm
      refine ⟨u4, done.map (·.1), rfl, ?_, ?_, he⟩
      · have := hp.map (·.1); rwa [keys_map (fun v => kI v.1)] at this
      · simpa [List.flatMap_map] using ho
    · go_roundg (l1 ++ l2).length
      case measure => have hl := HL.out; rw [h1] at hl; simp at hl ⊢; omega
      case rel =>
        refine ⟨done ++ [p], l1 ++ l2, some p, rfl, ?_, (hIn.ext ((Ext.refl No wn).alloc _) id id).row hon hea, hoa, hEn.then hea (fun c hc e => ?_)⟩
        · rw [h1] at hperm
          refine List.Perm.trans ?_ hperm
          simp only [List.append_assoc, List.singleton_append]
          exact List.Perm.append_left _ List.perm_middle.symm
        · have := hb c e.symm; omega

theorem perm_map_inv {β γ : Type} {g : β → γ} {l : List γ} {L : List β} (h : l.Perm (L.map g)) : ∃ L' : List β, L'.Perm L ∧ l = L'.map g := by
  generalize hm : L.map g = m at h
  induction h generalizing L with
  | nil => exact ⟨[], by have : L = [] := by simpa using hm
                         subst this; exact List.Perm.refl _, rfl⟩
  | cons x h ih =>
    cases L with
    | nil => simp at hm
    | cons y L =>
      simp only [List.map_cons, List.cons.injEq] at hm
      obtain ⟨rfl, hm⟩ := hm
      obtain ⟨L', h1, h2⟩ := ih hm
      exact ⟨y :: L', h1.cons y, by rw [h2]; rfl⟩
  | swap x y l =>
    match L, hm with
    | [], hm => simp at hm
    | [_], hm => simp at hm
    | a :: b :: L, hm =>
      simp only [List.map_cons, List.cons.injEq] at hm
      obtain ⟨rfl, rfl, rfl⟩ := hm
      exact ⟨b :: a :: L, List.Perm.swap _ _ _, rfl⟩
  | trans h1 h2 ih1 ih2 =>
    obtain ⟨L', g1, g2⟩ := ih2 hm
    obtain ⟨L'', g3, g4⟩ := ih1 (L := L') g2.symm
    exact ⟨L'', g3.trans g1, g4⟩

abbrev EdgeR.cells (e : EdgeR) : List Value := [kI e.src, kI e.dst, .map (some e.att), .int .i64 e.wt, .nilIface]

theorem EdgeR.one (e : EdgeR) : ∀ u ∈ e.cells, u.oneCell' = true := by
  intro u hu
  simp only [List.mem_cons, List.not_mem_nil, or_false] at hu
  rcases hu with rfl | rfl | rfl | rfl | rfl <;> rfl
theorem two_new (w : World) (o o' : Obj) : ((w.alloc o).alloc o').heap[w.heap.size + 1]? = some o' := by
  have := (heap_alloc (w.alloc o) o').1; rwa [World.size_alloc] at this

/-- the edges that go out of a list of vertices -/
def fan (E : List EdgeR) (l : List Int) : List EdgeR := l.flatMap fun a => E.filter fun e => e.src == a

theorem fan_perm {E : List EdgeR} {l : List Int} (hn : l.Nodup) (h : ∀ e ∈ E, e.src ∈ l) : (fan E l).Perm E := by
  induction l generalizing E with
  | nil =>
    cases E with
    | nil => exact List.Perm.refl _
    | cons e E => exact absurd (h e List.mem_cons_self) (by simp)
  | cons a l ih =>
    rw [List.nodup_cons] at hn
    have h2 : fan E l = fan (E.filter fun e => !(e.src == a)) l := by
      unfold fan
      have : ∀ x ∈ l, (E.filter fun e => e.src == x) = ((E.filter fun e => !(e.src == a)).filter fun e => e.src == x) := by
        intro x hx
        rw [List.filter_filter]
        apply List.filter_congr
        intro e _
        by_cases hex : e.src = x
        · have : x ≠ a := fun e' => hn.1 (e' ▸ hx)
          simp [hex, this]
        · simp [hex]
      clear ih hn h
      induction l with
      | nil => rfl
      | cons y l ih =>
        simp only [List.flatMap_cons]
        rw [this y List.mem_cons_self, ih (fun x hx => this x (List.mem_cons_of_mem _ hx))]
    have h3 : (fan (E.filter fun e => !(e.src == a)) l).Perm (E.filter fun e => !(e.src == a)) := by
      apply ih hn.2
      intro e he
      obtain ⟨h4, h5⟩ := List.mem_filter.1 he
      rcases List.mem_cons.1 (h e h4) with h6 | h6
      · simp [h6] at h5
      · exact h6
    show ((E.filter fun e => e.src == a) ++ fan E l).Perm E
    rw [h2]
    exact ((List.Perm.refl _).append h3).trans (List.filter_append_perm (fun e : EdgeR => e.src == a) E)

theorem fan_perm_of {E : List EdgeR} {l l' : List Int} (h : l.Perm l') : (fan E l).Perm (fan E l') := by
  unfold fan; exact h.flatMap_right _

/-- the outer round of ListEdges -/
def LE1 (w : World) (A : Ad) (σ : St) (r : Nat) (k : Nat) (v : Value) (wr : World) : Prop :=
  ∃ (done left : List (Int × Nat)) (cur : Option (Int × Value)) (ds : List EdgeR), left.length = k ∧ (done ++ left).Perm σ.O ∧
    IterI kI wr r A.bo (σ.O.map fun o => (o.1, .map (some o.2))) (left.map fun o => (o.1, .map (some o.2))) cur ∧
    ds.Perm (fan σ.E (done.map (·.1))) ∧ wr.ownsRow w.heap.size 97 5 v ds.length (ds.flatMap EdgeR.cells) ∧ Ext No w wr

/-- the inner round -/
def LE2 (w : World) (A : Ad) (σ : St) (r r2 : Nat) (left : List (Int × Nat)) (o : Int × Nat) (ds : List EdgeR) (k : Nat) (v : Value) (wr : World) : Prop :=
  ∃ (dn lf : List EdgeR) (cur2 : Option (Int × Value)), lf.length = k ∧ (dn ++ lf).Perm (σ.E.filter fun e => e.src == o.1) ∧
    (∃ cur, IterI kI wr r A.bo (σ.O.map fun o => (o.1, .map (some o.2))) (left.map fun o => (o.1, .map (some o.2))) cur) ∧
    IterI kI wr r2 o.2 (outOf σ.E o.1) (lf.map fun e => (e.dst, e.val)) cur2 ∧
    wr.ownsRow w.heap.size 97 5 v (ds ++ dn).length ((ds ++ dn).flatMap EdgeR.cells) ∧ Ext No w wr

/-- What ListEdges leaves. -/
def ListedE (σ : St) (w : World) (r : Ending) (w' : World) : Prop :=
  ∃ (v : Value) (l : List EdgeR), r = .returned (.tuple #[v, .nilIface]) ∧ l.Perm σ.E ∧ w'.ownsRow w.heap.size 97 5 v l.length (l.flatMap EdgeR.cells) ∧ Ext No w w'

set_option maxRecDepth 100000 in
set_option maxHeartbeats 800000 in
theorem listEdges {w : World} {A : Ad} {σ : St} (h : Store w A σ) (hN : σ.E.length < 1000000) :
    Calls Tryz.prog 148 #[.pointer (some ⟨A.s, 0, none⟩)] w (ListedE σ w) := by
  have hlt := h.lt
  have c2 := h.c2
  have hv := h.om
  go_enter Tryz.func148, Tryz.ntmps148
  have H := Lib.hid h
  clear h
  go_wp2_with (first | (at_make; (refine wpL_make0 rfl rfl U120 I97 rfl (n := 0) rfl (by decide) (by decide) (Nat.le_refl _) ?_); intro w1 ho1 he1; have hv1 := hv.ext he1 (fun h => h); have c21 := he1.cellv c2 (fun h => h); have hs1 := he1.size) | (at_range; (refine wpL_range rfl rfl U105 rfl hv1 ?_); intro w2 hI2 hs2 he2; have ho2 := ownsRow_ext ho1 he2 (fun _ _ h => h); have he3 := he1.trans he2))
  go_frame
  clear hv hv1 c2 c21 ho1 he1 he2
  go_loopg [4] σ.O.length (fun k v wr => LE1 w A σ w1.heap.size k v wr)
  case atStart => exact ⟨[], σ.O, none, [], rfl, by simp, hI2, by simp [fan], by simpa using ho2, he3⟩
  case round =>
    obtain ⟨done, left, cur, ds, hl, hperm, hI, hds, ho, he⟩ := hrel
    clear hI2 ho2 he3 hs2
    have hb : ∀ c, u4.ownBlock = some c → w.heap.size ≤ c := fun c hc => (ho.lt c hc).1
    have hnr := (hI.not_row ho).1
    have HL := Lib.hid hl
    clear hl
    go_wp2_with (first | (at_next; (refine wpL_nextM (g := fun o : Int × Nat => (o.1, Value.map (some o.2))) rfl rfl rfl hI ?_ ?_); intro h0; rotate_left; intro l1 o l2 wn h1 hIn hsn hen hE; have HS := Lib.hid hsn; clear hsn; have hoM : o ∈ σ.O := hperm.mem_iff.1 (by rw [h1]; simp); have hmn := (H.out.outs o hoM).ext (he.then hen (T := fun c => c = w1.heap.size) (fun c hc e => by subst e; omega)) (fun h => h); rotate_left) | (at_range; (refine wpL_range rfl rfl U107 rfl hmn ?_); intro w5 hI5 hs5 he5))
    · go_ret2
      have h := H.out
      subst h0
      have hp : done.Perm σ.O := by simpa using hperm
      refine ⟨u4, ds, rfl, ?_, ho, he⟩
      refine (hds.trans (fan_perm_of (hp.map (·.1)))).trans (fan_perm h.okeys ?_)
      intro e he'
      obtain ⟨b, hb⟩ := h.outk e he'
      exact List.mem_map.2 ⟨_, hb, rfl⟩
    · try go_frame
      have hin : IterI kI w5 w1.heap.size A.bo (σ.O.map fun o => (o.1, .map (some o.2))) ((l1 ++ l2).map fun o => (o.1, .map (some o.2))) (some (o.1, .map (some o.2))) := hIn.ext he5 id id
      have how : w5.ownsRow w.heap.size 97 5 u4 ds.length (ds.flatMap EdgeR.cells) := ownsRow_ext (ownsRow_ext ho hen (fun c hc e => hnr (e ▸ hc))) he5 (fun _ _ => id)
      have hew : Ext No w w5 := (he.then hen (T := fun c => c = w1.heap.size) (fun c hc e => by subst e; omega)).trans he5
      have hws : w1.heap.size < wn.heap.size := hIn.ltr
      have HH := Lib.hid (And.intro hin (And.intro how hew))
      clear hIn how hew hen hE hmn hI
      go_loopg [4] (σ.E.filter fun e => e.src == o.1).length (fun k v wq => LE2 w A σ w1.heap.size wn.heap.size (l1 ++ l2) o ds k v wq)
      case atStart =>
        obtain ⟨a1, a2, a3⟩ := HH.out
        exact ⟨[], (σ.E.filter fun e => e.src == o.1), none, rfl, by simp, ⟨_, a1⟩, hI5, by simpa using a2, a3⟩
      case round =>
        obtain ⟨dn, lf, cur2, hl2, hperm2, ⟨cur1, hI1⟩, hI2, ho2, he2⟩ := hrel
        have hb2 : ∀ c, u4.ownBlock = some c → w.heap.size ≤ c := fun c hc => (ho2.lt c hc).1
        have hnr2 := (hI2.not_row ho2).1
        have HL2 := Lib.hid hl2
        clear hl2 hI5 hs5 he5 hb hnr ho
        have hdl : (ds ++ dn).length < 1000000 := by
          have hle : (fan σ.E (done.map (·.1)) ++ σ.E.filter fun e => e.src == o.1).length ≤ σ.E.length := by
            have hp : (fan σ.E ((done ++ left).map (·.1))).Perm σ.E := (fan_perm_of (hperm.map (·.1))).trans (fan_perm H.out.okeys (fun e he' => by
              obtain ⟨b, hb⟩ := H.out.outk e he'
              exact List.mem_map.2 ⟨_, hb, rfl⟩))
            have hle := hp.length_eq
            rw [h1] at hle
            simp only [fan, List.map_append, List.flatMap_append, List.length_append, List.map_cons, List.flatMap_cons] at hle ⊢
            omega
          have g1 := hds.length_eq
          have g2 := hperm2.length_eq
          simp only [List.length_append] at hle g2 ⊢
          omega
        go_wp2_with (first | (at_next; (refine wpL_nextM (g := fun e : EdgeR => (e.dst, e.val)) rfl rfl rfl hI2 ?_ ?_); intro h0; rotate_left; intro k1 e k2 wm h2 hIm hsm hem hEm; have HS2 := Lib.hid hsm; clear hsm; have hon := ((ownsRow_ext ho2 hem (fun c hc e => hnr2 (e ▸ hc))).alloc (.cells e.cells.toArray 97)).alloc (.cells e.cells.toArray 97); have hEn := (((he2.then hem (T := fun c => c = wn.heap.size) (fun c hc e => by subst e; omega)).alloc (.cells e.cells.toArray 97)).alloc (.cells e.cells.toArray 97)); rotate_left) | (at_builtin; (refine wpL_append1 rfl rfl U120 I97 rfl (by decide) (by decide) (f := EdgeR.cells) (fun _ => rfl) EdgeR.one rfl hon e rfl ⟨97, (0, 0), two_new _ _ _⟩ hdl hEn.size ?_); intro v' wa hoa hea hba))
        · go_roundg (l1 ++ l2).length
          case measure => have hl := HL.out; rw [h1] at hl; simp at hl ⊢; omega
          case rel =>
            subst h0
            refine ⟨done ++ [o], l1 ++ l2, _, ds ++ dn, rfl, ?_, hI1, ?_, ho2, he2⟩
            · rw [h1] at hperm
              refine List.Perm.trans ?_ hperm
              simp only [List.append_assoc, List.singleton_append]
              exact List.Perm.append_left _ List.perm_middle.symm
            · simp only [fan, List.map_append, List.flatMap_append, List.map_cons, List.map_nil, List.flatMap_cons, List.flatMap_nil, List.append_nil]
              exact hds.append (by simpa using hperm2)
        · go_roundg (k1 ++ k2).length
          case measure => have hl := HL2.out; rw [h2] at hl; simp at hl ⊢; omega
          case rel =>
            have hbo := H.out.om.lt
            have hr1 := ((hI1.ext hem (fun e => by omega) (fun e => by omega)).ext ((((Ext.refl No wm).alloc (.cells e.cells.toArray 97)).alloc (.cells e.cells.toArray 97))) id id).row hon hea
            have hr2 := (hIm.ext ((((Ext.refl No wm).alloc (.cells e.cells.toArray 97)).alloc (.cells e.cells.toArray 97))) id id).row hon hea
            refine ⟨dn ++ [e], k1 ++ k2, _, rfl, ?_, ⟨_, hr1⟩, hr2, by simpa using hoa, hEn.then hea (fun c hc e => ?_)⟩
            · rw [h2] at hperm2
              refine List.Perm.trans ?_ hperm2
              simp only [List.append_assoc, List.singleton_append]
              exact List.Perm.append_left _ List.perm_middle.symm
            · have := hb2 c e.symm; omega
end Go.Proofs.YtcenebjdhbdejaaGreatDoor
