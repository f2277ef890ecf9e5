/- The store's methods, walked: Vertex, AddVertex, Edge, AddEdge, and so on. The store's methods, walked: Edge. The store's methods, walked: AddEdge. -/
import Derived.Test.YtcenebjdhbdejaaGreatDoorA1
import Derived.Deep.Cut
namespace Go.Proofs.YtcenebjdhbdejaaGreatDoor
open Go.MapKept

set_option maxRecDepth 100000 in
set_option maxHeartbeats 400000 in
theorem vertex_yes {w : World} {A : Ad} {σ : St} {k : Int} {a : Nat} (h : Store w A σ) (hk : (k, a) ∈ σ.V) :
    Calls Tryz.prog 153 #[.pointer (some ⟨A.s, 0, none⟩), kI k] w fun e w' => e = .returned (.tuple #[kI k, vp a, .nilIface]) ∧ Ext No w w' := by
  have l1 := lookup_mem (f := fun v => kI v.1) h.keys hk
  have l2 := lookup_mem (f := fun v => vp v.2) h.keys hk
  have hlt := h.lt
  have c0 := h.c0
  have c1 := h.c1
  unfold kI
  go_enter Tryz.func153, Tryz.ntmps153
  have hv1 := h.vm.alloc (.cells #[.map none, .int .i64 0] 213)
  have hp1 := h.pm.alloc (.cells #[.map none, .int .i64 0] 213)
  clear h
  go_wp2_with (first | (at_lookup; (refine wpL_lookup_ok rfl rfl U146 K2 Z2 rfl rfl hv1 ?_); rw [l1]) | (at_lookup; (refine wpL_lookup rfl rfl U147 K2 Z213 rfl rfl hp1 ?_); rw [l2]))
  go_region
  go_wp2
  refine bodyPost_ret (v := .tuple #[kI k, vp a, .nilIface]) (by simp [results, Tryz.results153, go_sem]) rfl ⟨rfl, ?_⟩
  exact (((Ext.refl _ _).alloc _).alloc _).drew

set_option maxRecDepth 100000 in
set_option maxHeartbeats 400000 in
theorem vertex_no {w : World} {A : Ad} {σ : St} {k : Int} {p : Nat → Addr} (h : Store w A σ) (hp : Sent w p) (hk : ∀ a, (k, a) ∉ σ.V) :
    Calls Tryz.prog 153 #[.pointer (some ⟨A.s, 0, none⟩), kI k] w fun e w' => e = .returned (.tuple #[kI 0, .agg #[.map none, .int .i64 0], errv p 1]) ∧ Ext No w w' := by
  have l1 := lookup_not (f := fun v => kI v.1) hk
  have hlt := h.lt
  have c0 := h.c0
  have e1 := hp.c1
  have hl1 : 1 < w.heap.size := World.block_lt_of_cell? w _ hp.c1
  unfold kI
  go_enter Tryz.func153, Tryz.ntmps153
  have hv1 := h.vm.alloc (.cells #[.map none, .int .i64 0] 213)
  clear h hp
  go_wp2_with (first | (at_lookup; (refine wpL_lookup_ok rfl rfl U146 K2 Z2 rfl rfl hv1 ?_); rw [l1]))
  go_region
  all_goals go_wp2
  refine bodyPost_ret (v := .tuple #[kI 0, .agg #[.map none, .int .i64 0], errv p 1]) (by simp [results, Tryz.results153, go_sem]) rfl ⟨rfl, ?_⟩
  repeat (first | exact Ext.refl _ _ | refine Ext.drew ?_ | refine Ext.alloc ?_ _ | refine Ext.setCell ?_ _ _ (fun h => absurd h (by simp)))

/-- A vertex more. -/
theorem Store.addV {w w' : World} {A : Ad} {σ : St} {k : Int} {a : Nat} {S : Nat → Prop} (h : Store w A σ) (hk : ∀ a, (k, a) ∉ σ.V) (ha : ¬ σ.foot A a)
    (he : Ext S w w') (hS : ∀ c, σ.foot A c → S c → c = A.bv ∨ c = A.bp) (hatt : w'.heap[a]? = some (.map #[] 0))
    (hv : MapI kI w' A.bv (setA k (kI k) (σ.V.map fun v => (v.1, kI v.1)))) (hp : MapI kI w' A.bp (setA k (vp a) (σ.V.map fun v => (v.1, vp v.2)))) :
    Store w' A { σ with V := σ.V ++ [(k, a)] } := by
  have g1 := (findA_none (v' := kI k) (k := k) (m := σ.V.map fun v => (v.1, kI v.1)) (i := 0) (by
    cases hr : findA k (σ.V.map fun v => (v.1, kI v.1)) 0 with
    | none => rfl
    | some q =>
      have := findA_lookup k (σ.V.map fun v => (v.1, kI v.1)) 0
      rw [hr, lookup_not (f := fun v => kI v.1) hk] at this
      simp at this)).2.1
  have g2 := (findA_none (v' := vp a) (k := k) (m := σ.V.map fun v => (v.1, vp v.2)) (i := 0) (by
    cases hr : findA k (σ.V.map fun v => (v.1, vp v.2)) 0 with
    | none => rfl
    | some q =>
      have := findA_lookup k (σ.V.map fun v => (v.1, vp v.2)) 0
      rw [hr, lookup_not (f := fun v => vp v.2) hk] at this
      simp at this)).2.1
  rw [g1] at hv
  rw [g2] at hp
  have nd := h.nd
  have sub : ∀ c, c ∈ σ.blocks A → c ≠ A.bv → c ≠ A.bp → ¬ S c := fun c hc h1 h2 hs => by
    rcases hS c (Or.inl hc) hs with e | e
    · exact h1 e
    · exact h2 e
  simp only [St.blocks, List.nodup_cons, List.mem_cons, List.mem_append, not_or] at nd
  obtain ⟨⟨n1, n2, n3, n4, n5⟩, ⟨m1, m2, m3, m4⟩, ⟨q1, q2, q3⟩, -⟩ := nd
  have hb : ({ σ with V := σ.V ++ [(k, a)] } : St).blocks A = σ.blocks A := rfl
  have atts : ({ σ with V := σ.V ++ [(k, a)] } : St).atts = (σ.V.map (·.2)) ++ a :: σ.E.map (·.att) := by simp [St.atts]
  refine ⟨he.obj h.row (sub _ (by simp [St.blocks]) n1 n2), by simpa using hv, by simpa using hp, h.om.ext he (sub _ (by simp [St.blocks]) (Ne.symm m2) (Ne.symm q1)), h.im.ext he (sub _ (by simp [St.blocks]) (Ne.symm m3) (Ne.symm q2)), ?_, ?_, h.outk, h.ink, ?_, ?_, h.nd, ?_⟩
  · intro o ho
    refine (h.outs o ho).ext he (sub _ ?_ ?_ ?_)
    · simp only [St.blocks, List.mem_cons, List.mem_append, List.mem_map]; right; right; right; right; right; left; exact ⟨o, ho, rfl⟩
    · intro e; exact m4.1 (List.mem_map.2 ⟨o, ho, e⟩)
    · intro e; exact q3.1 (List.mem_map.2 ⟨o, ho, e⟩)
  · intro o ho
    refine (h.ins o ho).ext he (sub _ ?_ ?_ ?_)
    · simp only [St.blocks, List.mem_cons, List.mem_append, List.mem_map]; right; right; right; right; right; right; exact ⟨o, ho, rfl⟩
    · intro e; exact m4.2 (List.mem_map.2 ⟨o, ho, e⟩)
    · intro e; exact q3.2 (List.mem_map.2 ⟨o, ho, e⟩)
  · intro e he'
    obtain ⟨⟨a1, h1⟩, a2, h2⟩ := h.ends e he'
    exact ⟨⟨a1, List.mem_append_left _ h1⟩, a2, List.mem_append_left _ h2⟩
  · intro b hb'
    rw [atts] at hb'
    rcases List.mem_append.1 hb' with hb' | hb'
    · exact he.obj (h.att b (List.mem_append_left _ hb')) (fun hs => by
        rcases hS b (Or.inr (List.mem_append_left _ hb')) hs with e | e
        · exact h.apart b (List.mem_append_left _ hb') (by simp [St.blocks, e])
        · exact h.apart b (List.mem_append_left _ hb') (by simp [St.blocks, e]))
    · rcases List.mem_cons.1 hb' with rfl | hb'
      · exact hatt
      · exact he.obj (h.att b (List.mem_append_right _ hb')) (fun hs => by
          rcases hS b (Or.inr (List.mem_append_right _ hb')) hs with e | e
          · exact h.apart b (List.mem_append_right _ hb') (by simp [St.blocks, e])
          · exact h.apart b (List.mem_append_right _ hb') (by simp [St.blocks, e]))
  · intro b hb'
    rw [atts] at hb'
    rw [hb]
    rcases List.mem_append.1 hb' with hb' | hb'
    · exact h.apart b (List.mem_append_left _ hb')
    · rcases List.mem_cons.1 hb' with rfl | hb'
      · exact fun hm => ha (Or.inl hm)
      · exact h.apart b (List.mem_append_right _ hb')

theorem Store.ne {w : World} {A : Ad} {σ : St} (h : Store w A σ) : A.s ≠ A.bv ∧ A.s ≠ A.bp ∧ A.s ≠ A.bo ∧ A.s ≠ A.bi ∧ A.bv ≠ A.bp ∧ A.bv ≠ A.bo ∧ A.bv ≠ A.bi ∧ A.bp ≠ A.bo ∧ A.bp ≠ A.bi ∧ A.bo ≠ A.bi := by
  have nd := h.nd
  simp only [St.blocks, List.nodup_cons, List.mem_cons, List.mem_append, not_or] at nd
  exact ⟨nd.1.1, nd.1.2.1, nd.1.2.2.1, nd.1.2.2.2.1, nd.2.1.1, nd.2.1.2.1, nd.2.1.2.2.1, nd.2.2.1.1, nd.2.2.1.2.1, nd.2.2.2.1.1⟩

set_option maxRecDepth 100000 in
set_option maxHeartbeats 400000 in
theorem addVertex_new {w : World} {A : Ad} {σ : St} {k : Int} {a : Nat} (h : Store w A σ) (hk : ∀ a, (k, a) ∉ σ.V) (ha : ¬ σ.foot A a) (hat : w.heap[a]? = some (.map #[] 0)) :
    Calls Tryz.prog 145 #[.pointer (some ⟨A.s, 0, none⟩), kI k, kI k, vp a] w fun e w' => e = .returned .nilIface ∧ Store w' A { σ with V := σ.V ++ [(k, a)] } ∧ Ext (fun c => c = A.bv ∨ c = A.bp) w w' := by
  have l1 := lookup_not (f := fun v => kI v.1) hk
  have hlt := h.lt
  have c0 := h.c0
  have c1 := h.c1
  obtain ⟨n1, n2, -, -, n3, -⟩ := h.ne
  have hq : w.heap.size ≠ A.bv := by have := h.vm.lt; omega
  have hnv : A.bv < w.heap.size := h.vm.lt
  have hnp : A.bp < w.heap.size := h.pm.lt
  unfold kI
  go_enter Tryz.func145, Tryz.ntmps145
  have hv1 := h.vm.alloc (.cells #[.map (some a), .int .i64 0] 213)
  have hp1 := h.pm.alloc (.cells #[.map (some a), .int .i64 0] 213)
  have H := Lib.hid h
  have HA := Lib.hid hat
  have HE : Ext (fun c => c = A.bv ∨ c = A.bp) w (w.alloc (.cells #[.map (some a), .int .i64 0] 213)) := (Ext.refl _ _).alloc _
  clear h hat
  go_wp2_with (first | (at_lookup; (refine wpL_lookup_ok rfl rfl U146 K2 Z2 rfl rfl hv1 ?_); rw [l1]) | (at_mapUpdate; (refine wpL_mapUpdate rfl rfl U146 K2 rfl rfl (kI k) rfl hv1 ?_); intro w1 hv2 ho1; have hc := ho1.cell; have hf := ho1.frz; have hp2 := ho1.mapI (Ne.symm n3) hp1; have he1 := HE.only ho1 (fun _ => Or.inl rfl); clear ho1))
  go_still_tail 6, (by kernel_rfl)
  have hp3 := hp2.drew
  refine wpL_mapUpdate rfl rfl U147 K2 rfl rfl (vp a) rfl hp3 ?_
  intro w2 hp4 ho2
  have he2 := (he1.drew).only ho2 (fun _ => Or.inr rfl)
  have hv4 := ho2.mapI n3 hv2.drew
  clear hc hf
  go_wp2
  go_ret
  have h := H.out
  refine ⟨rfl, Store.addV h hk ha he2 (fun _ _ x => x) (he2.obj HA.out ?_) hv4 hp4, he2⟩
  rintro (rfl | rfl) <;> exact ha (Or.inl (by simp [St.blocks]))

set_option maxRecDepth 100000 in
set_option maxHeartbeats 400000 in
theorem addVertex_old {w : World} {A : Ad} {σ : St} {k : Int} {a b : Nat} {p : Nat → Addr} (h : Store w A σ) (hp : Sent w p) (hk : (k, b) ∈ σ.V) :
    Calls Tryz.prog 145 #[.pointer (some ⟨A.s, 0, none⟩), kI k, kI k, vp a] w fun e w' => e = .returned (errv p 0) ∧ Ext No w w' := by
  have l1 := lookup_mem (f := fun v => kI v.1) h.keys hk
  have hlt := h.lt
  have c0 := h.c0
  have e0 := hp.c0
  have hl1 : 0 < w.heap.size := World.block_lt_of_cell? w _ hp.c0
  unfold kI
  go_enter Tryz.func145, Tryz.ntmps145
  have hv1 := h.vm.alloc (.cells #[.map (some a), .int .i64 0] 213)
  clear h hp
  go_wp2_with (first | (at_lookup; (refine wpL_lookup_ok rfl rfl U146 K2 Z2 rfl rfl hv1 ?_); rw [l1]))
  go_ret
  exact ⟨rfl, (Ext.refl _ _).alloc _⟩
end Go.Proofs.YtcenebjdhbdejaaGreatDoor
namespace Go.Proofs.YtcenebjdhbdejaaGreatDoor
open Go.MapKept

theorem lookup_of_mem {M : List (Int × Value)} (hn : (M.map (·.1)).Nodup) {k : Int} {v : Value} (hm : (k, v) ∈ M) : M.lookup k = some v := by
  induction M with
  | nil => simp at hm
  | cons p M ih =>
    simp only [List.map_cons, List.nodup_cons] at hn
    rcases List.mem_cons.1 hm with rfl | hm
    · simp
    · have hne : (k == p.1) = false := by
        simp only [beq_eq_false_iff_ne, ne_eq]
        intro e
        exact hn.1 (List.mem_map.2 ⟨_, hm, e⟩)
      simp [List.lookup, hne, ih hn.2 hm]
theorem lookup_of_not {M : List (Int × Value)} {k : Int} (hm : ∀ v, (k, v) ∉ M) : M.lookup k = none := by
  induction M with
  | nil => rfl
  | cons p M ih =>
    have hne : (k == p.1) = false := by
      simp only [beq_eq_false_iff_ne, ne_eq]
      intro e
      exact hm p.2 (by rw [e]; exact List.mem_cons_self)
    simp only [List.lookup, hne]
    exact ih fun b hb => hm b (List.mem_cons_of_mem _ hb)

theorem mem_outOf {E : List EdgeR} {e : EdgeR} (he : e ∈ E) : (e.dst, e.val) ∈ outOf E e.src :=
  List.mem_map.2 ⟨e, List.mem_filter.2 ⟨he, by simp⟩, rfl⟩
theorem mem_inOf {E : List EdgeR} {e : EdgeR} (he : e ∈ E) : (e.src, e.val) ∈ inOf E e.dst :=
  List.mem_map.2 ⟨e, List.mem_filter.2 ⟨he, by simp⟩, rfl⟩
theorem not_outOf {E : List EdgeR} {a b : Int} (h : ∀ e ∈ E, ¬ (e.src = a ∧ e.dst = b)) : (outOf E a).lookup b = none := by
  apply lookup_of_not
  intro v hv
  obtain ⟨e, he, h2⟩ := List.mem_map.1 hv
  obtain ⟨h3, h4⟩ := List.mem_filter.1 he
  simp only [Prod.mk.injEq] at h2
  exact h e h3 ⟨by simpa using h4, h2.1⟩
theorem not_inOf {E : List EdgeR} {a b : Int} (h : ∀ e ∈ E, ¬ (e.src = a ∧ e.dst = b)) : (inOf E b).lookup a = none := by
  apply lookup_of_not
  intro v hv
  obtain ⟨e, he, h2⟩ := List.mem_map.1 hv
  obtain ⟨h3, h4⟩ := List.mem_filter.1 he
  simp only [Prod.mk.injEq] at h2
  exact h e h3 ⟨h2.1, by simpa using h4⟩
theorem Store.out_lookup {w : World} {A : Ad} {σ : St} (h : Store w A σ) {e : EdgeR} (he : e ∈ σ.E) : (outOf σ.E e.src).lookup e.dst = some e.val := by
  obtain ⟨b, hb⟩ := h.outk e he
  exact lookup_of_mem (h.outs _ hb).nodup (mem_outOf he)
theorem Store.in_lookup {w : World} {A : Ad} {σ : St} (h : Store w A σ) {e : EdgeR} (he : e ∈ σ.E) : (inOf σ.E e.dst).lookup e.src = some e.val := by
  obtain ⟨b, hb⟩ := h.ink e he
  exact lookup_of_mem (h.ins _ hb).nodup (mem_inOf he)

abbrev zero97 : Value := .agg #[.int .i64 0, .int .i64 0, .map none, .int .i64 0, .nilIface]

set_option maxRecDepth 100000 in
set_option maxHeartbeats 400000 in
theorem edge_yes {w : World} {A : Ad} {σ : St} {e : EdgeR} (h : Store w A σ) (he : e ∈ σ.E) :
    Calls Tryz.prog 147 #[.pointer (some ⟨A.s, 0, none⟩), kI e.src, kI e.dst] w fun r w' => r = .returned (.tuple #[e.val, .nilIface]) ∧ Ext No w w' := by
  obtain ⟨b, hb⟩ := h.outk e he
  have l1 := lookup_mem (f := fun v => .map (some v.2)) h.okeys hb
  have l2 := h.out_lookup he
  have hlt := h.lt
  have c2 := h.c2
  go_enter Tryz.func147, Tryz.ntmps147
  have hv1 := h.om.alloc (.cells #[.int .i64 0, .int .i64 0, .map none, .int .i64 0, .nilIface] 97)
  have hp1 := (h.outs _ hb).alloc (.cells #[.int .i64 0, .int .i64 0, .map none, .int .i64 0, .nilIface] 97)
  clear h hb he
  go_wp2_with (first | (at_lookup; (refine wpL_lookup_ok rfl rfl U105 K2 Z107 rfl rfl hv1 ?_); rw [l1]) | (at_lookup; (refine wpL_lookup_ok rfl rfl U107 K2 Z97 rfl rfl hp1 ?_); rw [l2]))
  refine bodyPost_ret (v := .tuple #[e.val, .nilIface]) (by simp [results, Tryz.results147, go_sem]) rfl ⟨rfl, ?_⟩
  repeat (first | exact Ext.refl _ _ | refine Ext.drew ?_ | refine Ext.alloc ?_ _ | refine Ext.setCell ?_ _ _ (fun h => absurd h (by simp)))

set_option maxRecDepth 100000 in
set_option maxHeartbeats 400000 in
theorem edge_no {w : World} {A : Ad} {σ : St} {a b : Int} {p : Nat → Addr} (h : Store w A σ) (hp : Sent w p) (he : ∀ e ∈ σ.E, ¬ (e.src = a ∧ e.dst = b)) :
    Calls Tryz.prog 147 #[.pointer (some ⟨A.s, 0, none⟩), kI a, kI b] w fun r w' => r = .returned (.tuple #[zero97, errv p 4]) ∧ Ext No w w' := by
  have hlt := h.lt
  have c2 := h.c2
  have e1 := hp.c4
  have hl1 : 4 < w.heap.size := World.block_lt_of_cell? w _ hp.c4
  by_cases hk : ∃ ob, (a, ob) ∈ σ.O
  · obtain ⟨ob, hb⟩ := hk
    have l1 := lookup_mem (f := fun v => .map (some v.2)) h.okeys hb
    have l2 := not_outOf he
    go_enter Tryz.func147, Tryz.ntmps147
    have hv1 := h.om.alloc (.cells #[.int .i64 0, .int .i64 0, .map none, .int .i64 0, .nilIface] 97)
    have hp1 := (h.outs _ hb).alloc (.cells #[.int .i64 0, .int .i64 0, .map none, .int .i64 0, .nilIface] 97)
    clear h hb he hp
    go_wp2_with (first | (at_lookup; (refine wpL_lookup_ok rfl rfl U105 K2 Z107 rfl rfl hv1 ?_); rw [l1]) | (at_lookup; (refine wpL_lookup_ok rfl rfl U107 K2 Z97 rfl rfl hp1 ?_); rw [l2]))
    go_region
    all_goals go_wp2
    refine bodyPost_ret (v := .tuple #[zero97, errv p 4]) (by simp [results, Tryz.results147, go_sem]) rfl ⟨rfl, ?_⟩
    repeat (first | exact Ext.refl _ _ | refine Ext.drew ?_ | refine Ext.alloc ?_ _ | refine Ext.setCell ?_ _ _ (fun h => absurd h (by simp)))
  · have l1 := lookup_not (f := fun v => .map (some v.2)) (fun b hb => hk ⟨b, hb⟩)
    go_enter Tryz.func147, Tryz.ntmps147
    have hv1 := h.om.alloc (.cells #[.int .i64 0, .int .i64 0, .map none, .int .i64 0, .nilIface] 97)
    clear h he hp hk
    go_wp2_with (first | (at_lookup; (refine wpL_lookup_ok rfl rfl U105 K2 Z107 rfl rfl hv1 ?_); rw [l1]))
    go_region
    all_goals go_wp2
    refine bodyPost_ret (v := .tuple #[zero97, errv p 4]) (by simp [results, Tryz.results147, go_sem]) rfl ⟨rfl, ?_⟩
    repeat (first | exact Ext.refl _ _ | refine Ext.drew ?_ | refine Ext.alloc ?_ _ | refine Ext.setCell ?_ _ _ (fun h => absurd h (by simp)))
end Go.Proofs.YtcenebjdhbdejaaGreatDoor
namespace Go.Proofs.YtcenebjdhbdejaaGreatDoor
open Go.MapKept

/-- a map in a block of the store's own is turned: the other blocks stay -/
theorem setA_new {m : List (Int × Value)} {k : Int} {v : Value} (h : m.lookup k = none) : setA k v m = m ++ [(k, v)] := by
  have : findA k m 0 = none := by
    cases hr : findA k m 0 with
    | none => rfl
    | some q => have := findA_lookup k m 0; rw [hr, h] at this; simp at this
  exact (findA_none (v' := v) this).2.1

theorem outOf_none {w : World} {A : Ad} {σ : St} (h : Store w A σ) {a : Int} (ha : ∀ b, (a, b) ∉ σ.O) : outOf σ.E a = [] := by
  unfold outOf
  rw [List.filter_eq_nil_iff.2]
  · rfl
  · intro e he hs
    obtain ⟨b, hb⟩ := h.outk e he
    rw [beq_iff_eq] at hs
    exact ha b (hs ▸ hb)
theorem inOf_none {w : World} {A : Ad} {σ : St} (h : Store w A σ) {a : Int} (ha : ∀ b, (a, b) ∉ σ.I) : inOf σ.E a = [] := by
  unfold inOf
  rw [List.filter_eq_nil_iff.2]
  · rfl
  · intro e he hs
    obtain ⟨b, hb⟩ := h.ink e he
    rw [beq_iff_eq] at hs
    exact ha b (hs ▸ hb)

/-- A new, empty inner map for the edges that go out of a. -/
theorem Store.addO {w w' : World} {A : Ad} {σ : St} {a : Int} {n : Nat} {S : Nat → Prop} (h : Store w A σ) (ha : ∀ b, (a, b) ∉ σ.O) (hn : ¬ σ.foot A n)
    (he : Ext S w w') (hS : ∀ c, σ.foot A c → S c → c = A.bo) (hm : MapI kI w' n [])
    (ho : MapI kI w' A.bo (setA a (.map (some n)) (σ.O.map fun o => (o.1, .map (some o.2))))) :
    Store w' A { σ with O := σ.O ++ [(a, n)] } := by
  rw [setA_new (lookup_not (f := fun v => .map (some v.2)) ha)] at ho
  have nd := h.nd
  have sub : ∀ c, c ∈ σ.blocks A → c ≠ A.bo → ¬ S c := fun c hc h1 hs => h1 (hS c (Or.inl hc) hs)
  have hO : ∀ o ∈ σ.O, o.2 ∈ σ.blocks A := fun o ho => by
    simp only [St.blocks, List.mem_cons, List.mem_append, List.mem_map]; right; right; right; right; right; left; exact ⟨o, ho, rfl⟩
  have hI : ∀ o ∈ σ.I, o.2 ∈ σ.blocks A := fun o ho => by
    simp only [St.blocks, List.mem_cons, List.mem_append, List.mem_map]; right; right; right; right; right; right; exact ⟨o, ho, rfl⟩
  have hnd : (({ σ with O := σ.O ++ [(a, n)] } : St).blocks A).Perm (n :: σ.blocks A) := by
    simp only [St.blocks, List.map_append, List.map_cons, List.map_nil, List.append_assoc]
    refine List.Perm.trans ?_ (List.Perm.swap _ _ _)
    refine List.Perm.cons _ (List.Perm.trans ?_ (List.Perm.swap _ _ _))
    refine List.Perm.cons _ (List.Perm.trans ?_ (List.Perm.swap _ _ _))
    refine List.Perm.cons _ (List.Perm.trans ?_ (List.Perm.swap _ _ _))
    refine List.Perm.cons _ (List.Perm.trans ?_ (List.Perm.swap _ _ _))
    refine List.Perm.cons _ ?_
    exact List.perm_middle
  have hnb : n ∉ σ.blocks A := fun hm => hn (Or.inl hm)
  simp only [St.blocks, List.nodup_cons, List.mem_cons, List.mem_append, not_or] at nd
  obtain ⟨⟨n1, n2, n3, n4, n5⟩, ⟨m1, m2, m3, m4⟩, ⟨q1, q2, q3⟩, ⟨r1, r2⟩, -⟩ := nd
  refine ⟨he.obj h.row (sub _ (by simp [St.blocks]) n3), h.vm.ext he (sub _ (by simp [St.blocks]) m2), h.pm.ext he (sub _ (by simp [St.blocks]) q1), by simpa using ho, h.im.ext he (sub _ (by simp [St.blocks]) (Ne.symm r1)), ?_, ?_, ?_, h.ink, h.ends, ?_, ?_, ?_⟩
  · intro o ho
    rcases List.mem_append.1 ho with ho | ho
    · exact (h.outs o ho).ext he (sub _ (hO o ho) (fun e => r2.1 (List.mem_map.2 ⟨o, ho, e⟩)))
    · simp only [List.mem_singleton] at ho
      subst ho
      show MapI kI w' n (outOf σ.E a)
      rw [outOf_none h ha]; exact hm
  · intro o ho
    exact (h.ins o ho).ext he (sub _ (hI o ho) (fun e => r2.2 (List.mem_map.2 ⟨o, ho, e⟩)))
  · intro e he
    obtain ⟨b, hb⟩ := h.outk e he
    exact ⟨b, List.mem_append_left _ hb⟩
  · intro b hb
    exact he.obj (h.att b hb) (fun hs => by
      have := hS b (Or.inr hb) hs
      exact h.apart b hb (by simp [St.blocks, this]))
  · exact hnd.nodup_iff.2 (List.nodup_cons.2 ⟨hnb, h.nd⟩)
  · intro b hb hm
    rcases List.mem_cons.1 (hnd.mem_iff.1 hm) with rfl | hm
    · exact hn (Or.inr hb)
    · exact h.apart b hb hm

/-- A new, empty inner map for the edges that come to a. -/
theorem Store.addI {w w' : World} {A : Ad} {σ : St} {a : Int} {n : Nat} {S : Nat → Prop} (h : Store w A σ) (ha : ∀ b, (a, b) ∉ σ.I) (hn : ¬ σ.foot A n)
    (he : Ext S w w') (hS : ∀ c, σ.foot A c → S c → c = A.bi) (hm : MapI kI w' n [])
    (ho : MapI kI w' A.bi (setA a (.map (some n)) (σ.I.map fun o => (o.1, .map (some o.2))))) :
    Store w' A { σ with I := σ.I ++ [(a, n)] } := by
  rw [setA_new (lookup_not (f := fun v => .map (some v.2)) ha)] at ho
  have nd := h.nd
  have sub : ∀ c, c ∈ σ.blocks A → c ≠ A.bi → ¬ S c := fun c hc h1 hs => h1 (hS c (Or.inl hc) hs)
  have hO : ∀ o ∈ σ.O, o.2 ∈ σ.blocks A := fun o ho => by
    simp only [St.blocks, List.mem_cons, List.mem_append, List.mem_map]; right; right; right; right; right; left; exact ⟨o, ho, rfl⟩
  have hI : ∀ o ∈ σ.I, o.2 ∈ σ.blocks A := fun o ho => by
    simp only [St.blocks, List.mem_cons, List.mem_append, List.mem_map]; right; right; right; right; right; right; exact ⟨o, ho, rfl⟩
  have hnd : (({ σ with I := σ.I ++ [(a, n)] } : St).blocks A).Perm (n :: σ.blocks A) := by
    simp only [St.blocks, List.map_append, List.map_cons, List.map_nil]
    refine List.Perm.trans ?_ (List.Perm.swap _ _ _)
    refine List.Perm.cons _ (List.Perm.trans ?_ (List.Perm.swap _ _ _))
    refine List.Perm.cons _ (List.Perm.trans ?_ (List.Perm.swap _ _ _))
    refine List.Perm.cons _ (List.Perm.trans ?_ (List.Perm.swap _ _ _))
    refine List.Perm.cons _ (List.Perm.trans ?_ (List.Perm.swap _ _ _))
    refine List.Perm.cons _ ?_
    rw [← List.append_assoc]
    exact List.perm_append_comm
  have hnb : n ∉ σ.blocks A := fun hm => hn (Or.inl hm)
  simp only [St.blocks, List.nodup_cons, List.mem_cons, List.mem_append, not_or] at nd
  obtain ⟨⟨n1, n2, n3, n4, n5⟩, ⟨m1, m2, m3, m4⟩, ⟨q1, q2, q3⟩, ⟨r1, r2⟩, ⟨u1, u2⟩, -⟩ := nd
  refine ⟨he.obj h.row (sub _ (by simp [St.blocks]) n4), h.vm.ext he (sub _ (by simp [St.blocks]) m3), h.pm.ext he (sub _ (by simp [St.blocks]) q2), h.om.ext he (sub _ (by simp [St.blocks]) r1), by simpa using ho, ?_, ?_, h.outk, ?_, h.ends, ?_, ?_, ?_⟩
  · intro o ho
    exact (h.outs o ho).ext he (sub _ (hO o ho) (fun e => u1 (List.mem_map.2 ⟨o, ho, e⟩)))
  · intro o ho
    rcases List.mem_append.1 ho with ho | ho
    · exact (h.ins o ho).ext he (sub _ (hI o ho) (fun e => u2 (List.mem_map.2 ⟨o, ho, e⟩)))
    · simp only [List.mem_singleton] at ho
      subst ho
      show MapI kI w' n (inOf σ.E a)
      rw [inOf_none h ha]; exact hm
  · intro e he
    obtain ⟨b, hb⟩ := h.ink e he
    exact ⟨b, List.mem_append_left _ hb⟩
  · intro b hb
    exact he.obj (h.att b hb) (fun hs => by
      have := hS b (Or.inr hb) hs
      exact h.apart b hb (by simp [St.blocks, this]))
  · exact hnd.nodup_iff.2 (List.nodup_cons.2 ⟨hnb, h.nd⟩)
  · intro b hb hm
    rcases List.mem_cons.1 (hnd.mem_iff.1 hm) with rfl | hm
    · exact hn (Or.inr hb)
    · exact h.apart b hb hm

theorem uniq_of {β γ : Type} (f : β → γ) : ∀ (l : List β), (l.map f).Nodup → ∀ x ∈ l, ∀ y ∈ l, f x = f y → x = y := by
  intro l hl
  induction l with
  | nil => intro x hx; simp at hx
  | cons z l ih =>
    simp only [List.map_cons, List.nodup_cons] at hl
    intro x hx y hy e
    rcases List.mem_cons.1 hx with h1 | h1 <;> rcases List.mem_cons.1 hy with h2 | h2
    · rw [h1, h2]
    · exact absurd (List.mem_map.2 ⟨y, h2, by rw [← e, h1]⟩) hl.1
    · exact absurd (List.mem_map.2 ⟨x, h1, by rw [e, h2]⟩) hl.1
    · exact ih hl.2 x h1 y h2 e

/-- The edges between a and b are turned: both inner maps that hold them. -/
theorem Store.turnE {w w' : World} {A : Ad} {σ : St} {a b : Int} {ob ib : Nat} {S : Nat → Prop} {E' : List EdgeR} (h : Store w A σ) (ha : (a, ob) ∈ σ.O) (hb : (b, ib) ∈ σ.I)
    (he : Ext S w w') (hS : ∀ c, σ.foot A c → S c → c = ob ∨ c = ib)
    (ho : MapI kI w' ob (outOf E' a)) (hi : MapI kI w' ib (inOf E' b))
    (hoo : ∀ x, x ≠ a → outOf E' x = outOf σ.E x) (hii : ∀ x, x ≠ b → inOf E' x = inOf σ.E x)
    (hE : ∀ e ∈ E', e ∈ σ.E ∨ (e.src = a ∧ e.dst = b ∧ (∃ n, (a, n) ∈ σ.V) ∧ (∃ n, (b, n) ∈ σ.V) ∧ e.att ∉ σ.blocks A ∧ w'.heap[e.att]? = some (.map #[] 0))) :
    Store w' A { σ with E := E' } := by
  have hO : ∀ o ∈ σ.O, o.2 ∈ σ.blocks A := fun o ho => by
    simp only [St.blocks, List.mem_cons, List.mem_append, List.mem_map]; right; right; right; right; right; left; exact ⟨o, ho, rfl⟩
  have hI : ∀ o ∈ σ.I, o.2 ∈ σ.blocks A := fun o ho => by
    simp only [St.blocks, List.mem_cons, List.mem_append, List.mem_map]; right; right; right; right; right; right; exact ⟨o, ho, rfl⟩
  have nd := h.nd
  simp only [St.blocks, List.nodup_cons, List.mem_cons, List.mem_append, not_or, List.nodup_append] at nd
  obtain ⟨⟨n1, n2, n3, n4, n5, n6⟩, ⟨m1, m2, m3, m4, m5⟩, ⟨q1, q2, q3, q4⟩, ⟨r1, r2, r3⟩, ⟨u1, u2⟩, t1, t2, t3⟩ := nd
  have iO : ∀ {x : Int} {n : Nat}, (x, n) ∈ σ.O → n ∈ σ.O.map (·.2) := fun hx => List.mem_map.2 ⟨_, hx, rfl⟩
  have iI : ∀ {x : Int} {n : Nat}, (x, n) ∈ σ.I → n ∈ σ.I.map (·.2) := fun hx => List.mem_map.2 ⟨_, hx, rfl⟩
  have sub : ∀ c, c ∈ σ.blocks A → c ≠ ob → c ≠ ib → ¬ S c := fun c hc h1 h2 hs => by
    rcases hS c (Or.inl hc) hs with e | e
    · exact h1 e
    · exact h2 e
  refine ⟨he.obj h.row (sub _ (by simp [St.blocks]) (fun e => n5 (e ▸ iO ha)) (fun e => n6 (e ▸ iI hb))),
    h.vm.ext he (sub _ (by simp [St.blocks]) (fun e => m4 (e ▸ iO ha)) (fun e => m5 (e ▸ iI hb))),
    h.pm.ext he (sub _ (by simp [St.blocks]) (fun e => q3 (e ▸ iO ha)) (fun e => q4 (e ▸ iI hb))),
    h.om.ext he (sub _ (by simp [St.blocks]) (fun e => r2 (e ▸ iO ha)) (fun e => r3 (e ▸ iI hb))),
    h.im.ext he (sub _ (by simp [St.blocks]) (fun e => u1 (e ▸ iO ha)) (fun e => u2 (e ▸ iI hb))), ?_, ?_, ?_, ?_, ?_, ?_, h.nd, ?_⟩
  · intro o hoM
    by_cases hx : o.1 = a
    · have : o = (a, ob) := by
        have hk := h.okeys
        exact uniq_of (·.1) _ hk o hoM _ ha hx
      subst this
      exact ho
    · show MapI kI w' o.2 (outOf E' o.1)
      rw [hoo o.1 hx]
      refine (h.outs o hoM).ext he (sub _ (hO o hoM) (fun e => hx ?_) (fun e => ?_))
      · have := uniq_of (·.2) σ.O t1 o hoM _ ha e
        rw [this]
      · exact t3 o.2 (List.mem_map.2 ⟨o, hoM, rfl⟩) ib (iI hb) e
  · intro o hoM
    by_cases hx : o.1 = b
    · have : o = (b, ib) := by
        have hk := h.ikeys
        exact uniq_of (·.1) _ hk o hoM _ hb hx
      subst this
      exact hi
    · show MapI kI w' o.2 (inOf E' o.1)
      rw [hii o.1 hx]
      refine (h.ins o hoM).ext he (sub _ (hI o hoM) (fun e => ?_) (fun e => hx ?_))
      · exact t3 ob (iO ha) o.2 (List.mem_map.2 ⟨o, hoM, rfl⟩) e.symm
      · have := uniq_of (·.2) σ.I t2 o hoM _ hb e
        rw [this]
  · intro e he'
    rcases hE e he' with h1 | ⟨rfl, -⟩
    · exact h.outk e h1
    · exact ⟨ob, ha⟩
  · intro e he'
    rcases hE e he' with h1 | ⟨-, rfl, -⟩
    · exact h.ink e h1
    · exact ⟨ib, hb⟩
  · intro e he'
    rcases hE e he' with h1 | ⟨rfl, rfl, h1, h2, -⟩
    · exact h.ends e h1
    · exact ⟨h1, h2⟩
  · intro c hc
    have old : ∀ c, c ∈ σ.atts → w'.heap[c]? = some (.map #[] 0) := fun c hc => he.obj (h.att c hc) (fun hs => by
      rcases hS c (Or.inr hc) hs with e | e
      · exact h.apart c hc (e ▸ hO _ ha)
      · exact h.apart c hc (e ▸ hI _ hb))
    rcases List.mem_append.1 hc with hc | hc
    · exact old c (List.mem_append_left _ hc)
    · obtain ⟨e, he', rfl⟩ := List.mem_map.1 hc
      rcases hE e he' with h1 | ⟨-, -, -, -, -, h1⟩
      · exact old _ (List.mem_append_right _ (List.mem_map.2 ⟨e, h1, rfl⟩))
      · exact h1
  · intro c hc hm
    rcases List.mem_append.1 hc with hc | hc
    · exact h.apart c (List.mem_append_left _ hc) hm
    · obtain ⟨e, he', rfl⟩ := List.mem_map.1 hc
      rcases hE e he' with h1 | ⟨-, -, -, -, h1, -⟩
      · exact h.apart _ (List.mem_append_right _ (List.mem_map.2 ⟨e, h1, rfl⟩)) hm
      · exact h1 hm
end Go.Proofs.YtcenebjdhbdejaaGreatDoor
