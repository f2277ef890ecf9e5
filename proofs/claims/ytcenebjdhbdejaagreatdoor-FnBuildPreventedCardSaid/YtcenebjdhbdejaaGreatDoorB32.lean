/- A vertex with its properties, and the option that copies these; AddVertex with it, of either kind. (The undirected theorems are printed by ren.py out of the directed ones.) -/
import Derived.Test.YtcenebjdhbdejaaGreatDoorB31
import Derived.Test.YtcenebjdhbdejaaGreatDoorB06
namespace Go.Proofs.YtcenebjdhbdejaaGreatDoor
open Go.MapKept

theorem results_tct {P : Program} {fn : Func} {p q r : Tmp} {ty : TypeId} (h : fn.results = #[.tmp q, .cell p ty, .tmp r]) {tmps : Array Value} {w : World} {g : Nat} {t : TypeId} {cs : Array Value} {fr : Nat × Nat} {d : TypeDesc}
    (hp : tmps.getD p undef = .pointer (some ⟨g, 0, none⟩)) (hg : w.heap[g]? = some (.cells cs t fr))
    (hu : P.underlying ty = some d) (hd : (match d with | .struct _ | .array _ _ => true | _ => false) = true) (hi : (P.info? ty).map (·.size) = some cs.size) {v u : Value} (hv : tmps.getD q undef = v) (hr : tmps.getD r undef = u) :
    (results fn tmps).run P w = .ok (.tuple #[v, .agg cs, u]) w := by
  have hp' : tmps[p]?.getD undef = .pointer (some ⟨g, 0, none⟩) := by simpa using hp
  have hv' : tmps[q]?.getD undef = v := by simpa using hv
  have hr' : tmps[r]?.getD undef = u := by simpa using hr
  simp [results, h, hp', hv', hr', asAddr, run_loadVar_row w g t ty cs fr d hg hu hd hi]

theorem sz213 : (Tryz.prog.info? 213).map (·.size) = some 2 := by kernel_rfl
theorem cells2 {w : World} {b : Nat} {c0 c1 : Value} {T : TypeId} (h : w.heap[b]? = some (.cells #[c0, c1] T (0, 0))) : w.cell? ⟨b, 0, none⟩ = some c0 ∧ w.cell? ⟨b, 1, none⟩ = some c1 ∧ w.frozen? ⟨b, 0, none⟩ = false ∧ w.frozen? ⟨b, 1, none⟩ = false := by
  simp [World.cell?, World.frozen?, h]

abbrev propO (m : Nat) : Obj := .cells #[.map (some m), .int .i64 0] 213 (0, 0)

set_option maxRecDepth 100000 in
set_option maxHeartbeats 400000 in
theorem d_vertexWith {w : World} {H : Hd} {τ : Tr} {σ : St} {k : Int} {a : Nat} (h : Gr w H τ σ) (hk : (k, a) ∈ σ.V) :
    Calls Tryz.prog 117 #[.pointer (some ⟨H.d, 0, none⟩), kI k] w fun r w' => r = .returned (.tuple #[kI k, vp a, .nilIface]) ∧ Ext No w w' := by
  have hlt := h.lt
  have d2 := h.d2
  have HG := Lib.hid (And.intro h hk)
  clear h hk
  go_enter Tryz.func117, Tryz.ntmps117
  have hM := M145_Vertex
  go_wp2_with fail
  refine (vertex_yes (HG.out.1.st.ext ((Ext.refl No w).alloc _) (fun _ _ h => h)) HG.out.2).mono ?_
  rintro r w1 ⟨rfl, h1⟩
  have r5 := h1.obj (heap_alloc w (.cells #[.map none, .int .i64 0] 213)).1 id
  have HR := Lib.hid (And.intro h1 r5)
  clear h1 r5
  go_upto_region 4 with (fail)
  have eA : Ext No w1 (w1.alloc (propO a)) := (Ext.refl No w1).alloc _
  have r8 := (heap_alloc w1 (propO a)).1
  have r5 := eA.obj HR.out.2 id
  have HA := Lib.hid (And.intro eA r5)
  clear eA d2 hlt
  obtain ⟨x0, x1, -⟩ := cells2 r8
  obtain ⟨y0, y1, g0, g1⟩ := cells2 r5
  have lx := World.block_lt_of_cell? _ _ x0
  have ly := World.block_lt_of_cell? _ _ y0
  clear r8 r5
  revert x0 x1 y0 y1 g0 g1 lx ly HA
  generalize w1.alloc (propO a) = W
  intro HA x0 x1 y0 y1 g0 g1 lx ly
  go_region
  all_goals go_wp2
  refine bodyPost_ret (v := .tuple #[kI k, vp a, .nilIface]) ?hr rfl ?hR
  case hR =>
    exact ⟨rfl, ((((Ext.refl No w).alloc _).trans HR.out.1).trans HA.out.1).then (((Ext.refl (fun c => c = w.heap.size) W).setCell ⟨w.heap.size, 0, none⟩ (.map (some a)) (fun _ => rfl)).setCell ⟨w.heap.size, 1, none⟩ (.int .i64 0) (fun _ => rfl)).drew (fun c hc e => by omega)⟩
  case hr =>
    exact results_tct (fn := Tryz.f117) (g := w.heap.size) (p := 5) (q := 4) (r := 6) (ty := 213) rfl rfl (at_drew (set_heap (o := 1) (set_heap (o := 0) HA.out.2 (.map (some a))) (.int .i64 0))) Tryz.underlying213 rfl sz213 rfl rfl

set_option maxRecDepth 100000 in
theorem copyV_run (m : Nat) (w : World) : Calls Tryz.prog 122 #[vp m] w fun r w' => r = .returned (.func (.func 125) #[] #[.pointer (some ⟨w.heap.size, 0, none⟩)]) ∧ w' = w.alloc (propO m) := by
  go_enter Tryz.func122, Tryz.ntmps122
  go_wp2
  go_ret
  exact ⟨rfl, rfl⟩

set_option maxRecDepth 100000 in
set_option maxHeartbeats 400000 in
theorem vcopy_run {w : World} {b a m m' : Nat} (h : w.heap[b]? = some (propO m)) (ha : w.heap[a]? = some (propO m')) (hm : w.heap[m']? = some (.map #[] 0)) :
    Calls Tryz.prog 125 #[.pointer (some ⟨b, 0, none⟩), .pointer (some ⟨a, 0, none⟩)] w fun r w' => r = .returned (.tuple #[]) ∧ w'.heap[b]? = some (propO m) ∧ Ext (fun c => c = b) w w' := by
  obtain ⟨a0, a1, -⟩ := cells2 ha
  have l1 := World.block_lt_of_cell? _ _ a0
  have H := Lib.hid (And.intro h (And.intro ha hm))
  have hm1 : MapI kI w m' [] := MapI.empty hm
  clear h ha hm
  go_enter Tryz.func125, Tryz.ntmps125
  go_wp2_with (first | (at_range; (refine wpL_range rfl rfl U93 rfl hm1 ?_); intro w2 hI2 hs2 he2))
  have e2 : Ext No w w2 := he2
  obtain ⟨b0, b1, g0, g1⟩ := cells2 (e2.obj H.out.1 id)
  obtain ⟨a0, a1, -⟩ := cells2 (e2.obj H.out.2.1 id)
  have l1 := World.block_lt_of_cell? _ _ a0
  have l2 := World.block_lt_of_cell? _ _ b0
  have HE := Lib.hid e2
  clear hs2 he2 e2
  refine wp_loop_rounds 1 ?_
  rw [rounds_succ]
  go_wp2_with (first | (at_next; (refine wpL_nextM (γ := Int × Value) (g := id) (left := []) rfl rfl rfl hI2 ?_ ?_); intro h0; rotate_left; (intro l1 o l2 wn h1; simp at h1)))
  go_end0
  exact ⟨rfl, set_heap (o := 1) (HE.out.obj H.out.1 id) (.int .i64 0), (HE.out.no (S := fun c => c = b)).setCell _ _ (fun _ => rfl)⟩

/-- the option that copies a vertex's properties (which are none) -/
def OptV (w : World) (f : Value) : Prop := ∃ a m, f = .func (.func 125) #[] #[.pointer (some ⟨a, 0, none⟩)] ∧ w.heap[a]? = some (propO m) ∧ w.heap[m]? = some (.map #[] 0)
theorem OptV.ext {w w' : World} {f : Value} (h : OptV w f) (he : Ext No w w') : OptV w' f := by
  obtain ⟨a, m, rfl, h1, h2⟩ := h
  exact ⟨a, m, rfl, he.obj h1 id, he.obj h2 id⟩

set_option maxRecDepth 100000 in
set_option maxHeartbeats 1000000 in
theorem d_addVertex_with {w : World} {H : Hd} {τ : Tr} {σ : St} {k : Int} {ob : Nat} {f : Value} {p : Nat → Addr} {B : Nat} (h : Gr w H τ σ) (hp : Sent w p) (hB : Below6 B p) (ho : w.cell? ⟨ob, 0, none⟩ = some f) (hf : OptV w f) :
    Calls Tryz.prog 103 #[.pointer (some ⟨H.d, 0, none⟩), kI k, .slice (some ⟨ob, 0, none⟩) 1 1] w fun e w' => ((∀ a, (k, a) ∉ σ.V) ∧ e = .returned .nilIface ∧ ∃ a, Turned H τ σ { σ with V := σ.V ++ [(k, a)] } w w') ∨ ((∃ a, (k, a) ∈ σ.V) ∧ e = .returned (errv p 0) ∧ Ext No w w') := by
  have hlt := h.lt
  have d0 := h.d0
  have d2 := h.d2
  have lo := World.block_lt_of_cell? _ _ ho
  obtain ⟨a, m, rfl, ha, hm⟩ := hf
  have HG := Lib.hid (And.intro h (And.intro hp (And.intro hB (And.intro ha (And.intro hm ho)))))
  clear h hp hB ha hm
  go_enter Tryz.func103, Tryz.ntmps103
  have hmm := makeMapR Tryz.prog
  go_wp2_with (go_at_call 34; refine (hash_any _ _).mono ?_; rintro e w' ⟨rfl, rfl⟩)
  have e1 : Ext No w ((w.alloc (.map #[] 0)).alloc (propO w.heap.size)) := ((Ext.refl No w).alloc _).alloc _
  have m1 : ((w.alloc (.map #[] 0)).alloc (propO w.heap.size)).heap[w.heap.size]? = some (.map #[] 0) := alloc_heap (heap_alloc w _).1 _
  have r1 : ((w.alloc (.map #[] 0)).alloc (propO w.heap.size)).heap[w.heap.size + 1]? = some (propO w.heap.size) := two_new _ _ _
  have q0 := e1.cellv d2 id
  have q1 := e1.cellv ho id
  have HE := Lib.hid (And.intro e1 (And.intro m1 r1))
  clear e1 m1 r1 d0 d2 ho hlt
  revert q0 q1 HE
  generalize (w.alloc (.map #[] 0)).alloc (propO w.heap.size) = W
  intro q0 q1 HE
  have l0 := World.block_lt_of_cell? _ _ q0
  have l1 := World.block_lt_of_cell? _ _ q1
  refine wp_loop_rounds 2 ?_
  rw [rounds_succ]
  go_wp2_with fail
  refine (vcopy_run HE.out.2.2 (HE.out.1.obj HG.out.2.2.2.1 id) (HE.out.1.obj HG.out.2.2.2.2.1 id)).mono ?_
  rintro r2 w2 ⟨rfl, hr2, he2⟩
  have hne : ¬ (fun c => c = w.heap.size + 1) H.d := fun e => by have := HG.out.1.lt; omega
  have q0 := he2.cellv q0 hne
  have HE2 := Lib.hid (And.intro hr2 he2)
  clear hr2 he2 q1 l1 hne
  obtain ⟨y0, y1, -⟩ := cells2 HE2.out.1
  have l0 := World.block_lt_of_cell? _ _ q0
  have l1 := World.block_lt_of_cell? _ _ y0
  go_wp2_with fail
  rw [rounds_succ]
  go_wp2_with fail
  go_still_tail 7, (by kernel_rfl)
  have eX : Ext (fun c => c = w.heap.size + 1) w w2.drew := (HE.out.1.no.trans HE2.out.2).drew
  have hX : Ext No w w2.drew := ((HE.out.1.then HE2.out.2 (fun c hc e => by omega))).drew
  have hS : Store w2.drew H.A σ := HG.out.1.st.ext hX (fun _ _ h => h)
  have hP := HG.out.2.1.ext HG.out.2.2.1 hX (fun _ h => h.elim)
  have hnf : ¬ σ.foot H.A w.heap.size := fun hf => by have := HG.out.1.st.foot_lt hf; omega
  have hat : w2.drew.heap[w.heap.size]? = some (.map #[] 0) := at_drew (HE2.out.2.obj HE.out.2.1 (by omega))
  have HF := Lib.hid (And.intro hX (And.intro hS (And.intro hP (And.intro hnf hat))))
  clear eX hX hS hP hnf hat
  have hM := M145_AddVertex
  by_cases hk : ∃ a, (k, a) ∈ σ.V
  · obtain ⟨n, hn⟩ := hk
    have HN := Lib.hid hn
    clear hn
    go_wp2_with fail
    refine (addVertex_old HF.out.2.1 HF.out.2.2.1 HN.out).mono ?_
    rintro e w' ⟨rfl, h2⟩
    go_wp2_with fail
    go_ret
    exact Or.inr ⟨⟨n, HN.out⟩, rfl, HF.out.1.trans h2⟩
  · have HN : RowKit.Hid (∀ a, (k, a) ∉ σ.V) := Lib.hid (fun a ha => hk ⟨a, ha⟩)
    clear hk
    go_wp2_with fail
    refine (addVertex_new HF.out.2.1 HN.out HF.out.2.2.2.1 HF.out.2.2.2.2).mono ?_
    rintro e w' ⟨rfl, h1, h2⟩
    go_wp2_with fail
    go_ret
    have h := HG.out.1
    refine Or.inl ⟨HN.out, rfl, w.heap.size, h.turn (HF.out.1.no.then h2 ?_) h1 (fun c hc => ?_)⟩
    · rintro c - (rfl | rfl) <;> exact Or.inl (by simp [St.blocks])
    · rcases hc with hc | hc
      · exact Or.inl (Or.inl hc)
      · simp only [St.atts, List.map_append, List.map_cons, List.map_nil, List.mem_append, List.mem_cons, List.not_mem_nil, or_false] at hc
        rcases hc with (hc | hc) | hc
        · exact Or.inl (Or.inr (List.mem_append_left _ hc))
        · exact Or.inr (Nat.le_of_eq hc.symm)
        · exact Or.inl (Or.inr (List.mem_append_right _ hc))
set_option maxRecDepth 100000 in
set_option maxHeartbeats 400000 in
theorem u_vertexWith {w : World} {H : Hd} {τ : Tr} {σ : St} {k : Int} {a : Nat} (h : Gr w H τ σ) (hk : (k, a) ∈ σ.V) :
    Calls Tryz.prog 142 #[.pointer (some ⟨H.d, 0, none⟩), kI k] w fun r w' => r = .returned (.tuple #[kI k, vp a, .nilIface]) ∧ Ext No w w' := by
  have hlt := h.lt
  have d2 := h.d2
  have HG := Lib.hid (And.intro h hk)
  clear h hk
  go_enter Tryz.func142, Tryz.ntmps142
  have hM := M145_Vertex
  go_wp2_with fail
  refine (vertex_yes (HG.out.1.st.ext ((Ext.refl No w).alloc _) (fun _ _ h => h)) HG.out.2).mono ?_
  rintro r w1 ⟨rfl, h1⟩
  have r5 := h1.obj (heap_alloc w (.cells #[.map none, .int .i64 0] 213)).1 id
  have HR := Lib.hid (And.intro h1 r5)
  clear h1 r5
  go_upto_region 4 with (fail)
  have eA : Ext No w1 (w1.alloc (propO a)) := (Ext.refl No w1).alloc _
  have r8 := (heap_alloc w1 (propO a)).1
  have r5 := eA.obj HR.out.2 id
  have HA := Lib.hid (And.intro eA r5)
  clear eA d2 hlt
  obtain ⟨x0, x1, -⟩ := cells2 r8
  obtain ⟨y0, y1, g0, g1⟩ := cells2 r5
  have lx := World.block_lt_of_cell? _ _ x0
  have ly := World.block_lt_of_cell? _ _ y0
  clear r8 r5
  revert x0 x1 y0 y1 g0 g1 lx ly HA
  generalize w1.alloc (propO a) = W
  intro HA x0 x1 y0 y1 g0 g1 lx ly
  go_region
  all_goals go_wp2
  refine bodyPost_ret (v := .tuple #[kI k, vp a, .nilIface]) ?hr rfl ?hR
  case hR =>
    exact ⟨rfl, ((((Ext.refl No w).alloc _).trans HR.out.1).trans HA.out.1).then (((Ext.refl (fun c => c = w.heap.size) W).setCell ⟨w.heap.size, 0, none⟩ (.map (some a)) (fun _ => rfl)).setCell ⟨w.heap.size, 1, none⟩ (.int .i64 0) (fun _ => rfl)).drew (fun c hc e => by omega)⟩
  case hr =>
    exact results_tct (fn := Tryz.f142) (g := w.heap.size) (p := 5) (q := 4) (r := 6) (ty := 213) rfl rfl (at_drew (set_heap (o := 1) (set_heap (o := 0) HA.out.2 (.map (some a))) (.int .i64 0))) Tryz.underlying213 rfl sz213 rfl rfl

set_option maxRecDepth 100000 in
set_option maxHeartbeats 1000000 in
theorem u_addVertex_with {w : World} {H : Hd} {τ : Tr} {σ : St} {k : Int} {ob : Nat} {f : Value} {p : Nat → Addr} {B : Nat} (h : Gr w H τ σ) (hp : Sent w p) (hB : Below6 B p) (ho : w.cell? ⟨ob, 0, none⟩ = some f) (hf : OptV w f) :
    Calls Tryz.prog 128 #[.pointer (some ⟨H.d, 0, none⟩), kI k, .slice (some ⟨ob, 0, none⟩) 1 1] w fun e w' => ((∀ a, (k, a) ∉ σ.V) ∧ e = .returned .nilIface ∧ ∃ a, Turned H τ σ { σ with V := σ.V ++ [(k, a)] } w w') ∨ ((∃ a, (k, a) ∈ σ.V) ∧ e = .returned (errv p 0) ∧ Ext No w w') := by
  have hlt := h.lt
  have d0 := h.d0
  have d2 := h.d2
  have lo := World.block_lt_of_cell? _ _ ho
  obtain ⟨a, m, rfl, ha, hm⟩ := hf
  have HG := Lib.hid (And.intro h (And.intro hp (And.intro hB (And.intro ha (And.intro hm ho)))))
  clear h hp hB ha hm
  go_enter Tryz.func128, Tryz.ntmps128
  have hmm := makeMapR Tryz.prog
  go_wp2_with (go_at_call 34; refine (hash_any _ _).mono ?_; rintro e w' ⟨rfl, rfl⟩)
  have e1 : Ext No w ((w.alloc (.map #[] 0)).alloc (propO w.heap.size)) := ((Ext.refl No w).alloc _).alloc _
  have m1 : ((w.alloc (.map #[] 0)).alloc (propO w.heap.size)).heap[w.heap.size]? = some (.map #[] 0) := alloc_heap (heap_alloc w _).1 _
  have r1 : ((w.alloc (.map #[] 0)).alloc (propO w.heap.size)).heap[w.heap.size + 1]? = some (propO w.heap.size) := two_new _ _ _
  have q0 := e1.cellv d2 id
  have q1 := e1.cellv ho id
  have HE := Lib.hid (And.intro e1 (And.intro m1 r1))
  clear e1 m1 r1 d0 d2 ho hlt
  revert q0 q1 HE
  generalize (w.alloc (.map #[] 0)).alloc (propO w.heap.size) = W
  intro q0 q1 HE
  have l0 := World.block_lt_of_cell? _ _ q0
  have l1 := World.block_lt_of_cell? _ _ q1
  refine wp_loop_rounds 2 ?_
  rw [rounds_succ]
  go_wp2_with fail
  refine (vcopy_run HE.out.2.2 (HE.out.1.obj HG.out.2.2.2.1 id) (HE.out.1.obj HG.out.2.2.2.2.1 id)).mono ?_
  rintro r2 w2 ⟨rfl, hr2, he2⟩
  have hne : ¬ (fun c => c = w.heap.size + 1) H.d := fun e => by have := HG.out.1.lt; omega
  have q0 := he2.cellv q0 hne
  have HE2 := Lib.hid (And.intro hr2 he2)
  clear hr2 he2 q1 l1 hne
  obtain ⟨y0, y1, -⟩ := cells2 HE2.out.1
  have l0 := World.block_lt_of_cell? _ _ q0
  have l1 := World.block_lt_of_cell? _ _ y0
  go_wp2_with fail
  rw [rounds_succ]
  go_wp2_with fail
  go_still_tail 7, (by kernel_rfl)
  have eX : Ext (fun c => c = w.heap.size + 1) w w2.drew := (HE.out.1.no.trans HE2.out.2).drew
  have hX : Ext No w w2.drew := ((HE.out.1.then HE2.out.2 (fun c hc e => by omega))).drew
  have hS : Store w2.drew H.A σ := HG.out.1.st.ext hX (fun _ _ h => h)
  have hP := HG.out.2.1.ext HG.out.2.2.1 hX (fun _ h => h.elim)
  have hnf : ¬ σ.foot H.A w.heap.size := fun hf => by have := HG.out.1.st.foot_lt hf; omega
  have hat : w2.drew.heap[w.heap.size]? = some (.map #[] 0) := at_drew (HE2.out.2.obj HE.out.2.1 (by omega))
  have HF := Lib.hid (And.intro hX (And.intro hS (And.intro hP (And.intro hnf hat))))
  clear eX hX hS hP hnf hat
  have hM := M145_AddVertex
  by_cases hk : ∃ a, (k, a) ∈ σ.V
  · obtain ⟨n, hn⟩ := hk
    have HN := Lib.hid hn
    clear hn
    go_wp2_with fail
    refine (addVertex_old HF.out.2.1 HF.out.2.2.1 HN.out).mono ?_
    rintro e w' ⟨rfl, h2⟩
    go_wp2_with fail
    go_ret
    exact Or.inr ⟨⟨n, HN.out⟩, rfl, HF.out.1.trans h2⟩
  · have HN : RowKit.Hid (∀ a, (k, a) ∉ σ.V) := Lib.hid (fun a ha => hk ⟨a, ha⟩)
    clear hk
    go_wp2_with fail
    refine (addVertex_new HF.out.2.1 HN.out HF.out.2.2.2.1 HF.out.2.2.2.2).mono ?_
    rintro e w' ⟨rfl, h1, h2⟩
    go_wp2_with fail
    go_ret
    have h := HG.out.1
    refine Or.inl ⟨HN.out, rfl, w.heap.size, h.turn (HF.out.1.no.then h2 ?_) h1 (fun c hc => ?_)⟩
    · rintro c - (rfl | rfl) <;> exact Or.inl (by simp [St.blocks])
    · rcases hc with hc | hc
      · exact Or.inl (Or.inl hc)
      · simp only [St.atts, List.map_append, List.map_cons, List.map_nil, List.mem_append, List.mem_cons, List.not_mem_nil, or_false] at hc
        rcases hc with (hc | hc) | hc
        · exact Or.inl (Or.inr (List.mem_append_left _ hc))
        · exact Or.inr (Nat.le_of_eq hc.symm)
        · exact Or.inl (Or.inr (List.mem_append_right _ hc))

end Go.Proofs.YtcenebjdhbdejaaGreatDoor
