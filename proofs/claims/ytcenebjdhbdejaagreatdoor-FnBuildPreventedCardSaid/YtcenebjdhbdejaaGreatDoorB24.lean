/- The plain law of Building: two graphs as lists that hold the same vertices and edges, in whatever order, answer each step alike, and hold the same behind it. No program in sight. The graph as lists, in the program: Do, Vertex, counts, Clone: walked. The graph as lists, in the program: Do, RemoveVertex: walked. The graph as lists, in the program: Do, Edges: walked. -/
import Derived.Test.YtcenebjdhbdejaaGreatDoorB19
import Derived.Test.YtcenebjdhbdejaaGreatDoorB21
import Derived.Test.YtcenebjdhbdejaaGreatDoorB23
namespace Go.Proofs.YtcenebjdhbdejaaGreatDoor

abbrev prT (e : Tri) : Int × Int := (e.1, e.2.1)

/-- lists that make a graph -/
structure Fine (d : Bool) (s : PS) : Prop where
  nd : s.V.Nodup
  ends : ∀ e ∈ stored d s.E, e.1 ∈ s.V ∧ e.2.1 ∈ s.V
  uq : ((stored d s.E).map prT).Nodup

/-- the same vertices and edges -/
structure Sim (d : Bool) (s m : PS) : Prop where
  V : s.V.Perm m.V
  E : (stored d s.E).Perm (stored d m.E)

theorem Sim.refl (d : Bool) (s : PS) : Sim d s s := ⟨List.Perm.refl _, List.Perm.refl _⟩
theorem Sim.symm {d : Bool} {s m : PS} (h : Sim d s m) : Sim d m s := ⟨h.V.symm, h.E.symm⟩
theorem Sim.trans {d : Bool} {s m n : PS} (h : Sim d s m) (h2 : Sim d m n) : Sim d s n := ⟨h.V.trans h2.V, h.E.trans h2.E⟩
theorem Sim.fine {d : Bool} {s m : PS} (h : Sim d s m) (hf : Fine d m) : Fine d s :=
  ⟨h.V.nodup_iff.2 hf.nd, fun e he => ⟨h.V.mem_iff.2 (hf.ends e (h.E.mem_iff.1 he)).1, h.V.mem_iff.2 (hf.ends e (h.E.mem_iff.1 he)).2⟩, (h.E.map _).nodup_iff.2 hf.uq⟩
theorem Sim.has {d : Bool} {s m : PS} (h : Sim d s m) {a b : Int} : hasE d s.E a b ↔ hasE d m.E a b := by
  rw [← mem_stored, ← mem_stored]
  constructor
  · rintro ⟨e, he, h1⟩; exact ⟨e, h.E.mem_iff.1 he, h1⟩
  · rintro ⟨e, he, h1⟩; exact ⟨e, h.E.mem_iff.2 he, h1⟩
theorem Sim.uses {d : Bool} {s m : PS} (h : Sim d s m) {a : Int} : usesV s.E a ↔ usesV m.E a := by
  refine (mem_usesV (dir := d)).symm.trans (Iff.trans ⟨?_, ?_⟩ (mem_usesV (dir := d)))
  · rintro ⟨e, he, h1⟩; exact ⟨e, h.E.mem_iff.1 he, h1⟩
  · rintro ⟨e, he, h1⟩; exact ⟨e, h.E.mem_iff.2 he, h1⟩
theorem Sim.lenE {d : Bool} {s m : PS} (h : Sim d s m) : s.E.length = m.E.length := by
  have := h.E.length_eq
  rw [stored_len, stored_len] at this
  cases d <;> simp at this <;> omega

theorem nil_fine (d : Bool) : Fine d ⟨[], []⟩ := by cases d <;> exact ⟨by simp, by simp [stored], by simp [stored]⟩

theorem stored_app (d : Bool) (E F : List Tri) : stored d (E ++ F) = stored d E ++ stored d F := by cases d <;> simp [stored]
theorem stored_cons_u (e : Tri) (E : List Tri) : stored false (e :: E) = e :: revT e :: stored false E := rfl
theorem mem_stored_self {d : Bool} {E : List Tri} {e : Tri} (h : e ∈ E) : e ∈ stored d E := by
  cases d with
  | true => exact h
  | false => simp only [stored, Bool.false_eq_true, if_false, List.mem_flatMap]; exact ⟨e, h, by simp⟩
theorem mem_stored_rev {E : List Tri} {e : Tri} (h : e ∈ E) : revT e ∈ stored false E := by
  simp only [stored, Bool.false_eq_true, if_false, List.mem_flatMap]; exact ⟨e, h, by simp⟩

theorem uq_cons_u {e : Tri} {E : List Tri} (h : ((stored false (e :: E)).map prT).Nodup) : e.1 ≠ e.2.1 ∧ ((stored false E).map prT).Nodup ∧ prT e ∉ (stored false E).map prT ∧ prT (revT e) ∉ (stored false E).map prT := by
  rw [stored_cons_u, List.map_cons, List.map_cons, List.nodup_cons, List.nodup_cons] at h
  refine ⟨fun e1 => h.1 ?_, h.2.2, fun hm => h.1 (List.mem_cons_of_mem _ hm), h.2.1⟩
  refine List.mem_cons.2 (Or.inl ?_)
  simp [revT, e1]

theorem loop_of {E : List Tri} (h : ((stored false E).map prT).Nodup) : ∀ e ∈ E, e.1 ≠ e.2.1 := by
  induction E with
  | nil => simp
  | cons x E ih =>
    have hx := uq_cons_u h
    intro e he
    rcases List.mem_cons.1 he with rfl | he
    · exact hx.1
    · exact ih hx.2.1 e he

theorem isE_joins (d : Bool) (a b : Int) (e : Tri) : isE d a b e = joins d e a b := rfl
theorem isE_mem {d : Bool} {E : List Tri} {a b : Int} {e : Tri} (he : e ∈ E) (h : isE d a b e = true) : (a, b) ∈ (stored d E).map prT := by
  cases d with
  | true => exact List.mem_map.2 ⟨e, he, by simp [isE] at h; simp [h]⟩
  | false =>
    simp [isE] at h
    rcases h with h | h
    · exact List.mem_map.2 ⟨e, mem_stored_self he, by simp [h]⟩
    · exact List.mem_map.2 ⟨revT e, mem_stored_rev he, by simp [revT, h]⟩

/-- at most one edge joins two vertices -/
theorem one_isE {d : Bool} : ∀ {E : List Tri} {a b : Int}, ((stored d E).map prT).Nodup → E.Pairwise (fun x y => ¬ (isE d a b x = true ∧ isE d a b y = true))
  | [], _, _, _ => List.Pairwise.nil
  | x :: E, a, b, h => by
    cases d with
    | true =>
      have h' : ((x :: E).map prT).Nodup := h
      rw [List.map_cons, List.nodup_cons] at h'
      refine List.Pairwise.cons (fun y hy hh => ?_) (one_isE (d := true) h'.2)
      refine h'.1 (List.mem_map.2 ⟨y, hy, ?_⟩)
      have h1 := hh.1
      have h2 := hh.2
      simp [isE] at h1 h2
      simp [h1, h2]
    | false =>
      have h' := uq_cons_u h
      refine List.Pairwise.cons (fun y hy hh => ?_) (one_isE (d := false) h'.2.1)
      have hm := isE_mem hy hh.2
      have h1 := hh.1
      simp [isE] at h1
      rcases h1 with h1 | h1
      · exact h'.2.2.1 (by rw [show prT x = (a, b) by simp [h1]]; exact hm)
      · exact h'.2.2.2 (by rw [show prT (revT x) = (a, b) by simp [revT, h1]]; exact hm)

theorem erase_filter {d : Bool} {a b : Int} : ∀ {E : List Tri} {i : Nat} (hi : i < E.length), E.Pairwise (fun x y => ¬ (isE d a b x = true ∧ isE d a b y = true)) → isE d a b E[i] = true → E.eraseIdx i = E.filter fun e => !isE d a b e
  | x :: E, 0, _, hp, h => by
    have hx : isE d a b x = true := h
    rw [List.eraseIdx_cons_zero, List.filter_cons, if_neg (by simp [hx])]
    symm
    rw [List.filter_eq_self]
    intro y hy
    have := (List.pairwise_cons.1 hp).1 y hy
    simp [hx] at this
    simp [this]
  | x :: E, i + 1, hi, hp, h => by
    have hi' : i < E.length := by simpa using hi
    have h' : isE d a b E[i] = true := by simpa using h
    have hx : isE d a b x = false := by
      have := (List.pairwise_cons.1 hp).1 _ (List.getElem_mem hi')
      rw [h'] at this
      simpa using this
    rw [List.eraseIdx_cons_succ, List.filter_cons, if_pos (by simp [hx]), erase_filter hi' (List.pairwise_cons.1 hp).2 h']

theorem set_put {d : Bool} {a b wt : Int} : ∀ {E : List Tri} {i : Nat} (hi : i < E.length), E.Pairwise (fun x y => ¬ (isE d a b x = true ∧ isE d a b y = true)) → isE d a b E[i] = true → E.set i (E[i].1, E[i].2.1, wt) = E.map (putT d a b wt)
  | x :: E, 0, _, hp, h => by
    have hx : isE d a b x = true := h
    simp only [List.getElem_cons_zero, List.set_cons_zero, List.map_cons]
    rw [show putT d a b wt x = (x.1, x.2.1, wt) by simp [putT, hx]]
    congr 1
    symm
    conv => rhs; rw [← List.map_id E]
    refine List.map_congr_left fun y hy => ?_
    have := (List.pairwise_cons.1 hp).1 y hy
    simp [hx] at this
    simp [putT, this]
  | x :: E, i + 1, hi, hp, h => by
    have hi' : i < E.length := by simpa using hi
    have h' : isE d a b E[i] = true := by simpa using h
    have hx : isE d a b x = false := by
      have := (List.pairwise_cons.1 hp).1 _ (List.getElem_mem hi')
      rw [h'] at this
      simpa using this
    simp only [List.getElem_cons_succ, List.set_cons_succ, List.map_cons]
    rw [set_put hi' (List.pairwise_cons.1 hp).2 h', show putT d a b wt x = x by simp [putT, hx]]

/-- what the lists' own steps do, by places -/
def DoREs (d : Bool) (s : PS) (a b : Int) (s' : PS) (sp : SP) : Prop :=
  (¬ hasE d s.E a b ∧ s' = s ∧ sp = .err 5) ∨ ∃ i, ∃ h : i < s.E.length, joins d s.E[i] a b = true ∧ s' = ⟨s.V, s.E.eraseIdx i⟩ ∧ sp = .err 0
def DoUEs (d : Bool) (s : PS) (a b wt : Int) (s' : PS) (sp : SP) : Prop :=
  (¬ hasE d s.E a b ∧ s' = s ∧ sp = .err 5) ∨ ∃ i, ∃ h : i < s.E.length, joins d s.E[i] a b = true ∧ s' = ⟨s.V, s.E.set i (s.E[i].1, s.E[i].2.1, wt)⟩ ∧ sp = .err 0
def DoVX (s : PS) (a : Int) (s' : PS) (sp : SP) : Prop := s' = s ∧ ((a ∈ s.V ∧ sp = ⟨0, a, 0, 0, [], []⟩) ∨ (a ∉ s.V ∧ sp = .err 2))
def DoED (d : Bool) (s : PS) (a b : Int) (s' : PS) (sp : SP) : Prop := s' = s ∧ ((¬ hasE d s.E a b ∧ sp = .err 5) ∨ ∃ wt, (a, b, wt) ∈ stored d s.E ∧ sp = ⟨0, a, b, wt, [], []⟩)

/-- an edge of an undirected graph, the lesser end first -/
def normT (d : Bool) (e : Tri) : Tri := if d then e else if e.2.1 < e.1 then revT e else e
def DoES (d : Bool) (s : PS) (s' : PS) (sp : SP) : Prop := s' = s ∧ sp.er = 0 ∧ sp.a = 0 ∧ sp.b = 0 ∧ sp.w = 0 ∧ sp.ks = [] ∧ sp.es.Perm (s.E.map (normT d)) ∧ sp.es.Pairwise (fun a b => ltE b a = false)
/-- the edges of PredecessorMap: the outer key is the end -/
def predL (d : Bool) (E : List Tri) : List Tri := if d then E.map revT else stored false E
def DoPM (d : Bool) (s : PS) (s' : PS) (sp : SP) : Prop :=
  s' = s ∧ sp.er = 0 ∧ sp.a = 0 ∧ sp.b = 0 ∧ sp.w = 0 ∧ sp.ks.Perm s.V ∧ sp.ks.Pairwise (fun a b => ltK b a = false) ∧ sp.es.Perm (predL d s.E) ∧ sp.es.Pairwise (fun a b => ltE b a = false)
def DoCL (d : Bool) (s : PS) (s' : PS) (sp : SP) : Prop := Sim d s' s ∧ sp = .err 0

theorem Fine.re {d : Bool} {s s' : PS} {a b : Int} {sp : SP} (h : Fine d s) (hd : DoREs d s a b s' sp) : DoRE d s a b s' sp := by
  unfold DoRE
  rcases hd with ⟨h1, h2, h3⟩ | ⟨i, hi, h1, h2, h3⟩
  · rw [if_neg h1]; exact ⟨h2, h3⟩
  · rw [if_pos (hasE_iff.2 ⟨_, List.getElem_mem hi, h1⟩)]
    exact ⟨by rw [h2, erase_filter hi (one_isE h.uq) h1], h3⟩
theorem Fine.ue {d : Bool} {s s' : PS} {a b wt : Int} {sp : SP} (h : Fine d s) (hd : DoUEs d s a b wt s' sp) : DoUE d s a b wt s' sp := by
  unfold DoUE
  rcases hd with ⟨h1, h2, h3⟩ | ⟨i, hi, h1, h2, h3⟩
  · rw [if_neg h1]; exact ⟨h2, h3⟩
  · rw [if_pos (hasE_iff.2 ⟨_, List.getElem_mem hi, h1⟩)]
    exact ⟨by rw [h2, set_put hi (one_isE h.uq) h1], h3⟩

theorem stored_filter {d : Bool} {a b : Int} (E : List Tri) : stored d (E.filter fun e => !isE d a b e) = (stored d E).filter fun e => !isE d a b e := by
  cases d with
  | true => rfl
  | false =>
    induction E with
    | nil => rfl
    | cons e E ih =>
      rw [stored_cons_u, List.filter_cons, List.filter_cons, List.filter_cons, isE_rev]
      split
      · rw [stored_cons_u, ih]
      · exact ih
theorem putT_rev (a b wt : Int) (e : Tri) : putT false a b wt (revT e) = revT (putT false a b wt e) := by
  unfold putT
  rw [isE_rev]
  split <;> rfl
theorem stored_put {d : Bool} {a b wt : Int} (E : List Tri) : stored d (E.map (putT d a b wt)) = (stored d E).map (putT d a b wt) := by
  cases d with
  | true => rfl
  | false =>
    induction E with
    | nil => rfl
    | cons e E ih => rw [List.map_cons, stored_cons_u, stored_cons_u, ih, List.map_cons, List.map_cons, putT_rev]
theorem prT_put {d : Bool} {a b wt : Int} (e : Tri) : prT (putT d a b wt e) = prT e := by
  unfold putT; split <;> rfl
theorem map_prT_put {d : Bool} {a b wt : Int} (l : List Tri) : (l.map (putT d a b wt)).map prT = l.map prT := by
  rw [List.map_map]; exact List.map_congr_left fun e _ => prT_put e

theorem ltK_eq1 {a b : Int} (h1 : ltK b a = false) (h2 : ltK a b = false) : a = b := by simp [ltK] at h1 h2; omega
theorem ltE_eq1 {a b : Tri} (h1 : ltE b a = false) (h2 : ltE a b = false) : prT a = prT b := by simp [ltE] at h1 h2; simp; omega

theorem keys_eq {k k' V V' : List Int} (h : k.Perm V) (h' : k'.Perm V') (hv : V.Perm V') (s : k.Pairwise (fun a b => ltK b a = false)) (s' : k'.Pairwise (fun a b => ltK b a = false)) : k = k' :=
  List.Perm.eq_of_pairwise (fun _ _ _ _ g1 g2 => ltK_eq1 g1 g2) s s' ((h.trans hv).trans h'.symm)
theorem inj_of_nodup {l : List Tri} (h : (l.map prT).Nodup) {x y : Tri} (hx : x ∈ l) (hy : y ∈ l) (e : prT x = prT y) : x = y := by
  induction l with
  | nil => cases hx
  | cons z l ih =>
    rw [List.map_cons, List.nodup_cons] at h
    rcases List.mem_cons.1 hx with hx | hx' <;> rcases List.mem_cons.1 hy with hy | hy'
    · rw [hx, hy]
    · exact absurd (List.mem_map.2 ⟨y, hy', by rw [← e, hx]⟩) h.1
    · exact absurd (List.mem_map.2 ⟨x, hx', by rw [e, hy]⟩) h.1
    · exact ih h.2 hx' hy'
theorem edges_eq {k k' E E' : List Tri} (h : k.Perm E) (h' : k'.Perm E') (he : E.Perm E') (hu : (E'.map prT).Nodup) (s : k.Pairwise (fun a b => ltE b a = false)) (s' : k'.Pairwise (fun a b => ltE b a = false)) : k = k' :=
  List.Perm.eq_of_pairwise (fun _ _ ha hb g1 g2 => inj_of_nodup hu ((h.trans he).mem_iff.1 ha) (h'.mem_iff.1 hb) (ltE_eq1 g1 g2)) s s' ((h.trans he).trans h'.symm)

theorem norm_filter {E : List Tri} (h : ∀ e ∈ E, e.1 ≠ e.2.1) : E.map (normT false) = (stored false E).filter fun e => decide (e.1 < e.2.1) := by
  induction E with
  | nil => rfl
  | cons e E ih =>
    rw [stored_cons_u, List.map_cons, ih (fun x hx => h x (List.mem_cons_of_mem _ hx)), List.filter_cons, List.filter_cons]
    have := h e List.mem_cons_self
    by_cases h1 : e.2.1 < e.1
    · rw [if_neg (by simp; omega), if_pos (by simp; omega)]
      simp [normT, h1]
    · rw [if_pos (by simp; omega), if_neg (by simp; omega)]
      simp [normT, h1]
theorem norm_perm {d : Bool} {s m : PS} (h : Sim d s m) (hf : Fine d m) : (s.E.map (normT d)).Perm (m.E.map (normT d)) ∧ ((m.E.map (normT d)).map prT).Nodup := by
  cases d with
  | true =>
    have e : normT true = id := rfl
    rw [e, List.map_id, List.map_id]
    exact ⟨h.E, hf.uq⟩
  | false =>
    rw [norm_filter (loop_of (h.fine hf).uq), norm_filter (loop_of hf.uq)]
    exact ⟨h.E.filter _, hf.uq.sublist ((List.filter_sublist).map _)⟩
theorem both_adj {d : Bool} {E : List Tri} (h : d = false → ∀ e ∈ E, e.1 ≠ e.2.1) : E.flatMap (bothL d false) = stored d E := by
  cases d with
  | true =>
    simp only [stored, if_true]
    induction E with
    | nil => rfl
    | cons e E ih =>
      simp only [List.flatMap_cons]
      rw [ih (fun h => by cases h)]
      simp [bothL]
  | false =>
    simp only [stored, Bool.false_eq_true, if_false]
    induction E with
    | nil => rfl
    | cons e E ih =>
      simp only [List.flatMap_cons]
      rw [ih (fun _ x hx => h rfl x (List.mem_cons_of_mem _ hx))]
      have := h rfl e (List.mem_cons_self)
      simp [bothL, this]
theorem both_pred {d : Bool} {E : List Tri} (h : d = false → ∀ e ∈ E, e.1 ≠ e.2.1) : E.flatMap (bothL d true) = predL d E := by
  cases d with
  | true =>
    simp only [predL, if_true]
    induction E with
    | nil => rfl
    | cons e E ih =>
      simp only [List.flatMap_cons]
      rw [ih (fun h => by cases h)]
      simp [bothL, revT]
  | false =>
    simp only [predL, stored, Bool.false_eq_true, if_false]
    induction E with
    | nil => rfl
    | cons e E ih =>
      simp only [List.flatMap_cons]
      rw [ih (fun _ x hx => h rfl x (List.mem_cons_of_mem _ hx))]
      have := h rfl e (List.mem_cons_self)
      simp [bothL, this]

theorem pred_perm {d : Bool} {s m : PS} (h : Sim d s m) (hf : Fine d m) : (predL d s.E).Perm (predL d m.E) ∧ ((predL d m.E).map prT).Nodup := by
  cases d with
  | true =>
    refine ⟨(show s.E.Perm m.E from h.E).map _, ?_⟩
    have hu : (m.E.map prT).Nodup := hf.uq
    show ((m.E.map revT).map prT).Nodup
    have e : (m.E.map revT).map prT = (m.E.map prT).map (fun p => (p.2, p.1)) := by simp [List.map_map, Function.comp_def, revT]
    rw [e]
    rw [List.nodup_iff_pairwise_ne] at hu ⊢
    rw [List.pairwise_map]
    exact hu.imp fun hne e => hne (by simp only [Prod.mk.injEq] at e; exact Prod.ext e.2 e.1)
  | false => exact ⟨h.E, hf.uq⟩

/-- what a graph of the package does at a step -/
noncomputable def DoI (d : Bool) (x : Stp) (s s' : PS) (sp : SP) : Prop :=
  if x.op = 0 then DoAV s x.a s' sp
  else if x.op = 1 then DoRV s x.a s' sp
  else if x.op = 2 then DoAE d s x.a x.b x.wt s' sp
  else if x.op = 3 then DoRE d s x.a x.b s' sp
  else if x.op = 4 then DoUE d s x.a x.b x.wt s' sp
  else if x.op = 5 then DoVX s x.a s' sp
  else if x.op = 6 then DoED d s x.a x.b s' sp
  else if x.op = 7 then DoCT s s' sp
  else if x.op = 8 then DoES d s s' sp
  else if x.op = 9 then DoAM d s s' sp
  else if x.op = 10 then DoPM d s s' sp
  else DoCL d s s' sp
/-- what the lists do at a step -/
noncomputable def DoM (d : Bool) (x : Stp) (s s' : PS) (sp : SP) : Prop :=
  if x.op = 0 then DoAV s x.a s' sp
  else if x.op = 1 then DoRV s x.a s' sp
  else if x.op = 2 then DoAE d s x.a x.b x.wt s' sp
  else if x.op = 3 then DoREs d s x.a x.b s' sp
  else if x.op = 4 then DoUEs d s x.a x.b x.wt s' sp
  else if x.op = 5 then DoVX s x.a s' sp
  else if x.op = 6 then DoED d s x.a x.b s' sp
  else if x.op = 7 then DoCT s s' sp
  else if x.op = 8 then DoES d s s' sp
  else if x.op = 9 then DoBM d false s s' sp
  else if x.op = 10 then DoBM d true s s' sp
  else s' = s ∧ sp = .err 0

theorem SP.ext' {p q : SP} (h1 : p.er = q.er) (h2 : p.a = q.a) (h3 : p.b = q.b) (h4 : p.w = q.w) (h5 : p.ks = q.ks) (h6 : p.es = q.es) : p = q := by
  cases p; cases q; simp_all

/-- both do as one -/
structure As (d : Bool) (s1 m1 : PS) (sp sm : SP) : Prop where
  sim : Sim d s1 m1
  fine : Fine d m1
  same : sp = sm

theorem law_av {d : Bool} {s m s1 m1 : PS} {sp sm : SP} {a : Int} (h : Sim d s m) (hf : Fine d m) (h1 : DoAV s a s1 sp) (h2 : DoAV m a m1 sm) : As d s1 m1 sp sm := by
  unfold DoAV at h1 h2
  by_cases ha : a ∈ m.V
  · rw [if_pos (h.V.mem_iff.2 ha)] at h1
    rw [if_pos ha] at h2
    obtain ⟨rfl, rfl⟩ := h1
    obtain ⟨rfl, rfl⟩ := h2
    exact ⟨h, hf, rfl⟩
  · rw [if_neg (fun x => ha (h.V.mem_iff.1 x))] at h1
    rw [if_neg ha] at h2
    obtain ⟨rfl, rfl⟩ := h1
    obtain ⟨rfl, rfl⟩ := h2
    refine ⟨⟨h.V.append_right _, h.E⟩, ⟨?_, fun e he => ⟨List.mem_append_left _ (hf.ends e he).1, List.mem_append_left _ (hf.ends e he).2⟩, hf.uq⟩, rfl⟩
    rw [List.nodup_append]
    exact ⟨hf.nd, by simp, by rintro x hx y hy rfl; simp at hy; exact ha (hy ▸ hx)⟩

theorem law_rv {d : Bool} {s m s1 m1 : PS} {sp sm : SP} {a : Int} (h : Sim d s m) (hf : Fine d m) (h1 : DoRV s a s1 sp) (h2 : DoRV m a m1 sm) : As d s1 m1 sp sm := by
  unfold DoRV at h1 h2
  by_cases ha : a ∈ m.V
  · rw [if_neg (fun x => x (h.V.mem_iff.2 ha))] at h1
    rw [if_neg (fun x => x ha)] at h2
    by_cases hu : usesV m.E a
    · rw [if_pos (h.uses.2 hu)] at h1
      rw [if_pos hu] at h2
      obtain ⟨rfl, rfl⟩ := h1
      obtain ⟨rfl, rfl⟩ := h2
      exact ⟨h, hf, rfl⟩
    · rw [if_neg (fun x => hu (h.uses.1 x))] at h1
      rw [if_neg hu] at h2
      obtain ⟨rfl, rfl⟩ := h1
      obtain ⟨rfl, rfl⟩ := h2
      refine ⟨⟨h.V.filter _, h.E⟩, ⟨hf.nd.filter _, fun e he => ?_, hf.uq⟩, rfl⟩
      have hne : ¬ (e.1 = a ∨ e.2.1 = a) := fun x => hu (mem_usesV.1 ⟨e, he, x⟩)
      have h3 := hf.ends e he
      refine ⟨List.mem_filter.2 ⟨h3.1, ?_⟩, List.mem_filter.2 ⟨h3.2, ?_⟩⟩
      · simp; exact fun x => hne (Or.inl x)
      · simp; exact fun x => hne (Or.inr x)
  · rw [if_pos (fun x => ha (h.V.mem_iff.1 x))] at h1
    rw [if_pos ha] at h2
    obtain ⟨rfl, rfl⟩ := h1
    obtain ⟨rfl, rfl⟩ := h2
    exact ⟨h, hf, rfl⟩

theorem law_ae {d : Bool} {s m s1 m1 : PS} {sp sm : SP} {a b wt : Int} (h : Sim d s m) (hf : Fine d m) (hab : d = false → a ≠ b) (h1 : DoAE d s a b wt s1 sp) (h2 : DoAE d m a b wt m1 sm) : As d s1 m1 sp sm := by
  unfold DoAE at h1 h2
  by_cases hv : a ∉ m.V ∨ b ∉ m.V
  · rw [if_pos (hv.imp (fun x y => x (h.V.mem_iff.1 y)) (fun x y => x (h.V.mem_iff.1 y)))] at h1
    rw [if_pos hv] at h2
    obtain ⟨rfl, rfl⟩ := h1
    obtain ⟨rfl, rfl⟩ := h2
    exact ⟨h, hf, rfl⟩
  · rw [if_neg (fun x => hv (x.imp (fun x y => x (h.V.mem_iff.2 y)) (fun x y => x (h.V.mem_iff.2 y))))] at h1
    rw [if_neg hv] at h2
    by_cases he : hasE d m.E a b
    · rw [if_pos (h.has.2 he)] at h1
      rw [if_pos he] at h2
      obtain ⟨rfl, rfl⟩ := h1
      obtain ⟨rfl, rfl⟩ := h2
      exact ⟨h, hf, rfl⟩
    · rw [if_neg (fun x => he (h.has.1 x))] at h1
      rw [if_neg he] at h2
      obtain ⟨rfl, rfl⟩ := h1
      obtain ⟨rfl, rfl⟩ := h2
      have hva : a ∈ m.V ∧ b ∈ m.V := ⟨Classical.byContradiction fun x => hv (Or.inl x), Classical.byContradiction fun x => hv (Or.inr x)⟩
      have hno : ¬ ∃ e ∈ stored d m.E, e.1 = a ∧ e.2.1 = b := fun x => he (mem_stored.1 x)
      refine ⟨⟨h.V, ?_⟩, ⟨hf.nd, fun e hm => ?_, ?_⟩, rfl⟩
      · show (stored d (s.E ++ _)).Perm (stored d (m.E ++ _))
        rw [stored_app, stored_app]; exact h.E.append_right _
      · change e ∈ stored d (m.E ++ _) at hm
        rw [stored_app] at hm
        rcases List.mem_append.1 hm with hm | hm
        · exact hf.ends e hm
        · cases d with
          | true => have : e = (a, b, wt) := by simpa [stored] using hm
                    subst this; exact hva
          | false =>
            have : e = (a, b, wt) ∨ e = (b, a, wt) := by simpa [stored, revT] using hm
            rcases this with rfl | rfl
            · exact hva
            · exact ⟨hva.2, hva.1⟩
      · show ((stored d (m.E ++ _)).map prT).Nodup
        rw [stored_app, List.map_append, List.nodup_append]
        cases d with
        | true =>
          refine ⟨hf.uq, by simp [stored], ?_⟩
          rintro x hx y hy rfl
          have : x = (a, b) := by simpa [stored] using hy
          subst this
          obtain ⟨e, he1, he2⟩ := List.mem_map.1 hx
          simp only [Prod.mk.injEq] at he2
          exact hno ⟨e, he1, he2⟩
        | false =>
          have hne := hab rfl
          refine ⟨hf.uq, by simp [stored, revT]; omega, ?_⟩
          rintro x hx y hy rfl
          obtain ⟨e, he1, he2⟩ := List.mem_map.1 hx
          have : x = (a, b) ∨ x = (b, a) := by simpa [stored, revT] using hy
          rcases this with rfl | rfl
          · simp only [Prod.mk.injEq] at he2
            exact hno ⟨e, he1, he2⟩
          · simp only [Prod.mk.injEq] at he2
            exact he (hasE_comm (mem_stored.1 ⟨e, he1, he2⟩))

theorem law_re {d : Bool} {s m s1 m1 : PS} {sp sm : SP} {a b : Int} (h : Sim d s m) (hf : Fine d m) (h1 : DoRE d s a b s1 sp) (h2 : DoRE d m a b m1 sm) : As d s1 m1 sp sm := by
  unfold DoRE at h1 h2
  by_cases he : hasE d m.E a b
  · rw [if_pos (h.has.2 he)] at h1
    rw [if_pos he] at h2
    obtain ⟨rfl, rfl⟩ := h1
    obtain ⟨rfl, rfl⟩ := h2
    refine ⟨⟨h.V, ?_⟩, ⟨hf.nd, fun e hm => ?_, ?_⟩, rfl⟩
    · show (stored d (s.E.filter _)).Perm (stored d (m.E.filter _))
      rw [stored_filter, stored_filter]; exact h.E.filter _
    · change e ∈ stored d (m.E.filter _) at hm
      rw [stored_filter] at hm
      exact hf.ends e (List.mem_filter.1 hm).1
    · show ((stored d (m.E.filter _)).map prT).Nodup
      rw [stored_filter]
      exact hf.uq.sublist ((List.filter_sublist).map _)
  · rw [if_neg (fun x => he (h.has.1 x))] at h1
    rw [if_neg he] at h2
    obtain ⟨rfl, rfl⟩ := h1
    obtain ⟨rfl, rfl⟩ := h2
    exact ⟨h, hf, rfl⟩

theorem law_ue {d : Bool} {s m s1 m1 : PS} {sp sm : SP} {a b wt : Int} (h : Sim d s m) (hf : Fine d m) (h1 : DoUE d s a b wt s1 sp) (h2 : DoUE d m a b wt m1 sm) : As d s1 m1 sp sm := by
  unfold DoUE at h1 h2
  by_cases he : hasE d m.E a b
  · rw [if_pos (h.has.2 he)] at h1
    rw [if_pos he] at h2
    obtain ⟨rfl, rfl⟩ := h1
    obtain ⟨rfl, rfl⟩ := h2
    refine ⟨⟨h.V, ?_⟩, ⟨hf.nd, fun e hm => ?_, ?_⟩, rfl⟩
    · show (stored d (s.E.map _)).Perm (stored d (m.E.map _))
      rw [stored_put, stored_put]; exact h.E.map _
    · change e ∈ stored d (m.E.map _) at hm
      rw [stored_put] at hm
      obtain ⟨x, hx, rfl⟩ := List.mem_map.1 hm
      have h3 := hf.ends x hx
      have h4 := prT_put (d := d) (a := a) (b := b) (wt := wt) x
      simp only [Prod.mk.injEq] at h4
      exact ⟨h4.1 ▸ h3.1, h4.2 ▸ h3.2⟩
    · show ((stored d (m.E.map _)).map prT).Nodup
      rw [stored_put, map_prT_put]
      exact hf.uq
  · rw [if_neg (fun x => he (h.has.1 x))] at h1
    rw [if_neg he] at h2
    obtain ⟨rfl, rfl⟩ := h1
    obtain ⟨rfl, rfl⟩ := h2
    exact ⟨h, hf, rfl⟩

/-- THE PLAIN LAW -/
theorem step_law {d : Bool} {x : Stp} {s m s1 m1 : PS} {sp sm : SP} (h : Sim d s m) (hf : Fine d m) (hab : d = false → x.op = 2 → x.a ≠ x.b) (hi : DoI d x s s1 sp) (hm : DoM d x m m1 sm) : As d s1 m1 sp sm := by
  have hfs := h.fine hf
  unfold DoI at hi
  unfold DoM at hm
  split at hi
  · next h0 => rw [if_pos h0] at hm; exact law_av h hf hi hm
  · next h0 =>
    rw [if_neg h0] at hm
    split at hi
    · next h1 => rw [if_pos h1] at hm; exact law_rv h hf hi hm
    · next h1 =>
      rw [if_neg h1] at hm
      split at hi
      · next h2 => rw [if_pos h2] at hm; exact law_ae h hf (fun e => hab e h2) hi hm
      · next h2 =>
        rw [if_neg h2] at hm
        split at hi
        · next h3 => rw [if_pos h3] at hm; exact law_re h hf hi (hf.re hm)
        · next h3 =>
          rw [if_neg h3] at hm
          split at hi
          · next h4 => rw [if_pos h4] at hm; exact law_ue h hf hi (hf.ue hm)
          · next h4 =>
            rw [if_neg h4] at hm
            split at hi
            · next h5 =>
              rw [if_pos h5] at hm
              obtain ⟨rfl, h6⟩ := hi
              obtain ⟨rfl, h7⟩ := hm
              refine ⟨h, hf, ?_⟩
              rcases h6 with ⟨h6, rfl⟩ | ⟨h6, rfl⟩ <;> rcases h7 with ⟨h7, rfl⟩ | ⟨h7, rfl⟩
              · rfl
              · exact absurd (h.V.mem_iff.1 h6) h7
              · exact absurd (h.V.mem_iff.2 h7) h6
              · rfl
            · next h5 =>
              rw [if_neg h5] at hm
              split at hi
              · next h6 =>
                rw [if_pos h6] at hm
                obtain ⟨rfl, h7⟩ := hi
                obtain ⟨rfl, h8⟩ := hm
                refine ⟨h, hf, ?_⟩
                rcases h7 with ⟨h7, rfl⟩ | ⟨w1, h7, rfl⟩ <;> rcases h8 with ⟨h8, rfl⟩ | ⟨w2, h8, rfl⟩
                · rfl
                · exact absurd (h.has.2 (mem_stored.1 ⟨_, h8, rfl, rfl⟩)) h7
                · exact absurd (h.has.1 (mem_stored.1 ⟨_, h7, rfl, rfl⟩)) h8
                · have := inj_of_nodup hf.uq (h.E.mem_iff.1 h7) h8 rfl
                  simp only [Prod.mk.injEq, true_and] at this
                  rw [this]
              · next h6 =>
                rw [if_neg h6] at hm
                split at hi
                · next h7 =>
                  rw [if_pos h7] at hm
                  obtain ⟨rfl, rfl⟩ := hi
                  obtain ⟨rfl, rfl⟩ := hm
                  exact ⟨h, hf, by rw [h.V.length_eq, h.lenE]⟩
                · next h7 =>
                  rw [if_neg h7] at hm
                  split at hi
                  · next h8 =>
                    rw [if_pos h8] at hm
                    obtain ⟨rfl, a1, a2, a3, a4, a5, a6, a7⟩ := hi
                    obtain ⟨rfl, b1, b2, b3, b4, b5, b6, b7⟩ := hm
                    have hn := norm_perm h hf
                    exact ⟨h, hf, SP.ext' (by rw [a1, b1]) (by rw [a2, b2]) (by rw [a3, b3]) (by rw [a4, b4]) (by rw [a5, b5]) (edges_eq a6 b6 hn.1 hn.2 a7 b7)⟩
                  · next h8 =>
                    rw [if_neg h8] at hm
                    split at hi
                    · next h9 =>
                      rw [if_pos h9] at hm
                      obtain ⟨rfl, a1, a2, a3, a4, a5, a6, a7, a8⟩ := hi
                      obtain ⟨rfl, b1, b2, b3, b4, b5, b6, b7, b8⟩ := hm
                      rw [both_adj (fun e => by subst e; exact loop_of hf.uq)] at b7
                      exact ⟨h, hf, SP.ext' (by rw [a1, b1]) (by rw [a2, b2]) (by rw [a3, b3]) (by rw [a4, b4]) (keys_eq a5 b5 h.V a6 b6) (edges_eq a7 b7 h.E hf.uq a8 b8)⟩
                    · next h9 =>
                      rw [if_neg h9] at hm
                      split at hi
                      · next h10 =>
                        rw [if_pos h10] at hm
                        obtain ⟨rfl, a1, a2, a3, a4, a5, a6, a7, a8⟩ := hi
                        obtain ⟨rfl, b1, b2, b3, b4, b5, b6, b7, b8⟩ := hm
                        rw [both_pred (fun e => by subst e; exact loop_of hf.uq)] at b7
                        have hn := pred_perm h hf
                        exact ⟨h, hf, SP.ext' (by rw [a1, b1]) (by rw [a2, b2]) (by rw [a3, b3]) (by rw [a4, b4]) (keys_eq a5 b5 h.V a6 b6) (edges_eq a7 b7 hn.1 hn.2 a8 b8)⟩
                      · next h10 =>
                        rw [if_neg h10] at hm
                        obtain ⟨h11, rfl⟩ := hi
                        obtain ⟨rfl, rfl⟩ := hm
                        exact ⟨h11.trans h, hf, rfl⟩
end Go.Proofs.YtcenebjdhbdejaaGreatDoor

namespace Go.Proofs.YtcenebjdhbdejaaGreatDoor
open Go.MapKept

/-- said and results, behind the switch -/
theorem doSaid {w w3 : World} {op a b wt : Int} {N mm : Nat} {dir prev : Bool} {s : PS} {vs es : Value} {D : PS → SP → Prop} (h : DW w op a b wt w3) (hm : Mo w3 N mm dir prev s vs es) (hmm : mm < w.heap.size) {er x y z : Int} (hD : D s ⟨er, x, y, z, [], []⟩) {W : World}
    (hw : Ext (fun c => c = w.heap.size + 2) w3 W) :
    DoPost dir prev N mm D w (.returned (saidV er x y z nilS nilS)) ((((((W.setCell ⟨w.heap.size + 1, 0, none⟩ (.int .u8 er)).setCell ⟨w.heap.size + 1, 1, none⟩ (.int .i64 x)).setCell ⟨w.heap.size + 1, 2, none⟩ (.int .i64 y)).setCell ⟨w.heap.size + 1, 3, none⟩ (.int .i64 z)).setCell ⟨w.heap.size + 1, 4, none⟩ nilS).setCell ⟨w.heap.size + 1, 5, none⟩ nilS) := by
  have e : Ext (fun c => c = w.heap.size + 2 ∨ c = w.heap.size + 1) w3 _ := Ext.set6 (S := fun c => c = w.heap.size + 2 ∨ c = w.heap.size + 1) (hw.mono (fun _ _ hc => Or.inl hc)) (b := w.heap.size + 1) (Or.inr rfl) (.int .u8 er) (.int .i64 x) (.int .i64 y) (.int .i64 z) nilS nilS
  have hr : ∀ {B ee size n : Nat} {v : Value} {xs : List Value}, w3.ownsRow B ee size v n xs → ee ≠ 41 → ∀ c, v.ownBlock = some c → ¬ (c = w.heap.size + 2 ∨ c = w.heap.size + 1) := by
    intro B ee size n v xs ho hne c hc hh
    rcases hh with rfl | rfl
    · exact row_ne h.said ho (Ne.symm hne) hc
    · exact row_ne h.res ho (Ne.symm hne) hc
  exact ⟨s, ⟨er, x, y, z, [], []⟩, vs, es, nilS, nilS, rfl, hD, hm.ext e (by omega) (hr hm.V (by decide)) (hr hm.E (by decide)), nil_own, nil_own, (h.he.then e (fun c hc hh => by omega)).no⟩

theorem doSaid_row {w w3 W : World} {op a b wt : Int} (h : DW w op a b wt w3) (hw : Ext (fun c => c = w.heap.size + 2) w3 W) (er x y z : Int) :
    ((((((W.setCell ⟨w.heap.size + 1, 0, none⟩ (.int .u8 er)).setCell ⟨w.heap.size + 1, 1, none⟩ (.int .i64 x)).setCell ⟨w.heap.size + 1, 2, none⟩ (.int .i64 y)).setCell ⟨w.heap.size + 1, 3, none⟩ (.int .i64 z)).setCell ⟨w.heap.size + 1, 4, none⟩ nilS).setCell ⟨w.heap.size + 1, 5, none⟩ nilS).heap[w.heap.size + 1]? = some (.cells #[.int .u8 er, .int .i64 x, .int .i64 y, .int .i64 z, nilS, nilS] 41 (0, 0)) :=
  set6 (hw.obj h.res (by omega)) _ _ _ _ _ _

set_option maxRecDepth 100000 in
set_option maxHeartbeats 2000000 in
theorem do_vx {w : World} {N mm : Nat} {dir prev : Bool} {s : PS} {vs es : Value} {a b wt : Int} (h : Mo w N mm dir prev s vs es) (hN : N ≤ w.heap.size) (hl : s.V.length + s.E.length < 900000) :
    Calls Tryz.prog 14 #[.pointer (some ⟨mm, 0, none⟩), stepV 5 a b wt] w (DoPost dir prev N mm (DoVX s a) w) := by
  have HM := Lib.hid (And.intro h (And.intro hN hl))
  clear h hN hl
  go_enter Tryz.func14, Tryz.ntmps14
  go_wp2_with fail
  have e0 : Ext No w (dw w 5 a b wt) := dw_ext w 5 a b wt
  refine (at_run (HM.out.1.no e0) (by have := HM.out.2.2; omega)).mono ?_
  rintro r1 w2 ⟨n, rfl, hat, he⟩
  have HE := Lib.hid (DW.of he (w := w) (op := 5) (a := a) (b := b) (wt := wt))
  have HM2 := Lib.hid (HM.out.1.no (e0.trans he))
  clear he e0 hat
  obtain ⟨x0, x1, x2, x3, -⟩ := cells4 HE.out.step
  obtain ⟨y0, y1, y2, y3, y4, y5, g0, g1, g2, g3, g4, g5⟩ := cells6 HE.out.said
  obtain ⟨z0, z1, z2, z3, z4, z5, q0, q1, q2, q3, q4, q5⟩ := cells6 HE.out.res
  have lx := World.block_lt_of_cell? _ _ x0
  have ly := World.block_lt_of_cell? _ _ y0
  have lz := World.block_lt_of_cell? _ _ z0
  by_cases ha : a ∈ s.V
  · have hd : decide (a ∈ s.V) = true := by simpa using ha
    go_wp2_with (go_at_call 26; (refine (has_run HM2.out (by have := HM.out.2.2; omega)).mono ?_); rintro r3 w3 ⟨rfl, rfl⟩; rw [hd])
    refine bodyPost_ret (v := saidV 0 a 0 0 nilS nilS) ?hr rfl ?hR
    case hR => exact doSaid HE.out HM2.out (HM.out.1.lt' HM.out.2.1) (⟨rfl, Or.inl ⟨ha, rfl⟩⟩) ((Ext.refl (fun c => c = w.heap.size + 2) _).setCell ⟨w.heap.size + 2, 1, none⟩ (.int .i64 a) (fun _ => rfl))
    case hr => exact results_cell1 (fn := Tryz.f14) (g := w.heap.size + 1) (p := 4) (ty := 41) rfl rfl (doSaid_row HE.out ((Ext.refl (fun c => c = w.heap.size + 2) _).setCell ⟨w.heap.size + 2, 1, none⟩ (.int .i64 a) (fun _ => rfl)) 0 a 0 0) Tryz.underlying41 rfl sz41
  · have hd : decide (a ∈ s.V) = false := by simpa using ha
    go_wp2_with (go_at_call 26; (refine (has_run HM2.out (by have := HM.out.2.2; omega)).mono ?_); rintro r3 w3 ⟨rfl, rfl⟩; rw [hd])
    refine bodyPost_ret (v := saidV 2 0 0 0 nilS nilS) ?hr rfl ?hR
    case hR => exact doSaid HE.out HM2.out (HM.out.1.lt' HM.out.2.1) (⟨rfl, Or.inr ⟨ha, rfl⟩⟩) ((Ext.refl (fun c => c = w.heap.size + 2) _).setCell ⟨w.heap.size + 2, 0, none⟩ (.int .u8 2) (fun _ => rfl))
    case hr => exact results_cell1 (fn := Tryz.f14) (g := w.heap.size + 1) (p := 4) (ty := 41) rfl rfl (doSaid_row HE.out ((Ext.refl (fun c => c = w.heap.size + 2) _).setCell ⟨w.heap.size + 2, 0, none⟩ (.int .u8 2) (fun _ => rfl)) 2 0 0 0) Tryz.underlying41 rfl sz41

set_option maxRecDepth 100000 in
set_option maxHeartbeats 2000000 in
theorem do_cl {w : World} {N mm : Nat} {dir prev : Bool} {s : PS} {vs es : Value} {a b wt : Int} (h : Mo w N mm dir prev s vs es) (hN : N ≤ w.heap.size) (hl : s.V.length + s.E.length < 900000) :
    Calls Tryz.prog 14 #[.pointer (some ⟨mm, 0, none⟩), stepV 11 a b wt] w (DoPost dir prev N mm (fun s' sp => s' = s ∧ sp = .err 0) w) := by
  have HM := Lib.hid (And.intro h (And.intro hN hl))
  clear h hN hl
  go_enter Tryz.func14, Tryz.ntmps14
  go_wp2_with fail
  have e0 : Ext No w (dw w 11 a b wt) := dw_ext w 11 a b wt
  refine (at_run (HM.out.1.no e0) (by have := HM.out.2.2; omega)).mono ?_
  rintro r1 w2 ⟨n, rfl, hat, he⟩
  have HE := Lib.hid (DW.of he (w := w) (op := 11) (a := a) (b := b) (wt := wt))
  have HM2 := Lib.hid (HM.out.1.no (e0.trans he))
  clear he e0 hat
  obtain ⟨x0, x1, x2, x3, -⟩ := cells4 HE.out.step
  obtain ⟨y0, y1, y2, y3, y4, y5, g0, g1, g2, g3, g4, g5⟩ := cells6 HE.out.said
  obtain ⟨z0, z1, z2, z3, z4, z5, q0, q1, q2, q3, q4, q5⟩ := cells6 HE.out.res
  have lx := World.block_lt_of_cell? _ _ x0
  have ly := World.block_lt_of_cell? _ _ y0
  have lz := World.block_lt_of_cell? _ _ z0
  have hX := Ext.refl (fun c => c = w.heap.size + 2) w2
  · go_wp2
    refine bodyPost_ret (v := saidV 0 0 0 0 nilS nilS) ?hr rfl ?hR
    case hR => exact doSaid HE.out HM2.out (HM.out.1.lt' HM.out.2.1) (⟨rfl, rfl⟩) (hX)
    case hr => exact results_cell1 (fn := Tryz.f14) (g := w.heap.size + 1) (p := 4) (ty := 41) rfl rfl (doSaid_row HE.out (hX) 0 0 0 0) Tryz.underlying41 rfl sz41

set_option maxRecDepth 100000 in
set_option maxHeartbeats 2000000 in
theorem do_ct {w : World} {N mm : Nat} {dir prev : Bool} {s : PS} {vs es : Value} {a b wt : Int} (h : Mo w N mm dir prev s vs es) (hN : N ≤ w.heap.size) (hl : s.V.length + s.E.length < 900000) :
    Calls Tryz.prog 14 #[.pointer (some ⟨mm, 0, none⟩), stepV 7 a b wt] w (DoPost dir prev N mm (DoCT s) w) := by
  have HM := Lib.hid (And.intro h (And.intro hN hl))
  clear h hN hl
  go_enter Tryz.func14, Tryz.ntmps14
  go_wp2_with fail
  have e0 : Ext No w (dw w 7 a b wt) := dw_ext w 7 a b wt
  refine (at_run (HM.out.1.no e0) (by have := HM.out.2.2; omega)).mono ?_
  rintro r1 w2 ⟨n, rfl, hat, he⟩
  have HE := Lib.hid (DW.of he (w := w) (op := 7) (a := a) (b := b) (wt := wt))
  have HM2 := Lib.hid (HM.out.1.no (e0.trans he))
  clear he e0 hat
  obtain ⟨x0, x1, x2, x3, -⟩ := cells4 HE.out.step
  obtain ⟨y0, y1, y2, y3, y4, y5, g0, g1, g2, g3, g4, g5⟩ := cells6 HE.out.said
  obtain ⟨z0, z1, z2, z3, z4, z5, q0, q1, q2, q3, q4, q5⟩ := cells6 HE.out.res
  have lx := World.block_lt_of_cell? _ _ x0
  have ly := World.block_lt_of_cell? _ _ y0
  have lz := World.block_lt_of_cell? _ _ z0
  obtain ⟨m0, m1, m2, m3, -⟩ := cells4 HM2.out.row
  have lm := World.block_lt_of_cell? _ _ m0
  obtain ⟨qv, cv, rfl, -⟩ := own_read (f := oneC) (fun _ => rfl) HM.out.1.V
  obtain ⟨qe, ce, rfl, -⟩ := own_read (f := triC) (fun _ => rfl) HM.out.1.E
  have hmm := HM.out.1.lt' HM.out.2.1
  have hne : ¬ w.heap.size + 1 + 1 = mm := by omega
  have HMM := Lib.hid hmm
  clear hmm
  go_wp2_with fail
  go_region
  · have hX : Ext (fun c => c = w.heap.size + 2) w2 ((w2.setCell ⟨w.heap.size + 2, 1, none⟩ (.int .i64 (s.V.length : Int))).setCell ⟨w.heap.size + 2, 2, none⟩ (.int .i64 (s.E.length : Int))).drew := (((Ext.refl (fun c => c = w.heap.size + 2) w2).setCell ⟨w.heap.size + 2, 1, none⟩ (.int .i64 (s.V.length : Int)) (fun _ => rfl)).setCell ⟨w.heap.size + 2, 2, none⟩ (.int .i64 (s.E.length : Int)) (fun _ => rfl)).drew
    have hS : ((w2.setCell ⟨w.heap.size + 2, 1, none⟩ (.int .i64 (s.V.length : Int))).setCell ⟨w.heap.size + 2, 2, none⟩ (.int .i64 (s.E.length : Int))).drew.heap[w.heap.size + 2]? = some (.cells #[.int .u8 0, .int .i64 (s.V.length : Int), .int .i64 (s.E.length : Int), .int .i64 0, nilS, nilS] 41 (0, 0)) := at_drew (set_heap (o := 2) (set_heap (o := 1) HE.out.said (.int .i64 (s.V.length : Int))) (.int .i64 (s.E.length : Int)))
    have HX := Lib.hid (And.intro hX hS)
    clear hX hS x0 x1 x2 x3 y0 y1 y2 y3 y4 y5 g0 g1 g2 g3 g4 g5 z0 z1 z2 z3 z4 z5 q0 q1 q2 q3 q4 q5 lx ly lz m0 m1 m2 m3 lm hne
    generalize ((w2.setCell ⟨w.heap.size + 1 + 1, 1, none⟩ (.int .i64 (s.V.length : Int))).setCell ⟨w.heap.size + 1 + 1, 2, none⟩ (.int .i64 (s.E.length : Int))).drew = W at HX ⊢
    obtain ⟨y0, y1, y2, y3, y4, y5, g0, g1, g2, g3, g4, g5⟩ := cells6 HX.out.2
    obtain ⟨z0, z1, z2, z3, z4, z5, q0, q1, q2, q3, q4, q5⟩ := cells6 (HX.out.1.obj HE.out.res (by omega))
    have ly := World.block_lt_of_cell? _ _ y0
    have lz := World.block_lt_of_cell? _ _ z0
    go_wp2
    refine bodyPost_ret (v := saidV 0 (s.V.length : Int) (s.E.length : Int) 0 nilS nilS) ?hr rfl ?hR
    case hR => exact doSaid HE.out HM2.out (HM.out.1.lt' HM.out.2.1) (⟨rfl, rfl⟩) (HX.out.1)
    case hr => exact results_cell1 (fn := Tryz.f14) (g := w.heap.size + 1) (p := 4) (ty := 41) rfl rfl (doSaid_row HE.out (HX.out.1) 0 (s.V.length : Int) (s.E.length : Int) 0) Tryz.underlying41 rfl sz41
end Go.Proofs.YtcenebjdhbdejaaGreatDoor

namespace Go.Proofs.YtcenebjdhbdejaaGreatDoor
open Go.MapKept

def useB (a : Int) (e : Tri) : Bool := e.1 == a || e.2.1 == a
theorem use_any {E : List Tri} {a : Int} : E.any (useB a) = true ↔ usesV E a := by
  simp [useB, usesV]
def errN (a : Int) (E : List Tri) : Int := if E.any (useB a) then 3 else 0
abbrev saidE (n : Int) : Obj := .cells #[.int .u8 n, .int .i64 0, .int .i64 0, .int .i64 0, nilS, nilS] 41 (0, 0)

/-- a round over the edges -/
def VR1 (w w2 : World) (a : Int) (E : List Tri) (k : Nat) (iv : Value) (wr : World) : Prop :=
  ∃ i : Nat, iv = .int .i64 i ∧ i + k = E.length ∧ wr.heap[w.heap.size + 2]? = some (saidE (errN a (E.take i))) ∧ Ext (fun c => c = w.heap.size + 2) w2 wr

/-- a round over the vertices -/
def VR2 (w3 : World) (a : Int) (V : List Int) (k : Nat) (lv iv : Value) (wr : World) : Prop :=
  ∃ i : Nat, iv = .int .i64 i ∧ i + k = V.length ∧ wr.ownsRow w3.heap.size 2 1 lv ((V.take i).filter (fun x => !(x == a))).length (((V.take i).filter (fun x => !(x == a))).flatMap oneC) ∧ Ext No w3 wr

theorem any_snoc {p : Tri → Bool} {E : List Tri} {i : Nat} (hlt : i < E.length) : (E.take (i + 1)).any p = ((E.take i).any p || p E[i]) := by
  rw [List.take_add_one, List.getElem?_eq_getElem hlt, List.any_append]
  simp
theorem VR1.next {w w2 wr W : World} {a : Int} {E : List Tri} {i : Nat} (hl : E.length < 1000000) (hlt : i < E.length) (hr : wr.heap[w.heap.size + 2]? = some (saidE (errN a (E.take i)))) (he : Ext (fun c => c = w.heap.size + 2) w2 wr) (hW : Ext No wr W) (hu : useB a E[i] = false) :
    VR1 w w2 a E (E.length - (i + 1)) (.int .i64 (RowKit.wrap64 ((i : Int) + 1))) W := by
  refine ⟨i + 1, by rw [w64 (by omega)], by omega, ?_, he.trans hW.no⟩
  have e : errN a (E.take (i + 1)) = errN a (E.take i) := by
    unfold errN
    rw [any_snoc hlt, hu, Bool.or_false]
  rw [e]
  exact hW.obj hr id
theorem VR1.put {w w2 wr W : World} {a : Int} {E : List Tri} {i : Nat} (hl : E.length < 1000000) (hlt : i < E.length) (hr : wr.heap[w.heap.size + 2]? = some (saidE (errN a (E.take i)))) (he : Ext (fun c => c = w.heap.size + 2) w2 wr) (hu : useB a E[i] = true) (hW : Ext No (wr.setCell ⟨w.heap.size + 2, 0, none⟩ (.int .u8 3)) W) :
    VR1 w w2 a E (E.length - (i + 1)) (.int .i64 (RowKit.wrap64 ((i : Int) + 1))) W := by
  refine ⟨i + 1, by rw [w64 (by omega)], by omega, ?_, (he.setCell _ _ (fun _ => rfl)).trans hW.no⟩
  have e : errN a (E.take (i + 1)) = 3 := by
    unfold errN
    rw [any_snoc hlt, hu, Bool.or_true, if_pos rfl]
  rw [e]
  exact hW.obj (set_heap (o := 0) hr (.int .u8 3)) id

theorem Mo.said {w w2 wr : World} {op a b wt : Int} {N mm : Nat} {dir prev : Bool} {s : PS} {vs es : Value} (h : DW w op a b wt w2) (hm : Mo w2 N mm dir prev s vs es) (hmm : mm < w.heap.size) (he : Ext (fun c => c = w.heap.size + 2) w2 wr) : Mo wr N mm dir prev s vs es :=
  hm.ext he (by omega) (fun c hc e => row_ne h.said hm.V (by decide) (by rw [hc, e])) (fun c hc e => row_ne h.said hm.E (by decide) (by rw [hc, e]))

set_option maxRecDepth 100000 in
set_option maxHeartbeats 4000000 in
theorem do_rv {w : World} {N mm : Nat} {dir prev : Bool} {s : PS} {vs es : Value} {a b wt : Int} (h : Mo w N mm dir prev s vs es) (hN : N ≤ w.heap.size) (hl : s.V.length + s.E.length < 900000) :
    Calls Tryz.prog 14 #[.pointer (some ⟨mm, 0, none⟩), stepV 1 a b wt] w (DoPost dir prev N mm (DoRV s a) w) := by
  have HM := Lib.hid (And.intro h (And.intro hN hl))
  clear h hN hl
  go_enter Tryz.func14, Tryz.ntmps14
  go_wp2_with fail
  have e0 : Ext No w (dw w 1 a b wt) := dw_ext w 1 a b wt
  refine (at_run (HM.out.1.no e0) (by have := HM.out.2.2; omega)).mono ?_
  rintro r1 w2 ⟨n, rfl, hat, he⟩
  have HE := Lib.hid (DW.of he (w := w) (op := 1) (a := a) (b := b) (wt := wt))
  have HM2 := Lib.hid (HM.out.1.no (e0.trans he))
  clear he e0 hat
  obtain ⟨x0, x1, x2, x3, -⟩ := cells4 HE.out.step
  obtain ⟨y0, y1, y2, y3, y4, y5, g0, g1, g2, g3, g4, g5⟩ := cells6 HE.out.said
  obtain ⟨z0, z1, z2, z3, z4, z5, q0, q1, q2, q3, q4, q5⟩ := cells6 HE.out.res
  have lx := World.block_lt_of_cell? _ _ x0
  have ly := World.block_lt_of_cell? _ _ y0
  have lz := World.block_lt_of_cell? _ _ z0
  by_cases ha : a ∈ s.V
  · have hd : decide (a ∈ s.V) = true := by simpa using ha
    obtain ⟨m0, m1, m2, m3, -⟩ := cells4 HM2.out.row
    have lm := World.block_lt_of_cell? _ _ m0
    obtain ⟨qv, cv, rfl, -⟩ := own_read (f := oneC) (fun _ => rfl) HM.out.1.V
    obtain ⟨qe, ce, rfl, -⟩ := own_read (f := triC) (fun _ => rfl) HM.out.1.E
    have HA := Lib.hid ha
    clear ha
    go_wp2_with (go_at_call 26; (refine (has_run HM2.out (by have := HM.out.2.2; omega)).mono ?_); rintro r3 w3 ⟨rfl, hw3⟩; rw [hw3]; clear hw3; rw [hd])
    try go_frame
    clear x0 x1 x2 x3 y0 y1 y2 y3 y4 y5 g0 g1 g2 g3 g4 g5 z0 z1 z2 z3 z4 z5 q0 q1 q2 q3 q4 q5 lx ly lz m0 m1 m2 m3 lm hd
    go_loopg [65] s.E.length (fun k iv wr => VR1 w w2 a s.E k iv wr)
    case atStart => exact ⟨0, rfl, by simp, HE.out.said, Ext.refl _ _⟩
    case round =>
      obtain ⟨i, rfl, hk, hrow, he⟩ := hrel
      have hM := HM2.out.said HE.out (HM.out.1.lt' HM.out.2.1) he
      have hstep := he.obj HE.out.step (by omega)
      by_cases hlt : i < s.E.length
      · obtain ⟨g, rfl, hg, hc⟩ := own_at (f := triC) (fun _ => rfl) hM.E hlt
        have c0 : wr.cell? ⟨g, i * 3, none⟩ = some (kI (s.E[i]'hlt).1) := hc 0 (by decide)
        have c1 : wr.cell? ⟨g, i * 3 + 1, none⟩ = some (kI (s.E[i]'hlt).2.1) := hc 1 (by decide)
        have c2 : wr.cell? ⟨g, i * 3 + 2, none⟩ = some (.int .i64 (s.E[i]'hlt).2.2) := hc 2 (by decide)
        have hlt' : (i : Int) < (s.E.length : Int) := by omega
        have HK := Lib.hid (And.intro hk (And.intro hrow (And.intro he hM)))
        obtain ⟨y0, y1, y2, y3, y4, y5, g0, g1, g2, g3, g4, g5⟩ := cells6 hrow
        obtain ⟨x0, x1, x2, x3, -⟩ := cells4 hstep
        have lx := World.block_lt_of_cell? _ _ x0
        have ly := World.block_lt_of_cell? _ _ y0
        clear hk hrow he hM hstep hc y1 y2 y3 y4 y5 g1 g2 g3 g4 g5 x0 x2 x3
        have hcs : ((s.E[i]'hlt).1 == a) = true ∨ (((s.E[i]'hlt).1 == a) = false ∧ ((s.E[i]'hlt).2.1 == a) = true) ∨ (((s.E[i]'hlt).1 == a) = false ∧ ((s.E[i]'hlt).2.1 == a) = false) := by
          cases ((s.E[i]'hlt).1 == a) <;> cases ((s.E[i]'hlt).2.1 == a) <;> simp
        rcases hcs with h1 | ⟨h1, h2⟩ | ⟨h1, h2⟩
        · have HU : RowKit.Hid (useB a (s.E[i]'hlt) = true) := Lib.hid (by simp [useB, h1])
          go_wp2
          go_roundg (s.E.length - (i + 1))
          case measure => have := HK.out.1; omega
          case rel => exact VR1.put (by have := HM.out.2.2; omega) hlt HK.out.2.1 HK.out.2.2.1 HU.out ((Ext.refl _ _).alloc _)
        · have HU : RowKit.Hid (useB a (s.E[i]'hlt) = true) := Lib.hid (by simp [useB, h1, h2])
          go_wp2
          go_roundg (s.E.length - (i + 1))
          case measure => have := HK.out.1; omega
          case rel => exact VR1.put (by have := HM.out.2.2; omega) hlt HK.out.2.1 HK.out.2.2.1 HU.out ((Ext.refl _ _).alloc _)
        · have HU : RowKit.Hid (useB a (s.E[i]'hlt) = false) := Lib.hid (by simp [useB, h1, h2])
          go_wp2
          go_roundg (s.E.length - (i + 1))
          case measure => have := HK.out.1; omega
          case rel => exact VR1.next (by have := HM.out.2.2; omega) hlt HK.out.2.1 HK.out.2.2.1 ((Ext.refl _ _).alloc _) HU.out
      · have hnlt : ¬ (i : Int) < (s.E.length : Int) := by omega
        have hi : i = s.E.length := by omega
        subst hi
        rw [List.take_length] at hrow
        have hmm := HM.out.1.lt' HM.out.2.1
        have hresr := he.obj HE.out.res (by omega)
        by_cases hu : usesV s.E a
        · have e3 : errN a s.E = 3 := by unfold errN; rw [if_pos (use_any.2 hu)]
          rw [e3] at hrow
          obtain ⟨y0, y1, y2, y3, y4, y5, g0, g1, g2, g3, g4, g5⟩ := cells6 hrow
          obtain ⟨z0, z1, z2, z3, z4, z5, q0, q1, q2, q3, q4, q5⟩ := cells6 hresr
          have ly := World.block_lt_of_cell? _ _ y0
          have lz := World.block_lt_of_cell? _ _ z0
          have HK := Lib.hid (And.intro he hu)
          clear hk hrow he hM hstep hmm hresr hu e3
          go_wp2
          refine bodyPost_ret (v := saidV 3 0 0 0 nilS nilS) ?hr rfl ?hR
          case hR => exact doSaid HE.out HM2.out (HM.out.1.lt' HM.out.2.1) (by unfold DoRV; rw [if_neg (fun x => x HA.out), if_pos HK.out.2]; exact ⟨rfl, rfl⟩) HK.out.1
          case hr => exact results_cell1 (fn := Tryz.f14) (g := w.heap.size + 1) (p := 4) (ty := 41) rfl rfl (doSaid_row HE.out HK.out.1 3 0 0 0) Tryz.underlying41 rfl sz41
        · have e3 : errN a s.E = 0 := by unfold errN; rw [if_neg (fun h => hu (use_any.1 h))]
          rw [e3] at hrow
          have HE3 : RowKit.Hid (DW w 1 a b wt wr) := Lib.hid ⟨hstep, hresr, hrow, HE.out.he.then he (fun c hc e => by omega)⟩
          have HM3 := Lib.hid hM
          obtain ⟨y0, y1, y2, y3, y4, y5, g0, g1, g2, g3, g4, g5⟩ := cells6 hrow
          obtain ⟨m0, m1, m2, m3, -⟩ := cells4 hM.row
          have ly := World.block_lt_of_cell? _ _ y0
          have lm := World.block_lt_of_cell? _ _ m0
          have HU := Lib.hid hu
          clear hk hrow he hM hstep hresr hmm hu e3 y1 y2 y3 y4 y5 g0 g1 g2 g3 g4 g5 m0 m1 m3
          go_wp2_with fail
          try go_frame
          clear y0 m2 ly lm
          go_loopg [9, 91] s.V.length (fun k lv iv wq => VR2 wr a s.V k lv iv wq)
          case atStart => exact ⟨0, rfl, by simp, nil_own, Ext.refl _ _⟩
          case round =>
            obtain ⟨i, rfl, hk, ho, he⟩ := hrel
            have hT0 : ∃ T, (s.V.take i).filter (fun x => !(x == a)) = T := ⟨_, rfl⟩
            obtain ⟨T, hT0⟩ := hT0
            rw [hT0] at ho
            obtain ⟨q2, cap2, rfl, -⟩ := own_read (f := oneC) (fun _ => rfl) ho
            by_cases hlt : i < s.V.length
            · obtain ⟨g, rfl, hg, hc⟩ := own_at (f := oneC) (fun _ => rfl) (HM3.out.no he).V hlt
              have c0 : wr.cell? ⟨g, i, none⟩ = some (kI (s.V[i]'hlt)) := by have := hc 0 (by decide); simpa using this
              obtain ⟨x0, x1, x2, x3, -⟩ := cells4 (he.obj HE3.out.step id)
              have lx := World.block_lt_of_cell? _ _ x0
              have hlt' : (i : Int) < (s.V.length : Int) := by omega
              have hTl : T.length ≤ i := by rw [← hT0]; have := List.length_filter_le (fun x => !(x == a)) (s.V.take i); rw [List.length_take] at this; omega
              generalize hx : s.V[i]'hlt = x at c0
              have hTn : (s.V.take (i + 1)).filter (fun x => !(x == a)) = T ++ [x].filter (fun x => !(x == a)) := by rw [List.take_add_one, List.getElem?_eq_getElem hlt, List.filter_append, hT0, hx]; rfl
              have HK := Lib.hid (And.intro hk (And.intro ho (And.intro he (And.intro hTl hTn))))
              clear hk ho he hc hT0 hTl hTn x0 x2 x3 hx
              by_cases hxa : x = a
              · have hb : (x != a) = false := by simp [hxa]
                have hf : [x].filter (fun x => !(x == a)) = [] := by simp [hxa]
                have HF := Lib.hid hf
                clear hf hxa
                go_wp2
                go_roundg (s.V.length - (i + 1))
                case measure => have := HK.out.1; omega
                case rel => exact ⟨i + 1, by rw [w64 (by have := HM.out.2.2; omega)], by omega, by rw [HK.out.2.2.2.2, HF.out, List.append_nil]; exact HK.out.2.1, HK.out.2.2.1⟩
              · have hb : (x != a) = true := by simp [hxa]
                have hf : [x].filter (fun x => !(x == a)) = [x] := by simp [hxa]
                have HF := Lib.hid hf
                clear hf hxa
                go_wp2_with (at_builtin; (refine wpL_append1 rfl rfl U26 I2 rfl (by decide) (by decide) (f := oneC) (fun _ => rfl) oneC_one rfl (HK.out.2.1.alloc (.cells #[kI x] 2)) x rfl ⟨2, (0, 0), (heap_alloc _ _).1⟩ (by have := HM.out.2.2; have := HK.out.2.2.2.1; omega) (HK.out.2.2.1.alloc _).size ?_); intro v1 wa hoa hea hba; have HA1 := Lib.hid (And.intro hoa hea); clear hoa hea hba)
                go_roundg (s.V.length - (i + 1))
                case measure => have := HK.out.1; omega
                case rel =>
                  obtain ⟨hk, ho, he, hTl, hTn⟩ := HK.out
                  exact ⟨i + 1, by rw [w64 (by have := HM.out.2.2; omega)], by omega, by rw [hTn, HF.out]; exact HA1.out.1, (he.alloc _).then HA1.out.2 (fun c hc e => by have := (ho.lt c e.symm).1; omega)⟩
            · have hnlt : ¬ (i : Int) < (s.V.length : Int) := by omega
              have hi : i = s.V.length := by omega
              subst hi
              rw [List.take_length] at hT0
              obtain ⟨m0, m1, m2, m3, mf0, mf1, mf2, mf3⟩ := cells4 (he.obj HM3.out.row id)
              have lm := World.block_lt_of_cell? _ _ m0
              have HK := Lib.hid (And.intro ho (And.intro he hT0))
              clear hk ho he hT0 m0 m1 m3 mf0 mf1 mf3
              go_upto_region 65 with (fail)
              have HZ : RowKit.Hid (AvEnd w N mm dir prev ⟨T, s.E⟩ (.slice q2 T.length cap2) (.slice qe s.E.length ce) (wr.setCell ⟨mm, 2, none⟩ (.slice q2 T.length cap2))) := Lib.hid (AvEnd.of HE3.out HM3.out HM.out.2.1 (HM.out.1.lt' HM.out.2.1) HK.out.2.1 HK.out.1)
              generalize wr.setCell ⟨mm, 2, none⟩ (.slice q2 T.length cap2) = W5 at HZ ⊢
              clear m2 mf2 lm
              obtain ⟨y0, y1, y2, y3, y4, y5, g0, g1, g2, g3, g4, g5⟩ := cells6 HZ.out.said
              obtain ⟨z0, z1, z2, z3, z4, z5, q0, q1, q2', q3, q4, q5⟩ := cells6 HZ.out.res
              have ly := World.block_lt_of_cell? _ _ y0
              have lz := World.block_lt_of_cell? _ _ z0
              go_wp2
              refine bodyPost_ret (v := saidV 0 0 0 0 nilS nilS) ?hr rfl ?hR
              case hR =>
                have h := HZ.out
                have e7 := (Ext.refl (fun c => c = w.heap.size + 1) W5).set6 (b := w.heap.size + 1) rfl (.int .u8 0) (.int .i64 0) (.int .i64 0) (.int .i64 0) nilS nilS
                exact ⟨⟨T, s.E⟩, .err 0, _, _, nilS, nilS, rfl, by unfold DoRV; rw [if_neg (fun x => x HA.out), if_neg HU.out, HK.out.2.2]; exact ⟨rfl, rfl⟩, h.M.ext e7 (fun e => by have := HM.out.1.lt' HM.out.2.1; omega) (fun c hc e => row_ne h.res h.M.V (by decide) (by rw [hc, e])) (fun c hc e => row_ne h.res h.M.E (by decide) (by rw [hc, e])), nil_own, nil_own, h.he.then e7 (fun c hc e => by omega)⟩
              case hr => exact results_cell1 (fn := Tryz.f14) (g := w.heap.size + 1) (p := 4) (ty := 41) rfl rfl (set6 HZ.out.res (.int .u8 0) (.int .i64 0) (.int .i64 0) (.int .i64 0) nilS nilS) Tryz.underlying41 rfl sz41
  · have hd : decide (a ∈ s.V) = false := by simpa using ha
    go_wp2_with (go_at_call 26; (refine (has_run HM2.out (by have := HM.out.2.2; omega)).mono ?_); rintro r3 w3 ⟨rfl, rfl⟩; rw [hd])
    refine bodyPost_ret (v := saidV 2 0 0 0 nilS nilS) ?hr rfl ?hR
    case hR => exact doErr HE.out HM2.out 2 (by unfold DoRV; rw [if_pos ha]; exact ⟨rfl, rfl⟩) (HM.out.1.lt' HM.out.2.1)
    case hr => exact results_cell1 (fn := Tryz.f14) (g := w.heap.size + 1) (p := 4) (ty := 41) rfl rfl (doErr_row HE.out 2) Tryz.underlying41 rfl sz41
end Go.Proofs.YtcenebjdhbdejaaGreatDoor

namespace Go.Proofs.YtcenebjdhbdejaaGreatDoor
open Go.MapKept

/-- a round over the edges -/
def SR1 (w2 : World) (dir : Bool) (E : List Tri) (k : Nat) (lv iv : Value) (wr : World) : Prop :=
  ∃ i : Nat, iv = .int .i64 i ∧ i + k = E.length ∧ wr.ownsRow w2.heap.size 48 3 lv ((E.take i).map (normT dir)).length (((E.take i).map (normT dir)).flatMap triC) ∧ Ext No w2 wr

theorem SR1.next {w2 wr W wa : World} {dir : Bool} {E : List Tri} {i : Nat} {lv v' : Value} {T : List Tri} {t : Tri} (hl : E.length < 1000000) (hlt : i < E.length) (hT : (E.take i).map (normT dir) = T) (ht : normT dir E[i] = t)
    (ho : wr.ownsRow w2.heap.size 48 3 lv T.length (T.flatMap triC)) (he : Ext No w2 wr) (hW : Ext No wr W) (hoa : wa.ownsRow w2.heap.size 48 3 v' (T ++ [t]).length ((T ++ [t]).flatMap triC)) (hea : Ext (fun c => some c = lv.ownBlock) W wa) :
    SR1 w2 dir E (E.length - (i + 1)) v' (.int .i64 (RowKit.wrap64 ((i : Int) + 1))) wa := by
  refine ⟨i + 1, by rw [w64 (by omega)], by omega, ?_, (he.trans hW).then hea (fun c hc e => by have := (ho.lt c e.symm).1; omega)⟩
  have hTt : (E.take (i + 1)).map (normT dir) = T ++ [t] := by rw [List.take_add_one, List.getElem?_eq_getElem hlt, List.map_append, hT]; simp [ht]
  rw [hTt]
  exact hoa

set_option maxRecDepth 100000 in
set_option maxHeartbeats 4000000 in
theorem do_es {w : World} {N mm : Nat} {dir prev : Bool} {s : PS} {vs es : Value} {a b wt : Int} (h : Mo w N mm dir prev s vs es) (hN : N ≤ w.heap.size) (hl : s.V.length + s.E.length < 300000) :
    Calls Tryz.prog 14 #[.pointer (some ⟨mm, 0, none⟩), stepV 8 a b wt] w (DoPost dir prev N mm (DoES dir s) w) := by
  have HM := Lib.hid (And.intro h (And.intro hN hl))
  clear h hN hl
  go_enter Tryz.func14, Tryz.ntmps14
  go_wp2_with fail
  have e0 : Ext No w (dw w 8 a b wt) := dw_ext w 8 a b wt
  refine (at_run (HM.out.1.no e0) (by have := HM.out.2.2; omega)).mono ?_
  rintro r1 w2 ⟨n, rfl, hat, he⟩
  have HE := Lib.hid (DW.of he (w := w) (op := 8) (a := a) (b := b) (wt := wt))
  have HM2 := Lib.hid (HM.out.1.no (e0.trans he))
  clear he e0 hat
  obtain ⟨x0, x1, x2, x3, -⟩ := cells4 HE.out.step
  obtain ⟨m0, m1, m2, m3, -⟩ := cells4 HM2.out.row
  obtain ⟨qe, ce, rfl, -⟩ := own_read (f := triC) (fun _ => rfl) HM.out.1.E
  have lm := World.block_lt_of_cell? _ _ m0
  have lx := World.block_lt_of_cell? _ _ x0
  go_wp2_with fail
  try go_frame
  clear x0 x1 x2 x3 m0 m1 m2 m3 lm lx
  go_loopg [13, 233] s.E.length (fun k lv iv wr => SR1 w2 dir s.E k lv iv wr)
  case atStart => exact ⟨0, rfl, by simp, nil_own, Ext.refl _ _⟩
  case round =>
    obtain ⟨i, rfl, hk, ho, he⟩ := hrel
    have hT0 : ∃ T, (s.E.take i).map (normT dir) = T := ⟨_, rfl⟩
    obtain ⟨T, hT0⟩ := hT0
    rw [hT0] at ho
    obtain ⟨q2, cap2, rfl, -⟩ := own_read (f := triC) (fun _ => rfl) ho
    by_cases hlt : i < s.E.length
    · obtain ⟨g, rfl, hg, hc⟩ := own_at (f := triC) (fun _ => rfl) (HM2.out.no he).E hlt
      have c0 : wr.cell? ⟨g, i * 3, none⟩ = some (kI (s.E[i]'hlt).1) := hc 0 (by decide)
      have c1 : wr.cell? ⟨g, i * 3 + 1, none⟩ = some (kI (s.E[i]'hlt).2.1) := hc 1 (by decide)
      have c2 : wr.cell? ⟨g, i * 3 + 2, none⟩ = some (.int .i64 (s.E[i]'hlt).2.2) := hc 2 (by decide)
      obtain ⟨m0, m1, m2, m3, -⟩ := cells4 (he.obj HM2.out.row id)
      have lm := World.block_lt_of_cell? _ _ m0
      have hlt' : (i : Int) < (s.E.length : Int) := by omega
      have hTl : T.length < 1000000 := by rw [← hT0]; have := HM.out.2.2; simp; omega
      have HK := Lib.hid (And.intro hk (And.intro ho (And.intro he (And.intro hTl hT0))))
      clear hk ho he hTl hT0 hc m1 m2 m3
      generalize hx : s.E[i]'hlt = x at c0 c1 c2
      have HX := Lib.hid hx
      clear hx
      have hcs : (dir = true) ∨ (dir = false ∧ (x.2.1 < x.1)) ∨ (dir = false ∧ ¬ (x.2.1 < x.1)) := by
        cases dir <;> simp <;> omega
      rcases hcs with rfl | ⟨rfl, hgt⟩ | ⟨rfl, hgt⟩
      · go_wp2_with (at_builtin; (refine wpL_append1 rfl rfl U27 I48 rfl (by decide) (by decide) (f := triC) (fun _ => rfl) triC_one rfl (ownsRow_ext HK.out.2.1 (by first | exact ((Ext.refl No wr).alloc _).alloc _) (fun _ _ h => h)) (x.1, x.2.1, x.2.2) rfl ⟨48, (0, 0), by first | exact two_new _ _ _⟩ HK.out.2.2.2.1 (HK.out.2.2.1.trans (by first | exact ((Ext.refl No wr).alloc _).alloc _)).size ?_); intro v1 wa hoa hea hba; have HA := Lib.hid (And.intro hoa hea); clear hoa hea hba)
        go_roundg (s.E.length - (i + 1))
        case measure => have := HK.out.1; omega
        case rel => exact SR1.next (by have := HM.out.2.2; omega) hlt HK.out.2.2.2.2 (by rw [HX.out]; rfl) HK.out.2.1 HK.out.2.2.1 (by first | exact ((Ext.refl No wr).alloc _).alloc _) HA.out.1 HA.out.2
      · go_wp2_with (at_builtin; (refine wpL_append1 rfl rfl U27 I48 rfl (by decide) (by decide) (f := triC) (fun _ => rfl) triC_one rfl (ownsRow_ext HK.out.2.1 (by first | exact ((Ext.refl No wr).alloc _).alloc _) (fun _ _ h => h)) (x.2.1, x.1, x.2.2) rfl ⟨48, (0, 0), by first | exact two_new _ _ _⟩ HK.out.2.2.2.1 (HK.out.2.2.1.trans (by first | exact ((Ext.refl No wr).alloc _).alloc _)).size ?_); intro v1 wa hoa hea hba; have HA := Lib.hid (And.intro hoa hea); clear hoa hea hba)
        go_roundg (s.E.length - (i + 1))
        case measure => have := HK.out.1; omega
        case rel => exact SR1.next (by have := HM.out.2.2; omega) hlt HK.out.2.2.2.2 (by rw [HX.out]; show (if x.2.1 < x.1 then _ else _) = _; rw [if_pos hgt]) HK.out.2.1 HK.out.2.2.1 (by first | exact ((Ext.refl No wr).alloc _).alloc _) HA.out.1 HA.out.2
      · go_wp2_with (at_builtin; (refine wpL_append1 rfl rfl U27 I48 rfl (by decide) (by decide) (f := triC) (fun _ => rfl) triC_one rfl (ownsRow_ext HK.out.2.1 (by first | exact ((Ext.refl No wr).alloc _).alloc _) (fun _ _ h => h)) (x.1, x.2.1, x.2.2) rfl ⟨48, (0, 0), by first | exact two_new _ _ _⟩ HK.out.2.2.2.1 (HK.out.2.2.1.trans (by first | exact ((Ext.refl No wr).alloc _).alloc _)).size ?_); intro v1 wa hoa hea hba; have HA := Lib.hid (And.intro hoa hea); clear hoa hea hba)
        go_roundg (s.E.length - (i + 1))
        case measure => have := HK.out.1; omega
        case rel => exact SR1.next (by have := HM.out.2.2; omega) hlt HK.out.2.2.2.2 (by rw [HX.out]; show (if x.2.1 < x.1 then _ else _) = _; rw [if_neg (by omega)]) HK.out.2.1 HK.out.2.2.1 (by first | exact ((Ext.refl No wr).alloc _).alloc _) HA.out.1 HA.out.2
    · have hnlt : ¬ (i : Int) < (s.E.length : Int) := by omega
      have hi : i = s.E.length := by omega
      subst hi
      rw [List.take_length] at hT0
      have HK := Lib.hid (And.intro ho (And.intro he hT0))
      clear hk ho he hT0
      go_wp2_with fail
      refine (byEnds_run (RdS.of_own HK.out.1) (by rw [← HK.out.2.2]; have := HM.out.2.2; simp; omega)).mono ?_
      rintro r3 w3 ⟨v3, el, rfl, hep, hes, heo, hee⟩
      obtain ⟨q3, c3, rfl, -⟩ := own_read (f := triC) (fun _ => rfl) heo
      have hE3 := HK.out.2.1.trans hee
      have hsaid := hE3.obj HE.out.said id
      have HL := Lib.hid (And.intro hep (And.intro hes (And.intro heo (And.intro hE3 hsaid))))
      obtain ⟨y0, y1, y2, y3, y4, y5, g0, g1, g2, g3, g4, g5⟩ := cells6 hsaid
      have ly := World.block_lt_of_cell? _ _ y0
      clear hep hes heo hE3 hsaid hee
      go_upto_region 65 with (fail)
      have e5 : Ext (fun c => c = w.heap.size + 2) w3 (w3.setCell ⟨w.heap.size + 2, 5, none⟩ (.slice q3 el.length c3)) := (Ext.refl _ w3).setCell _ _ (fun _ => rfl)
      have hM3 := HM2.out.no HL.out.2.2.2.1
      have hV3 := ownsRow_ext hM3.V e5 (fun c hc e => row_ne HL.out.2.2.2.2 hM3.V (by decide) (by rw [hc, e]))
      have hE3 := ownsRow_ext hM3.E e5 (fun c hc e => row_ne HL.out.2.2.2.2 hM3.E (by decide) (by rw [hc, e]))
      have hEl := ownsRow_ext HL.out.2.2.1 e5 (fun c hc e => row_ne HL.out.2.2.2.2 HL.out.2.2.1 (by decide) (by rw [hc, e]))
      have hmm := HM.out.1.lt' HM.out.2.1
      have HZ : RowKit.Hid (BmEnd w N mm dir prev s vs (.slice qe s.E.length ce) nilS (.slice q3 el.length c3) [] el (w3.setCell ⟨w.heap.size + 2, 5, none⟩ (.slice q3 el.length c3))) := Lib.hid
        { said := set_heap (o := 5) HL.out.2.2.2.2 (.slice q3 el.length c3)
          res := e5.obj (HL.out.2.2.2.1.obj HE.out.res id) (by omega)
          M := ⟨e5.obj hM3.row (by omega), hV3, hE3⟩
          K := nil_own
          E := ownsRow_low hEl (Nat.le_trans HE.out.he.size HK.out.2.1.size)
          he := (HE.out.he.trans HL.out.2.2.2.1).then e5 (fun c hc e => by omega) }
      generalize w3.setCell ⟨w.heap.size + 1 + 1, 5, none⟩ (.slice q3 el.length c3) = W5 at HZ ⊢
      clear y0 y1 y2 y3 y4 y5 g0 g1 g2 g3 g4 g5 ly e5 hM3 hV3 hE3 hEl hmm
      obtain ⟨y0, y1, y2, y3, y4, y5, g0, g1, g2, g3, g4, g5⟩ := cells6 HZ.out.said
      obtain ⟨z0, z1, z2, z3, z4, z5, p0, p1, p2, p3, p4, p5⟩ := cells6 HZ.out.res
      have ly := World.block_lt_of_cell? _ _ y0
      have lz := World.block_lt_of_cell? _ _ z0
      go_wp2
      refine bodyPost_ret (v := saidV 0 0 0 0 nilS (.slice q3 el.length c3)) ?hr rfl ?hR
      case hR =>
        have h := HZ.out
        have e7 := (Ext.refl (fun c => c = w.heap.size + 1) W5).set6 (b := w.heap.size + 1) rfl (.int .u8 0) (.int .i64 0) (.int .i64 0) (.int .i64 0) nilS (.slice q3 el.length c3)
        exact ⟨s, ⟨0, 0, 0, 0, [], el⟩, _, _, _, _, rfl, ⟨rfl, rfl, rfl, rfl, rfl, rfl, by rw [HK.out.2.2]; exact HL.out.1, HL.out.2.1⟩, h.M.ext e7 (fun e => by have := HM.out.1.lt' HM.out.2.1; omega) (fun c hc e => row_ne h.res h.M.V (by decide) (by rw [hc, e])) (fun c hc e => row_ne h.res h.M.E (by decide) (by rw [hc, e])),
          nil_own, ownsRow_ext h.E e7 (fun c hc e => row_ne h.res h.E (by decide) (by rw [hc, e])), (h.he.then e7 (fun c hc e => by omega)).no⟩
      case hr => exact results_cell1 (fn := Tryz.f14) (g := w.heap.size + 1) (p := 4) (ty := 41) rfl rfl (set6 HZ.out.res (.int .u8 0) (.int .i64 0) (.int .i64 0) (.int .i64 0) nilS (.slice q3 el.length c3)) Tryz.underlying41 rfl sz41
end Go.Proofs.YtcenebjdhbdejaaGreatDoor
