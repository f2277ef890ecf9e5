/- stepped over a graph as lists: Edges, PredecessorMap. -/
import Derived.Test.YtcenebjdhbdejaaGreatDoorB37
import Derived.Test.YtcenebjdhbdejaaGreatDoorB17
import Derived.Test.YtcenebjdhbdejaaGreatDoorB09
import Derived.Test.YtcenebjdhbdejaaGreatDoorB38
namespace Go.Proofs.YtcenebjdhbdejaaGreatDoor
open Go.MapKept

theorem prT_tri (l : List EdgeR) : (l.map EdgeR.tri).map prT = l.map prE := by simp [Function.comp_def]

theorem rev_mem {E : List Tri} {e : Tri} (h : e ∈ stored false E) : revT e ∈ stored false E := by
  simp only [stored, Bool.false_eq_true, if_false, List.mem_flatMap, List.mem_cons, List.not_mem_nil, or_false] at h ⊢
  obtain ⟨x, hx, rfl | rfl⟩ := h
  · exact ⟨e, hx, Or.inr rfl⟩
  · exact ⟨x, hx, Or.inl rfl⟩

theorem stored_perm_app (U : List Tri) : (stored false U).Perm (U ++ U.map revT) := by
  induction U with
  | nil => exact List.Perm.refl _
  | cons e U ih =>
    rw [stored_cons_u, List.map_cons, List.cons_append]
    refine List.Perm.cons _ ?_
    exact (List.Perm.cons _ ih).trans List.perm_middle.symm

theorem nodup_of_map {l : List Tri} (h : (l.map prT).Nodup) : l.Nodup := by
  induction l with
  | nil => exact List.nodup_nil
  | cons x l ih =>
    rw [List.map_cons, List.nodup_cons] at h
    exact List.nodup_cons.2 ⟨fun hm => h.1 (List.mem_map.2 ⟨x, hm, rfl⟩), ih h.2⟩

/-- the edges that Edges keeps are the edges, each once -/
theorem keep_stored {E : List Tri} {S : List EdgeR} (hS : (S.map EdgeR.tri).Perm (stored false E)) (uq : ((stored false E).map prT).Nodup) : (stored false ((keepU [] S).map EdgeR.tri)).Perm (stored false E) := by
  have hsub : (keepU [] S).Sublist S := by simpa using keepU_sub S []
  have hap := keepU_apart S [] List.Pairwise.nil
  have hcov := keepU_cov S []
  have huS : (S.map prE).Nodup := by rw [← prT_tri]; exact (hS.map _).nodup_iff.2 uq
  generalize keepU [] S = K at hsub hap hcov ⊢
  have hmS : ∀ x ∈ K, x.tri ∈ stored false E := fun x hx => hS.mem_iff.1 (List.mem_map.2 ⟨x, hsub.subset hx, rfl⟩)
  have hloop : ∀ x ∈ K, x.src ≠ x.dst := by
    intro x hx he
    have h1 := hmS x hx
    simp only [stored, Bool.false_eq_true, if_false, List.mem_flatMap, List.mem_cons, List.not_mem_nil, or_false] at h1
    obtain ⟨y, hy, h2⟩ := h1
    have := loop_of uq y hy
    rcases h2 with rfl | h2
    · exact this he
    · simp only [Prod.mk.injEq] at h2
      exact this (by rw [← h2.1, ← h2.2.1]; exact he.symm)
  have huK : (K.map prE).Nodup := huS.sublist (hsub.map _)
  have hnd : ((stored false (K.map EdgeR.tri)).map prT).Nodup := by
    rw [((stored_perm_app (K.map EdgeR.tri)).map prT).nodup_iff, List.map_append, List.nodup_append]
    refine ⟨by rw [prT_tri]; exact huK, ?_, ?_⟩
    · have e : (List.map revT (List.map EdgeR.tri K)).map prT = (K.map prE).map (fun p => (p.2, p.1)) := by simp [Function.comp_def, revT]
      rw [e, List.nodup_iff_pairwise_ne, List.pairwise_map]
      rw [List.nodup_iff_pairwise_ne] at huK
      exact huK.imp fun hne e => hne (by simp only [Prod.mk.injEq] at e; exact Prod.ext e.2 e.1)
    · rintro p hp q hq rfl
      rw [prT_tri] at hp
      obtain ⟨x, hx, rfl⟩ := List.mem_map.1 hp
      simp only [List.map_map, List.mem_map] at hq
      obtain ⟨y, hy, hxy⟩ := hq
      have hxy' : prE x = (y.dst, y.src) := hxy.symm
      obtain ⟨i, hi, rfl⟩ := List.mem_iff_getElem.1 hx
      obtain ⟨j, hj, rfl⟩ := List.mem_iff_getElem.1 hy
      rcases Nat.lt_trichotomy i j with hl | rfl | hl
      · exact List.pairwise_iff_getElem.1 hap i j hi hj hl hxy'
      · simp only [Prod.mk.injEq] at hxy'
        exact hloop _ hx hxy'.1
      · refine List.pairwise_iff_getElem.1 hap j i hj hi hl ?_
        simp only [Prod.mk.injEq] at hxy' ⊢
        exact ⟨hxy'.2.symm, hxy'.1.symm⟩
  refine (List.perm_ext_iff_of_nodup (nodup_of_map hnd) (nodup_of_map uq)).2 fun e => ⟨fun he => ?_, fun he => ?_⟩
  · simp only [stored, Bool.false_eq_true, if_false, List.mem_flatMap, List.mem_cons, List.not_mem_nil, or_false] at he
    obtain ⟨y, hy, h2⟩ := he
    obtain ⟨x, hx, rfl⟩ := List.mem_map.1 hy
    rcases h2 with rfl | rfl
    · exact hmS x hx
    · exact rev_mem (hmS x hx)
  · obtain ⟨x, hx, rfl⟩ := List.mem_map.1 (hS.mem_iff.2 he)
    rcases hcov x hx with h1 | ⟨y, hy, h1⟩
    · exact mem_stored_self (List.mem_map.2 ⟨x, h1, rfl⟩)
    · have h2 : revT y.tri = x.tri := by
        refine inj_of_nodup uq (rev_mem (hmS y hy)) he ?_
        simp only [Prod.mk.injEq] at h1
        simp [revT, h1]
      rw [← h2]
      exact mem_stored_rev (List.mem_map.2 ⟨y, hy, rfl⟩)

theorem Rep.uq {dir : Bool} {s : PS} {τ : Tr} {σ : St} {w : World} {A : Ad} (h : Rep dir s τ σ) (hst : Store w A σ) : ((stored dir s.E).map prT).Nodup := by
  rw [← h.E, prT_tri]; exact hst.euniq
theorem Rep.fine {dir : Bool} {s : PS} {τ : Tr} {σ : St} {w : World} {A : Ad} (h : Rep dir s τ σ) (hst : Store w A σ) : Fine dir s := by
  refine ⟨by rw [← h.V]; exact hst.keys, fun e he => ?_, h.uq hst⟩
  rw [← h.E] at he
  obtain ⟨x, hx, rfl⟩ := List.mem_map.1 he
  obtain ⟨⟨a, h1⟩, b, h2⟩ := hst.ends x hx
  rw [← h.V]
  exact ⟨List.mem_map.2 ⟨_, h1, rfl⟩, List.mem_map.2 ⟨_, h2, rfl⟩⟩

def gx (dir : Bool) : GX := if dir then GXd else GXu
theorem gx_G (dir : Bool) : (gx dir).G = gk dir := by cases dir <;> rfl
theorem gx_T (dir : Bool) : (gx dir).G.T = grT dir := by rw [gx_G, gk_T]

/-- what the listed edges are -/
def EdgesR (dir : Bool) (s : PS) (σ : St) (l : List EdgeR) : Prop := (stored dir (l.map EdgeR.tri)).Perm (stored dir s.E) ∧ ∀ e ∈ l, e ∈ σ.E

/-- Edges, of either kind -/
theorem any_edges (dir : Bool) {w : World} {H : Hd} {τ : Tr} {σ : St} {s : PS} (h : Gr w H τ σ) (hr : Rep dir s τ σ) (hE : (stored dir s.E).length < 1000000) :
    Calls Tryz.prog (gx dir).es.f #[.pointer (some ⟨H.d, 0, none⟩)] w (SaysEdges (EdgesR dir s σ) w) := by
  have hE' : σ.E.length < 1000000 := by rw [← hr.E, List.length_map] at hE; exact hE
  cases dir with
  | true =>
    refine (d_edges h hE').mono ?_
    rintro r w' ⟨v, l, rfl, hl, ho, he⟩
    refine ⟨v, l, rfl, ho, by rw [hl.length_eq]; exact hE', ⟨?_, fun e hm => hl.mem_iff.1 hm⟩, he⟩
    rw [← hr.E]; exact hl.map _
  | false =>
    refine (u_edges h hE').mono ?_
    rintro r w' ⟨v, S, rfl, hS, ho, he⟩
    have hsub : (keepU [] S).Sublist S := by simpa using keepU_sub S []
    refine ⟨v, _, rfl, ho, ?_, ⟨?_, fun e hm => hS.mem_iff.1 (hsub.subset hm)⟩, he⟩
    · have := hsub.length_le; rw [hS.length_eq] at this; omega
    · exact keep_stored (by rw [← hr.E]; exact hS.map _) (hr.uq h.st)

theorem any_traits (dir : Bool) {w : World} {H : Hd} {τ : Tr} {σ : St} (h : Gr w H τ σ) : Calls Tryz.prog (gx dir).tr.f #[.pointer (some ⟨H.d, 0, none⟩)] w (fun r w' => r = .returned (.pointer (some ⟨H.t, 0, none⟩)) ∧ w' = w) := by
  cases dir with
  | true => exact d_traits h
  | false => exact u_traits h

theorem any_edgesOf (dir : Bool) {w : World} {H : Hd} {τ : Tr} {σ : St} {s : PS} (h : Gr w H τ σ) (hr : Rep dir s τ σ) (hE : (stored dir s.E).length < 1000000) :
    Calls Tryz.prog 36 #[gV dir H] w (EdgesOf dir (EdgesR dir s σ) w) := by
  have := edgesOf_run (gx dir) (dir := dir) (w := w) (d := ⟨H.d, 0, none⟩) (t := H.t) (R := EdgesR dir s σ) (by rw [← hr.hd]; exact h.t0)
    (fun w' he => any_edges dir (h.ext he (fun _ _ h => h)) hr hE) (fun w' he => any_traits dir (h.ext he (fun _ _ h => h)))
  rw [gx_T] at this
  exact this

theorem norm_perm2 {d : Bool} {E E' : List Tri} (h : (stored d E).Perm (stored d E')) (h1 : d = false → ∀ e ∈ E, e.1 ≠ e.2.1) (h2 : d = false → ∀ e ∈ E', e.1 ≠ e.2.1) : (E.map (normT d)).Perm (E'.map (normT d)) := by
  cases d with
  | true => exact h.map _
  | false =>
    rw [norm_filter (h1 rfl), norm_filter (h2 rfl)]
    exact h.filter _

theorem step_es (dir : Bool) {w : World} {H : Hd} {τ : Tr} {σ : St} {s : PS} {a b wt : Int} (h : Gr w H τ σ) (hr : Rep dir s τ σ) (hE : (stored dir s.E).length < 1000000) :
    Calls Tryz.prog 24 #[gV dir H, stepV 8 a b wt] w (StepPost dir H τ σ (DoES dir s) w) := by
  have := stepped_es (gk dir) (w := w) (d := ⟨H.d, 0, none⟩) (a := a) (b := b) (wt := wt) (dir := dir) (R := EdgesR dir s σ)
    (fun w' he => by rw [gk_T]; exact any_edgesOf dir (h.ext he (fun _ _ h => h)) hr hE)
  rw [gk_T] at this
  refine this.mono ?_
  rintro r w' ⟨es, l, el, rfl, ⟨hR1, hR2⟩, hep, hes, ho, he⟩
  refine ⟨σ, s, ⟨0, 0, 0, 0, [], el⟩, nilS, es, rfl, ⟨rfl, rfl, rfl, rfl, rfl, rfl, ?_, hes⟩, Turned.same h he, hr, nil_own, ho⟩
  refine hep.trans ?_
  have e : (l.map fun e => normT dir e.tri) = (l.map EdgeR.tri).map (normT dir) := by rw [List.map_map]; rfl
  rw [e]
  refine norm_perm2 hR1 (fun hd x hx => ?_) hr.loop
  obtain ⟨y, hy, rfl⟩ := List.mem_map.1 hx
  have hm : y.tri ∈ stored dir s.E := by rw [← hr.E]; exact List.mem_map.2 ⟨y, hR2 y hy, rfl⟩
  subst hd
  simp only [stored, Bool.false_eq_true, if_false, List.mem_flatMap, List.mem_cons, List.not_mem_nil, or_false] at hm
  obtain ⟨z, hz, h2⟩ := hm
  have := hr.loop rfl z hz
  rcases h2 with h2 | h2
  · intro e1; rw [h2] at e1; exact this e1
  · intro e1; rw [h2] at e1; exact this e1.symm

set_option maxRecDepth 100000 in
theorem u_predecessor {w : World} {H : Hd} {τ : Tr} {σ : St} (h : Gr w H τ σ) (hV : σ.V.length < 1000000) (hE : σ.E.length < 1000000) :
    Calls Tryz.prog 135 #[.pointer (some ⟨H.d, 0, none⟩)] w (Adj σ w) := by
  have hc := u_adjacency h hV hE
  clear h hV hE
  go_enter Tryz.func135, Tryz.ntmps135
  go_wp2_with (go_at_call 130; refine hc.mono ?_; rintro r w' ⟨mb, L, E', rfl, h1, h2, h3, h4, h5⟩)
  go_ret2
  exact ⟨mb, L, E', rfl, h1, h2, h3, h4, h5⟩

/-- PredecessorMap's inner key -/
def predK (dir : Bool) (e : EdgeR) : Int := if dir then e.src else e.dst

theorem fanI_perm {E : List EdgeR} {l : List Int} (hn : l.Nodup) (h : ∀ e ∈ E, e.dst ∈ l) : (l.flatMap fun a => E.filter fun e => e.dst == a).Perm E := by
  induction l generalizing E with
  | nil =>
    cases E with
    | nil => exact List.Perm.refl _
    | cons e E => exact absurd (h e List.mem_cons_self) (by simp)
  | cons a l ih =>
    rw [List.nodup_cons] at hn
    have h2 : (l.flatMap fun x => E.filter fun e => e.dst == x) = l.flatMap fun x => (E.filter fun e => !(e.dst == a)).filter fun e => e.dst == x := by
      have : ∀ x ∈ l, (E.filter fun e => e.dst == x) = ((E.filter fun e => !(e.dst == a)).filter fun e => e.dst == x) := by
        intro x hx
        rw [List.filter_filter]
        apply List.filter_congr
        intro e _
        by_cases hex : e.dst = x
        · have : x ≠ a := fun e' => hn.1 (e' ▸ hx)
          simp [hex, this]
        · simp [hex]
      clear ih hn h
      induction l with
      | nil => rfl
      | cons y l ih =>
        simp only [List.flatMap_cons]
        rw [this y List.mem_cons_self, ih (fun x hx => this x (List.mem_cons_of_mem _ hx))]
    have h3 := ih (E := E.filter fun e => !(e.dst == a)) hn.2 (by
      intro e he
      obtain ⟨h4, h5⟩ := List.mem_filter.1 he
      rcases List.mem_cons.1 (h e h4) with h6 | h6
      · simp [h6] at h5
      · exact h6)
    rw [List.flatMap_cons, h2]
    exact ((List.Perm.refl _).append h3).trans (List.filter_append_perm (fun e : EdgeR => e.dst == a) E)

theorem fanI_tri (E : List EdgeR) (K : List Int) : K.flatMap (triL (fun e => e.src) (fun a => E.filter (fun e => e.dst == a))) = (K.flatMap fun a => E.filter fun e => e.dst == a).map (fun e => revT e.tri) := by
  rw [List.map_flatMap]
  congr 1
  funext k
  unfold triL
  apply List.map_congr_left
  intro e he
  have := (List.mem_filter.1 he).2
  simp only [beq_iff_eq] at this
  rw [← this]

/-- PredecessorMap, of either kind -/
theorem any_predecessor (dir : Bool) {w : World} {H : Hd} {τ : Tr} {σ : St} {s : PS} (h : Gr w H τ σ) (hr : Rep dir s τ σ) (hV : s.V.length < 1000000) (hE : (stored dir s.E).length < 1000000) :
    Calls Tryz.prog (gk dir).pm.f #[.pointer (some ⟨H.d, 0, none⟩)] w (SaysMap (predK dir) (fun K F => K.Perm s.V ∧ (K.flatMap (triL (predK dir) F)).Perm (predL dir s.E)) w) := by
  have hV' : σ.V.length < 1000000 := by rw [← hr.V, List.length_map] at hV; exact hV
  have hE' : σ.E.length < 1000000 := by rw [← hr.E, List.length_map] at hE; exact hE
  cases dir with
  | true =>
    refine (d_predecessor h hV' hE').mono ?_
    rintro r w' ⟨mb, L, E', rfl, hL, hE2, hM, -, he⟩
    have hk : (L.map (·.1)).Perm s.V := by rw [← hr.V]; exact hL
    have hp : ((L.map (·.1)).flatMap (triL (fun e => e.src) (fun a => E'.filter (fun e => e.dst == a)))).Perm (predL true s.E) := by
      have e1 : predL true s.E = (σ.E.map EdgeR.tri).map revT := by rw [hr.E]; rfl
      rw [fanI_tri, e1, List.map_map]
      refine List.Perm.map _ ((fanI_perm (hL.nodup_iff.2 h.st.keys) ?_).trans hE2)
      intro e he
      obtain ⟨-, n, hn⟩ := h.st.ends e (hE2.mem_iff.1 he)
      exact hL.mem_iff.2 (List.mem_map.2 ⟨_, hn, rfl⟩)
    exact ⟨mb, L, fun a => E'.filter (fun e => e.dst == a), rfl, hM, he, by have := hk.length_eq; simp at this; omega, by
      have e0 := hp.length_eq
      have e1 : (predL true s.E).length = (stored true s.E).length := by simp [predL, stored]
      show ((L.map (·.1)).flatMap (triL (fun e => e.src) (fun a => E'.filter (fun e => e.dst == a)))).length < _
      rw [e0, e1]; exact hE, hk, hp⟩
  | false =>
    have hc : Calls Tryz.prog (gk false).pm.f #[.pointer (some ⟨H.d, 0, none⟩)] w (Adj σ w) := u_predecessor h hV' hE'
    refine hc.mono ?_
    rintro r w' ⟨mb, L, E', rfl, hL, hE2, hM, -, he⟩
    have hk : (L.map (·.1)).Perm s.V := by rw [← hr.V]; exact hL
    have hp : ((L.map (·.1)).flatMap (triL (fun e => e.dst) (fun a => E'.filter (fun e => e.src == a)))).Perm (stored false s.E) := by
      rw [fan_tri, ← hr.E]
      refine List.Perm.map _ ((fan_perm (hL.nodup_iff.2 h.st.keys) ?_).trans hE2)
      intro e he
      obtain ⟨⟨n, hn⟩, -⟩ := h.st.ends e (hE2.mem_iff.1 he)
      exact hL.mem_iff.2 (List.mem_map.2 ⟨_, hn, rfl⟩)
    exact ⟨mb, L, fun a => E'.filter (fun e => e.src == a), rfl, hM, he, by have := hk.length_eq; simp at this; omega, by
      have e0 := hp.length_eq
      show ((L.map (·.1)).flatMap (triL (fun e => e.dst) (fun a => E'.filter (fun e => e.src == a)))).length < _
      rw [e0]; exact hE, hk, hp⟩

theorem step_pm (dir : Bool) {w : World} {H : Hd} {τ : Tr} {σ : St} {s : PS} {a b wt : Int} (h : Gr w H τ σ) (hr : Rep dir s τ σ) (hV : s.V.length < 1000000) (hE : (stored dir s.E).length < 1000000) :
    Calls Tryz.prog 24 #[gV dir H, stepV 10 a b wt] w (StepPost dir H τ σ (DoPM dir s) w) := by
  have := stepped_pm (gk dir) (w := w) (d := ⟨H.d, 0, none⟩) (a := a) (b := b) (wt := wt) (kf := predK dir) (R := fun K F => K.Perm s.V ∧ (K.flatMap (triL (predK dir) F)).Perm (predL dir s.E))
    (fun w' he => any_predecessor dir (h.ext he (fun _ _ h => h)) hr hV hE)
  rw [gk_T] at this
  refine this.mono ?_
  rintro r w' ⟨ks, es, kl, el, K, F, rfl, ⟨hK1, hK2⟩, hkp, hks, hep, hes, ho1, ho2, he⟩
  exact ⟨σ, s, ⟨0, 0, 0, 0, kl, el⟩, ks, es, rfl, ⟨rfl, rfl, rfl, rfl, rfl, hkp.trans hK1, hks, hep.trans hK2, hes⟩, Turned.same h he, hr, ho1, ho2⟩
end Go.Proofs.YtcenebjdhbdejaaGreatDoor
