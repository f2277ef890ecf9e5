/- RemoveVertex, RemoveEdge, UpdateEdge of either kind, and stepped over them: a graph as lists. -/
import Derived.Test.YtcenebjdhbdejaaGreatDoorB15
import Derived.Test.YtcenebjdhbdejaaGreatDoorB18
namespace Go.Proofs.YtcenebjdhbdejaaGreatDoor
open Go.MapKept

theorem foot_cutI {A : Ad} {σ : St} {k : Int} {c : Nat} (hc : ({ σ with I := cutK σ.I k } : St).foot A c) : σ.foot A c := by
  rcases hc with hc | hc
  · refine Or.inl ?_
    simp only [St.blocks, List.mem_cons, List.mem_append, List.mem_map] at hc ⊢
    rcases hc with h | h | h | h | h | h | ⟨x, hx, h⟩
    · exact Or.inl h
    · exact Or.inr (Or.inl h)
    · exact Or.inr (Or.inr (Or.inl h))
    · exact Or.inr (Or.inr (Or.inr (Or.inl h)))
    · exact Or.inr (Or.inr (Or.inr (Or.inr (Or.inl h))))
    · exact Or.inr (Or.inr (Or.inr (Or.inr (Or.inr (Or.inl h)))))
    · exact Or.inr (Or.inr (Or.inr (Or.inr (Or.inr (Or.inr ⟨x, cutK_sub.subset hx, h⟩)))))
  · exact Or.inr hc
theorem foot_cutO {A : Ad} {σ : St} {k : Int} {c : Nat} (hc : ({ σ with O := cutK σ.O k } : St).foot A c) : σ.foot A c := by
  rcases hc with hc | hc
  · refine Or.inl ?_
    simp only [St.blocks, List.mem_cons, List.mem_append, List.mem_map] at hc ⊢
    rcases hc with h | h | h | h | h | ⟨x, hx, h⟩ | h
    · exact Or.inl h
    · exact Or.inr (Or.inl h)
    · exact Or.inr (Or.inr (Or.inl h))
    · exact Or.inr (Or.inr (Or.inr (Or.inl h)))
    · exact Or.inr (Or.inr (Or.inr (Or.inr (Or.inl h))))
    · exact Or.inr (Or.inr (Or.inr (Or.inr (Or.inr (Or.inl ⟨x, cutK_sub.subset hx, h⟩)))))
    · exact Or.inr (Or.inr (Or.inr (Or.inr (Or.inr (Or.inr h)))))
  · exact Or.inr hc
theorem foot_cutV {A : Ad} {σ : St} {k : Int} {c : Nat} (hc : ({ σ with V := cutK σ.V k } : St).foot A c) : σ.foot A c := by
  rcases hc with hc | hc
  · exact Or.inl hc
  · refine Or.inr ?_
    simp only [St.atts, List.mem_append, List.mem_map] at hc ⊢
    rcases hc with ⟨x, hx, h⟩ | h
    · exact Or.inl ⟨x, cutK_sub.subset hx, h⟩
    · exact Or.inr h
theorem foot_gone {A : Ad} {σ : St} {k : Int} {c : Nat} (hc : ({ V := cutK σ.V k, E := σ.E, O := cutK σ.O k, I := cutK σ.I k } : St).foot A c) : σ.foot A c := by
  have h1 := foot_cutV (σ := { V := σ.V, E := σ.E, O := cutK σ.O k, I := cutK σ.I k }) hc
  have h2 := foot_cutO (σ := { V := σ.V, E := σ.E, O := σ.O, I := cutK σ.I k }) h1
  exact foot_cutI h2

def usesV (E : List Tri) (a : Int) : Prop := ∃ e ∈ E, e.1 = a ∨ e.2.1 = a

theorem mem_usesV {dir : Bool} {E : List Tri} {a : Int} : usesV (stored dir E) a ↔ usesV E a := by
  cases dir with
  | true => exact Iff.rfl
  | false =>
    constructor
    · rintro ⟨e, he, h⟩
      simp only [stored, Bool.false_eq_true, if_false, List.mem_flatMap, List.mem_cons, List.not_mem_nil, or_false] at he
      obtain ⟨x, hx, rfl | rfl⟩ := he
      · exact ⟨_, hx, h⟩
      · exact ⟨_, hx, h.symm⟩
    · rintro ⟨e, he, h⟩
      exact ⟨e, by simp only [stored, Bool.false_eq_true, if_false, List.mem_flatMap]; exact ⟨e, he, by simp⟩, h⟩

theorem Rep.uses {dir : Bool} {s : PS} {τ : Tr} {σ : St} (h : Rep dir s τ σ) {a : Int} : (∃ e ∈ σ.E, e.src = a ∨ e.dst = a) ↔ usesV s.E a := by
  rw [← mem_usesV (dir := dir), ← h.E]
  constructor
  · rintro ⟨e, he, h1⟩
    exact ⟨e.tri, List.mem_map.2 ⟨e, he, rfl⟩, h1⟩
  · rintro ⟨e, he, h1⟩
    obtain ⟨x, hx, rfl⟩ := List.mem_map.1 he
    exact ⟨x, hx, h1⟩

open Classical in
noncomputable def rvQ (dir : Bool) (s : PS) (τ : Tr) (σ : St) (a : Int) (er : Option Er) (σ' : St) : Prop :=
  if a ∉ s.V then numOf er = 2 ∧ σ' = σ
  else if usesV s.E a then numOf er = 3 ∧ Rep dir s τ σ'
  else numOf er = 0 ∧ Rep dir ⟨s.V.filter (fun x => !(x == a)), s.E⟩ τ σ'

/-- RemoveVertex, of either kind -/
theorem any_removeVertex (dir : Bool) {w0 w : World} {H : Hd} {τ : Tr} {σ : St} {s : PS} {a : Int} {p : Nat → Addr} {B : Nat} (h0 : Gr w0 H τ σ) (h : Gr w H τ σ) (hr : Rep dir s τ σ) (hp : Sent w p) (hB : Below6 B p) (hf : ∀ c, σ.foot H.A c → B ≤ c) :
    Calls Tryz.prog (gk dir).rv.f #[.pointer (some ⟨H.d, 0, none⟩), kI a] w (SaysErr p w0.heap.size (ErrPost H τ σ (rvQ dir s τ σ a)) w) := by
  have key : Calls Tryz.prog 151 #[.pointer (some ⟨H.A.s, 0, none⟩), kI a] w (fun r w' => ∃ v, r = .returned v ∧ SaysErr p w0.heap.size (ErrPost H τ σ (rvQ dir s τ σ a)) w (.returned v) w') := by
    by_cases ha : a ∈ s.V
    · have hV := hr.mem.1 ha
      by_cases hu : usesV s.E a
      · by_cases hi : ∃ e ∈ σ.E, e.dst = a
        · refine (store_removeVertex_in h.st hp hV hi).mono ?_
          rintro r w' ⟨rfl, he⟩
          refine ⟨_, rfl, says_of (er := some (.sent 2)) h0 hp hB hf (Turned.same h he) (by intro x hx; cases hx; decide) ?_⟩
          unfold rvQ; rw [if_neg (by simpa using ha), if_pos hu]; exact ⟨rfl, hr⟩
        · have ho : ∃ e ∈ σ.E, e.src = a := by
            obtain ⟨e, he, h1⟩ := hr.uses.2 hu
            rcases h1 with h1 | h1
            · exact ⟨e, he, h1⟩
            · exact absurd ⟨e, he, h1⟩ hi
          have hbi : H.A.bi ≠ 2 := by
            have := hf H.A.bi (Or.inl (by simp [St.blocks]))
            have := hB.1
            omega
          refine (store_removeVertex_out h.st hp hbi hV (fun e he h1 => hi ⟨e, he, h1⟩) ho).mono ?_
          rintro r w' ⟨rfl, hs, he⟩
          refine ⟨_, rfl, says_of (er := some (.sent 2)) h0 hp hB hf (h.turn (he.mono (fun c _ hc => Or.inl hc)) hs (fun c hc => Or.inl (foot_cutI hc))) (by intro x hx; cases hx; decide) ?_⟩
          unfold rvQ; rw [if_neg (by simpa using ha), if_pos hu]; exact ⟨rfl, hr.hd, hr.V, hr.E, hr.loop⟩
      · have hno : ∀ e ∈ σ.E, e.src ≠ a ∧ e.dst ≠ a := fun e he => ⟨fun h1 => hu (hr.uses.1 ⟨e, he, Or.inl h1⟩), fun h1 => hu (hr.uses.1 ⟨e, he, Or.inr h1⟩)⟩
        refine (store_removeVertex_yes h.st hV hno).mono ?_
        rintro r w' ⟨rfl, hs, he⟩
        refine ⟨_, rfl, says_of (er := none) h0 hp hB hf (h.turn (he.mono (fun c _ hc => Or.inl hc)) hs (fun c hc => Or.inl (foot_gone hc))) (by intro x hx; cases hx) ?_⟩
        unfold rvQ; rw [if_neg (by simpa using ha), if_neg hu]
        refine ⟨rfl, hr.hd, ?_, hr.E, hr.loop⟩
        show (cutK σ.V a).map (·.1) = s.V.filter _
        rw [← hr.V, List.filter_map]; rfl
    · have hk : ∀ n, (a, n) ∉ σ.V := fun n hn => ha (hr.mem.2 ⟨n, hn⟩)
      refine (store_removeVertex_no h.st hp hk).mono ?_
      rintro r w' ⟨rfl, he⟩
      refine ⟨_, rfl, says_of (er := some (.sent 1)) h0 hp hB hf (Turned.same h he) (by intro x hx; cases hx; decide) ?_⟩
      unfold rvQ; rw [if_pos (by simpa using ha)]; exact ⟨rfl, rfl⟩
  cases dir with
  | true => exact (d_removeVertex h key).mono (by rintro r w' ⟨v, rfl, hq⟩; exact hq)
  | false => exact (u_removeVertex h key).mono (by rintro r w' ⟨v, rfl, hq⟩; exact hq)

/-- an edge is the one from a to b (of an undirected graph: or from b to a) -/
def isE (dir : Bool) (a b : Int) (e : Tri) : Bool := (e.1 == a && e.2.1 == b) || (!dir && e.1 == b && e.2.1 == a)

theorem hasE_iff {dir : Bool} {E : List Tri} {a b : Int} : hasE dir E a b ↔ ∃ e ∈ E, isE dir a b e = true := by
  cases dir <;> simp [hasE, isE]

theorem cut_tri (E : List EdgeR) (a b : Int) : (cutE E a b).map EdgeR.tri = (E.map EdgeR.tri).filter fun e => !(e.1 == a && e.2.1 == b) := by
  rw [List.filter_map]; rfl

theorem stored_cut_u (E : List Tri) (a b : Int) : ((stored false E).filter fun e => !(e.1 == a && e.2.1 == b)).filter (fun e => !(e.1 == b && e.2.1 == a)) = stored false (E.filter fun e => !isE false a b e) := by
  induction E with
  | nil => rfl
  | cons e E ih =>
    have h1 : stored false (e :: E) = e :: revT e :: stored false E := rfl
    rw [h1]
    by_cases h : isE false a b e = true
    · have h' : (e.1 = a ∧ e.2.1 = b) ∨ (e.1 = b ∧ e.2.1 = a) := by simpa [isE] using h
      rw [List.filter_cons (x := e) (xs := E), if_neg (by simp [h]), ← ih]
      rcases h' with ⟨h1, h2⟩ | ⟨h1, h2⟩
      · by_cases hab : a = b <;> simp [revT, h1, h2, hab]
      · by_cases hab : a = b <;> simp [revT, h1, h2, hab]
    · have h' : ¬ ((e.1 = a ∧ e.2.1 = b) ∨ (e.1 = b ∧ e.2.1 = a)) := by simpa [isE] using h
      rw [List.filter_cons (x := e) (xs := E), if_pos (by simp [h])]
      have h2 : stored false (e :: List.filter (fun e => !isE false a b e) E) = e :: revT e :: stored false (E.filter fun e => !isE false a b e) := rfl
      rw [h2, ← ih]
      have p1 : ¬ (e.1 = a ∧ e.2.1 = b) := fun x => h' (Or.inl x)
      have p2 : ¬ (e.1 = b ∧ e.2.1 = a) := fun x => h' (Or.inr x)
      have p3 : ¬ (e.2.1 = a ∧ e.1 = b) := fun x => h' (Or.inr ⟨x.2, x.1⟩)
      have p4 : ¬ (e.2.1 = b ∧ e.1 = a) := fun x => h' (Or.inl ⟨x.2, x.1⟩)
      have b1 : (!(e.1 == a && e.2.1 == b)) = true := by simp; omega
      have b2 : (!(e.1 == b && e.2.1 == a)) = true := by simp; omega
      have b3 : (!((revT e).1 == a && (revT e).2.1 == b)) = true := by simp; omega
      have b4 : (!((revT e).1 == b && (revT e).2.1 == a)) = true := by simp; omega
      simp only [List.filter_cons, b1, b2, b3, b4, if_true]

open Classical in
noncomputable def reQ (dir : Bool) (s : PS) (τ : Tr) (σ : St) (a b : Int) (er : Option Er) (σ' : St) : Prop :=
  if hasE dir s.E a b then numOf er = 0 ∧ Rep dir ⟨s.V, s.E.filter fun e => !isE dir a b e⟩ τ σ'
  else numOf er = 5 ∧ σ' = σ

/-- RemoveEdge, of either kind -/
theorem any_removeEdge (dir : Bool) {w0 w : World} {H : Hd} {τ : Tr} {σ : St} {s : PS} {a b : Int} {p : Nat → Addr} {B : Nat} (h0 : Gr w0 H τ σ) (h : Gr w H τ σ) (hr : Rep dir s τ σ) (hp : Sent w p) (hB : Below6 B p) (hf : ∀ c, σ.foot H.A c → B ≤ c)
    (hab : dir = false → a ≠ b) :
    Calls Tryz.prog (gk dir).re.f #[.pointer (some ⟨H.d, 0, none⟩), kI a, kI b] w (SaysErr p w0.heap.size (ErrPost H τ σ (reQ dir s τ σ a b)) w) := by
  by_cases he : hasE dir s.E a b
  · obtain ⟨e, hem, rfl, rfl⟩ := hr.has.2 he
    cases dir with
    | true =>
      refine (d_removeEdge_yes h hem).mono ?_
      rintro r w' ⟨rfl, ht⟩
      refine says_of (er := none) h0 hp hB hf ht (by intro x hx; cases hx) ?_
      unfold reQ; rw [if_pos he]
      refine ⟨rfl, hr.hd, hr.V, ?_, fun hd => by cases hd⟩
      show (cutE σ.E e.src e.dst).map EdgeR.tri = _
      rw [cut_tri, hr.E]
      show List.filter _ s.E = List.filter _ s.E
      refine List.filter_congr fun x _ => ?_
      simp [isE]
    | false =>
      obtain ⟨e', hem', hs', hd'⟩ := hr.has.2 (hasE_comm he)
      refine (u_removeEdge_yes h hp hB hem hem' hs' hd' (hab rfl)).mono ?_
      rintro r w' ⟨rfl, ht⟩
      refine says_of (er := none) h0 hp hB hf ht (by intro x hx; cases hx) ?_
      unfold reQ; rw [if_pos he]
      refine ⟨rfl, hr.hd, hr.V, ?_, fun hd x hx => hr.loop hd x (List.mem_filter.1 hx).1⟩
      show (cutE (cutE σ.E e.src e.dst) e.dst e.src).map EdgeR.tri = _
      rw [cut_tri, cut_tri, hr.E]
      exact stored_cut_u s.E e.src e.dst
  · have hne : ∀ e ∈ σ.E, ¬ (e.src = a ∧ e.dst = b) := fun e hm hh => he (hr.has.1 ⟨e, hm, hh⟩)
    have key : ∀ r w', (r = Ending.returned (errv p 4) ∧ Ext No w w') → (SaysErr p w0.heap.size (ErrPost H τ σ (reQ dir s τ σ a b)) w) r w' := by
      rintro r w' ⟨rfl, hx⟩
      exact says_of (er := some (.sent 4)) h0 hp hB hf (Turned.same h hx) (by intro x hx; cases hx; decide) (by unfold reQ; rw [if_neg he]; exact ⟨rfl, rfl⟩)
    cases dir with
    | true => exact (d_removeEdge_no h hp hB hne).mono key
    | false =>
      have hne' : ∀ e ∈ σ.E, ¬ (e.src = b ∧ e.dst = a) := fun e hm hh => he (hasE_comm (hr.has.1 ⟨e, hm, hh⟩))
      exact (u_removeEdge_no h hp hB hne hne').mono key

/-- an edge's weight put anew -/
def putT (dir : Bool) (a b wt : Int) (e : Tri) : Tri := if isE dir a b e then (e.1, e.2.1, wt) else e

theorem put_tri (E : List EdgeR) (e : EdgeR) : (putE E e).map EdgeR.tri = (E.map EdgeR.tri).map fun x => if x.1 = e.src ∧ x.2.1 = e.dst then (x.1, x.2.1, e.wt) else x := by
  induction E with
  | nil => rfl
  | cons x E ih =>
    rw [putE_cons, List.map_cons, List.map_cons, List.map_cons, ih]
    by_cases h : x.src = e.src ∧ x.dst = e.dst
    · simp [h.1, h.2]
    · simp only [h, if_false]

theorem put_two (a b wt : Int) (x : Tri) : (fun x : Tri => if x.1 = b ∧ x.2.1 = a then (x.1, x.2.1, wt) else x) (if x.1 = a ∧ x.2.1 = b then (x.1, x.2.1, wt) else x) = putT false a b wt x := by
  obtain ⟨x1, x2, x3⟩ := x
  by_cases c1 : x1 = a ∧ x2 = b
  · obtain ⟨rfl, rfl⟩ := c1
    simp [putT, isE]
  · by_cases c2 : x1 = b ∧ x2 = a
    · obtain ⟨rfl, rfl⟩ := c2
      have hn : isE false x2 x1 (x1, x2, x3) = true := by simp [isE]
      simp only [putT, hn, if_true]
      simp [c1]
    · have hn : isE false a b (x1, x2, x3) = false := by simp [isE]; omega
      simp only [putT, hn]
      simp [c1, c2]
theorem isE_rev (a b : Int) (x : Tri) : isE false a b (revT x) = isE false a b x := by
  rw [Bool.eq_iff_iff]; simp [isE]; omega

theorem stored_put_u (E : List Tri) (a b wt : Int) : ((stored false E).map fun x => if x.1 = a ∧ x.2.1 = b then (x.1, x.2.1, wt) else x).map (fun x => if x.1 = b ∧ x.2.1 = a then (x.1, x.2.1, wt) else x) = stored false (E.map (putT false a b wt)) := by
  induction E with
  | nil => rfl
  | cons e E ih =>
    have h1 : stored false (e :: E) = e :: revT e :: stored false E := rfl
    have h2 : stored false ((e :: E).map (putT false a b wt)) = putT false a b wt e :: revT (putT false a b wt e) :: stored false (E.map (putT false a b wt)) := rfl
    rw [h1, h2, ← ih, List.map_cons, List.map_cons, List.map_cons, List.map_cons]
    have g1 := put_two a b wt e
    have g2 := put_two a b wt (revT e)
    have g3 : putT false a b wt (revT e) = revT (putT false a b wt e) := by
      unfold putT
      rw [isE_rev]
      by_cases h : isE false a b e = true
      · rw [if_pos h, if_pos h]
      · rw [if_neg h, if_neg h]
    rw [g3] at g2
    exact congr (congrArg List.cons g1) (congrArg (· :: _) g2)

open Classical in
noncomputable def ueQ (dir : Bool) (s : PS) (τ : Tr) (σ : St) (a b wt : Int) (er : Option Er) (σ' : St) : Prop :=
  if hasE dir s.E a b then numOf er = 0 ∧ Rep dir ⟨s.V, s.E.map (putT dir a b wt)⟩ τ σ'
  else numOf er = 5 ∧ σ' = σ

/-- UpdateEdge, of either kind -/
theorem any_updateEdge (dir : Bool) {w0 w : World} {H : Hd} {τ : Tr} {σ : St} {s : PS} {a b wt : Int} {ob : Nat} {f : Value} {p : Nat → Addr} {B : Nat} (h0 : Gr w0 H τ σ) (h : Gr w H τ σ) (hr : Rep dir s τ σ) (hp : Sent w p) (hB : Below6 B p) (hf : ∀ c, σ.foot H.A c → B ≤ c)
    (hab : dir = false → a ≠ b) (ho : w.cell? ⟨ob, 0, none⟩ = some f) (hopt : Opt w wt f) :
    Calls Tryz.prog (gk dir).ue.f #[.pointer (some ⟨H.d, 0, none⟩), kI a, kI b, .slice (some ⟨ob, 0, none⟩) 1 1] w (SaysErr p w0.heap.size (ErrPost H τ σ (ueQ dir s τ σ a b wt)) w) := by
  by_cases he : hasE dir s.E a b
  · obtain ⟨e, hem, rfl, rfl⟩ := hr.has.2 he
    cases dir with
    | true =>
      refine (d_updateEdge_yes h hem ho hopt).mono ?_
      rintro r w' ⟨rfl, ht⟩
      refine says_of (er := none) h0 hp hB hf ht (by intro x hx; cases hx) ?_
      unfold ueQ; rw [if_pos he]
      refine ⟨rfl, hr.hd, hr.V, ?_, fun hd => by cases hd⟩
      show (putE σ.E (e.wtd wt)).map EdgeR.tri = _
      rw [put_tri, hr.E]
      show List.map _ s.E = List.map _ s.E
      refine List.map_congr_left fun x _ => ?_
      simp [putT, isE]
    | false =>
      obtain ⟨e', hem', hs', hd'⟩ := hr.has.2 (hasE_comm he)
      refine (u_updateEdge_yes h hem hem' hs' hd' (hab rfl) ho hopt).mono ?_
      rintro r w' ⟨rfl, ht⟩
      refine says_of (er := none) h0 hp hB hf ht (by intro x hx; cases hx) ?_
      unfold ueQ; rw [if_pos he]
      refine ⟨rfl, hr.hd, hr.V, ?_, fun hd x hx => ?_⟩
      · show (putE (putE σ.E (e.wtd wt)) (e.rvd wt)).map EdgeR.tri = _
        rw [put_tri, put_tri, hr.E]
        exact stored_put_u s.E e.src e.dst wt
      · obtain ⟨y, hy, rfl⟩ := List.mem_map.1 hx
        have := hr.loop hd y hy
        unfold putT
        split <;> exact this
  · have hne : ∀ e ∈ σ.E, ¬ (e.src = a ∧ e.dst = b) := fun e hm hh => he (hr.has.1 ⟨e, hm, hh⟩)
    have key : ∀ r w', (r = Ending.returned (errv p 4) ∧ Ext No w w') → (SaysErr p w0.heap.size (ErrPost H τ σ (ueQ dir s τ σ a b wt)) w) r w' := by
      rintro r w' ⟨rfl, hx⟩
      exact says_of (er := some (.sent 4)) h0 hp hB hf (Turned.same h hx) (by intro x hx; cases hx; decide) (by unfold ueQ; rw [if_neg he]; exact ⟨rfl, rfl⟩)
    cases dir with
    | true => exact (d_updateEdge_no h hp hne).mono key
    | false => exact (u_updateEdge_no h hp hne).mono key

open Classical in
noncomputable def DoRV (s : PS) (a : Int) (s' : PS) (sp : SP) : Prop :=
  if a ∉ s.V then s' = s ∧ sp = .err 2
  else if usesV s.E a then s' = s ∧ sp = .err 3
  else s' = ⟨s.V.filter (fun x => !(x == a)), s.E⟩ ∧ sp = .err 0
open Classical in
noncomputable def DoRE (dir : Bool) (s : PS) (a b : Int) (s' : PS) (sp : SP) : Prop :=
  if hasE dir s.E a b then s' = ⟨s.V, s.E.filter fun e => !isE dir a b e⟩ ∧ sp = .err 0
  else s' = s ∧ sp = .err 5
open Classical in
noncomputable def DoUE (dir : Bool) (s : PS) (a b wt : Int) (s' : PS) (sp : SP) : Prop :=
  if hasE dir s.E a b then s' = ⟨s.V, s.E.map (putT dir a b wt)⟩ ∧ sp = .err 0
  else s' = s ∧ sp = .err 5

theorem step_rv (dir : Bool) {w : World} {H : Hd} {τ : Tr} {σ : St} {s : PS} {a b wt : Int} {p : Nat → Addr} {B : Nat} (h : Gr w H τ σ) (hr : Rep dir s τ σ) (hp : Sent w p) (hB : Below6 B p) (hf : ∀ c, σ.foot H.A c → B ≤ c) :
    Calls Tryz.prog 24 #[gV dir H, stepV 1 a b wt] w (StepPost dir H τ σ (DoRV s a) w) := by
  have := stepped_rv (gk dir) (w := w) (d := ⟨H.d, 0, none⟩) (a := a) (b := b) (wt := wt) (p := p) hB (R := ErrPost H τ σ (rvQ dir s τ σ a))
    (fun w' he => any_removeVertex dir h (h.ext he (fun _ _ h => h)) hr (hp.ext hB he (fun _ h => h.elim)) hB hf)
  rw [gk_T] at this
  refine this.mono ?_
  rintro r w' ⟨er, rfl, w1, w2, h1, ⟨σ', ht, hq⟩, h3⟩
  have ht' := Turned.stepped h h1 ht h3
  unfold rvQ at hq
  by_cases ha : a ∉ s.V
  · rw [if_pos ha] at hq
    obtain ⟨hn, rfl⟩ := hq
    exact ⟨σ', s, .err 2, nilS, nilS, by rw [hn], by unfold DoRV; rw [if_pos ha]; exact ⟨rfl, rfl⟩, ht', hr, nil_own, nil_own⟩
  · rw [if_neg ha] at hq
    by_cases hu : usesV s.E a
    · rw [if_pos hu] at hq
      obtain ⟨hn, hr'⟩ := hq
      exact ⟨σ', s, .err 3, nilS, nilS, by rw [hn], by unfold DoRV; rw [if_neg ha, if_pos hu]; exact ⟨rfl, rfl⟩, ht', hr', nil_own, nil_own⟩
    · rw [if_neg hu] at hq
      obtain ⟨hn, hr'⟩ := hq
      exact ⟨σ', _, .err 0, nilS, nilS, by rw [hn], by unfold DoRV; rw [if_neg ha, if_neg hu]; exact ⟨rfl, rfl⟩, ht', hr', nil_own, nil_own⟩

theorem step_re (dir : Bool) {w : World} {H : Hd} {τ : Tr} {σ : St} {s : PS} {a b wt : Int} {p : Nat → Addr} {B : Nat} (h : Gr w H τ σ) (hr : Rep dir s τ σ) (hp : Sent w p) (hB : Below6 B p) (hf : ∀ c, σ.foot H.A c → B ≤ c) (hab : dir = false → a ≠ b) :
    Calls Tryz.prog 24 #[gV dir H, stepV 3 a b wt] w (StepPost dir H τ σ (DoRE dir s a b) w) := by
  have := stepped_re (gk dir) (w := w) (d := ⟨H.d, 0, none⟩) (a := a) (b := b) (wt := wt) (p := p) hB (R := ErrPost H τ σ (reQ dir s τ σ a b))
    (fun w' he => any_removeEdge dir h (h.ext he (fun _ _ h => h)) hr (hp.ext hB he (fun _ h => h.elim)) hB hf hab)
  rw [gk_T] at this
  refine this.mono ?_
  rintro r w' ⟨er, rfl, w1, w2, h1, ⟨σ', ht, hq⟩, h3⟩
  have ht' := Turned.stepped h h1 ht h3
  unfold reQ at hq
  by_cases he : hasE dir s.E a b
  · rw [if_pos he] at hq
    obtain ⟨hn, hr'⟩ := hq
    exact ⟨σ', _, .err 0, nilS, nilS, by rw [hn], by unfold DoRE; rw [if_pos he]; exact ⟨rfl, rfl⟩, ht', hr', nil_own, nil_own⟩
  · rw [if_neg he] at hq
    obtain ⟨hn, rfl⟩ := hq
    exact ⟨σ', s, .err 5, nilS, nilS, by rw [hn], by unfold DoRE; rw [if_neg he]; exact ⟨rfl, rfl⟩, ht', hr, nil_own, nil_own⟩

theorem step_ue (dir : Bool) {w : World} {H : Hd} {τ : Tr} {σ : St} {s : PS} {a b wt : Int} {p : Nat → Addr} {B : Nat} (h : Gr w H τ σ) (hr : Rep dir s τ σ) (hp : Sent w p) (hB : Below6 B p) (hf : ∀ c, σ.foot H.A c → B ≤ c) (hab : dir = false → a ≠ b) :
    Calls Tryz.prog 24 #[gV dir H, stepV 4 a b wt] w (StepPost dir H τ σ (DoUE dir s a b wt) w) := by
  have := stepped_ue (gk dir) (w := w) (d := ⟨H.d, 0, none⟩) (a := a) (b := b) (wt := wt) (p := p) hB (R := ErrPost H τ σ (ueQ dir s τ σ a b wt))
    (fun w' ob f he ho hopt => any_updateEdge dir h (h.ext he (fun _ _ h => h)) hr (hp.ext hB he (fun _ h => h.elim)) hB hf hab ho hopt)
  rw [gk_T] at this
  refine this.mono ?_
  rintro r w' ⟨er, rfl, w1, w2, h1, ⟨σ', ht, hq⟩, h3⟩
  have ht' := Turned.stepped h h1 ht h3
  unfold ueQ at hq
  by_cases he : hasE dir s.E a b
  · rw [if_pos he] at hq
    obtain ⟨hn, hr'⟩ := hq
    exact ⟨σ', _, .err 0, nilS, nilS, by rw [hn], by unfold DoUE; rw [if_pos he]; exact ⟨rfl, rfl⟩, ht', hr', nil_own, nil_own⟩
  · rw [if_neg he] at hq
    obtain ⟨hn, rfl⟩ := hq
    exact ⟨σ', s, .err 5, nilS, nilS, by rw [hn], by unfold DoUE; rw [if_neg he]; exact ⟨rfl, rfl⟩, ht', hr, nil_own, nil_own⟩
end Go.Proofs.YtcenebjdhbdejaaGreatDoor
