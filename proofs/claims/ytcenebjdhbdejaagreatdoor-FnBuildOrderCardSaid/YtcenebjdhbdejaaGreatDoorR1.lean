/- A graph in memory, as a list of vertices and a list of edges; stepped's AddVertex, AddEdge, both kinds. stepped over a graph as lists: AddVertex, AddEdge, AdjacencyMap. -/
import Derived.Test.YtcenebjdhbdejaaGreatDoorN1
import Derived.Test.YtcenebjdhbdejaaGreatDoorS3
import Derived.Test.YtcenebjdhbdejaaGreatDoorU4
namespace Go.Proofs.YtcenebjdhbdejaaGreatDoor
open Go.MapKept

/-- A graph as lists. -/
structure PS where
  V : List Int
  E : List Tri

abbrev revT (e : Tri) : Tri := (e.2.1, e.1, e.2.2)
/-- what the store holds: of an undirected graph each edge both ways -/
def stored (dir : Bool) (E : List Tri) : List Tri := if dir then E else E.flatMap fun e => [e, revT e]
abbrev EdgeR.tri (e : EdgeR) : Tri := (e.src, e.dst, e.wt)

structure Rep (dir : Bool) (s : PS) (τ : Tr) (σ : St) : Prop where
  hd : τ.dir = dir
  V : σ.V.map (·.1) = s.V
  E : σ.E.map EdgeR.tri = stored dir s.E
  loop : dir = false → ∀ e ∈ s.E, e.1 ≠ e.2.1

def gk (dir : Bool) : GK := if dir then GKd else GKu
theorem gk_T (dir : Bool) : (gk dir).T = grT dir := by cases dir <;> rfl

abbrev gV (dir : Bool) (H : Hd) : Value := .iface (grT dir) (.pointer (some ⟨H.d, 0, none⟩))

/-- what a step leaves: the graph turned, and what was said -/
theorem Turned.stepped {w w1 w2 w' : World} {H : Hd} {τ : Tr} {σ σ' : St} (h : Gr w H τ σ) (h1 : Ext No w w1) (h2 : Turned H τ σ σ' w1 w2) (h3 : Ext (fun c => w.heap.size ≤ c ∧ c < w1.heap.size) w2 w') : Turned H τ σ σ' w w' := by
  obtain ⟨g, e, f⟩ := h2
  have hlt := h.lt
  have hltt := h.ltt
  refine ⟨g.ext h3 (fun c hc hh => ?_), (h1.no.trans e).then h3 (fun c hc hh => by omega), fun c hc => ?_⟩
  · rcases hc with rfl | rfl | hc
    · omega
    · omega
    · rcases f c hc with h4 | h4
      · have := h.st.foot_lt h4; omega
      · omega
  · rcases f c hc with h4 | h4
    · exact Or.inl h4
    · exact Or.inr (Nat.le_trans h1.size h4)

theorem Turned.same {w w' : World} {H : Hd} {τ : Tr} {σ : St} (h : Gr w H τ σ) (he : Ext No w w') : Turned H τ σ σ w w' :=
  ⟨h.ext he (fun _ _ h => h), he.no, fun _ hc => Or.inl hc⟩

theorem Turned.sent {w w' : World} {H : Hd} {τ : Tr} {σ σ' : St} {p : Nat → Addr} {B : Nat} (h : Turned H τ σ σ' w w') (hp : Sent w p) (hB : Below6 B p) (hf : ∀ c, σ.foot H.A c → B ≤ c) : Sent w' p :=
  hp.ext hB h.2.1 hf

/-- the error of a step, and what it leaves -/
def ErrPost (H : Hd) (τ : Tr) (σ : St) (Q : Option Er → St → Prop) (er : Option Er) (w w' : World) : Prop := ∃ σ', Turned H τ σ σ' w w' ∧ Q er σ'

theorem says_of {p : Nat → Addr} {B : Nat} {w0 w w' : World} {H : Hd} {τ : Tr} {σ σ' : St} {Q : Option Er → St → Prop} {er : Option Er} (hg : Gr w0 H τ σ) (hp : Sent w p) (hB : Below6 B p) (hf : ∀ c, σ.foot H.A c → B ≤ c)
    (h : Turned H τ σ σ' w w') (hno : ∀ x, er = some x → x.no < 6) (hq : Q er σ') : SaysErr p w0.heap.size (ErrPost H τ σ Q) w (.returned (erv p er)) w' :=
  ⟨er, rfl, hno, h.sent hp hB hf, h.2.1.mono (fun _ _ hc => hg.st.foot_lt hc), σ', h, hq⟩

def addVQ (dir : Bool) (s : PS) (τ : Tr) (σ : St) (a : Int) (er : Option Er) (σ' : St) : Prop :=
  if a ∈ s.V then numOf er = 1 ∧ σ' = σ else numOf er = 0 ∧ Rep dir ⟨s.V ++ [a], s.E⟩ τ σ'

/-- AddVertex, of either kind -/
theorem any_addVertex (dir : Bool) {w0 w : World} {H : Hd} {τ : Tr} {σ : St} {s : PS} {a : Int} {p : Nat → Addr} {B : Nat} (h0 : Gr w0 H τ σ) (h : Gr w H τ σ) (hr : Rep dir s τ σ) (hp : Sent w p) (hB : Below6 B p) (hf : ∀ c, σ.foot H.A c → B ≤ c) :
    Calls Tryz.prog (gk dir).av.f #[.pointer (some ⟨H.d, 0, none⟩), kI a, .slice none 0 0] w
      (SaysErr p w0.heap.size (ErrPost H τ σ (addVQ dir s τ σ a)) w) := by
  by_cases ha : a ∈ s.V
  · have : ∃ n, (a, n) ∈ σ.V := by
      rw [← hr.V] at ha
      obtain ⟨v, hv, rfl⟩ := List.mem_map.1 ha
      exact ⟨v.2, hv⟩
    obtain ⟨n, hn⟩ := this
    have key : ∀ r w', (r = Ending.returned (errv p 0) ∧ Ext No w w') → (SaysErr p w0.heap.size (ErrPost H τ σ (addVQ dir s τ σ a)) w) r w' := by
      rintro r w' ⟨rfl, he⟩
      exact says_of (er := some (.sent 0)) h0 hp hB hf (Turned.same h he) (by intro x hx; cases hx; decide) (by unfold addVQ; rw [if_pos ha]; exact ⟨rfl, rfl⟩)
    cases dir with
    | true => exact (d_addVertex_old h hp hB hn).mono key
    | false => exact (u_addVertex_old h hp hB hn).mono key
  · have hk : ∀ n, (a, n) ∉ σ.V := fun n hn => ha (by rw [← hr.V]; exact List.mem_map.2 ⟨_, hn, rfl⟩)
    have key : ∀ r w', (r = Ending.returned .nilIface ∧ ∃ n, Turned H τ σ { σ with V := σ.V ++ [(a, n)] } w w') → (SaysErr p w0.heap.size (ErrPost H τ σ (addVQ dir s τ σ a)) w) r w' := by
      rintro r w' ⟨rfl, n, ht⟩
      exact says_of (er := none) h0 hp hB hf ht (by intro x hx; cases hx) (by unfold addVQ; rw [if_neg ha]; exact ⟨rfl, hr.hd, by simp [hr.V], hr.E, hr.loop⟩)
    cases dir with
    | true => exact (d_addVertex_new h hk).mono key
    | false => exact (u_addVertex_new h hk).mono key

def hasE (dir : Bool) (E : List Tri) (a b : Int) : Prop := ∃ e ∈ E, (e.1 = a ∧ e.2.1 = b) ∨ (dir = false ∧ e.1 = b ∧ e.2.1 = a)

theorem mem_stored {dir : Bool} {E : List Tri} {a b : Int} : (∃ e ∈ stored dir E, e.1 = a ∧ e.2.1 = b) ↔ hasE dir E a b := by
  cases dir with
  | true => simp [stored, hasE]
  | false =>
    constructor
    · rintro ⟨e, he, h1, h2⟩
      simp only [stored, Bool.false_eq_true, if_false, List.mem_flatMap, List.mem_cons, List.not_mem_nil, or_false] at he
      obtain ⟨x, hx, rfl | rfl⟩ := he
      · exact ⟨_, hx, Or.inl ⟨h1, h2⟩⟩
      · exact ⟨_, hx, Or.inr ⟨rfl, h2, h1⟩⟩
    · rintro ⟨e, he, ⟨h1, h2⟩ | ⟨-, h1, h2⟩⟩
      · exact ⟨e, by simp only [stored, Bool.false_eq_true, if_false, List.mem_flatMap]; exact ⟨e, he, by simp⟩, h1, h2⟩
      · exact ⟨revT e, by simp only [stored, Bool.false_eq_true, if_false, List.mem_flatMap]; exact ⟨e, he, by simp⟩, h2, h1⟩

theorem Rep.has {dir : Bool} {s : PS} {τ : Tr} {σ : St} (h : Rep dir s τ σ) {a b : Int} : (∃ e ∈ σ.E, e.src = a ∧ e.dst = b) ↔ hasE dir s.E a b := by
  rw [← mem_stored, ← h.E]
  constructor
  · rintro ⟨e, he, h1, h2⟩
    exact ⟨e.tri, List.mem_map.2 ⟨e, he, rfl⟩, h1, h2⟩
  · rintro ⟨e, he, h1, h2⟩
    obtain ⟨x, hx, rfl⟩ := List.mem_map.1 he
    exact ⟨x, hx, h1, h2⟩
theorem hasE_comm {E : List Tri} {a b : Int} (h : hasE false E a b) : hasE false E b a := by
  obtain ⟨e, he, ⟨h1, h2⟩ | ⟨-, h1, h2⟩⟩ := h
  · exact ⟨e, he, Or.inr ⟨rfl, h1, h2⟩⟩
  · exact ⟨e, he, Or.inl ⟨h1, h2⟩⟩
theorem Rep.mem {dir : Bool} {s : PS} {τ : Tr} {σ : St} (h : Rep dir s τ σ) {a : Int} : a ∈ s.V ↔ ∃ n, (a, n) ∈ σ.V := by
  rw [← h.V]
  constructor
  · intro ha
    obtain ⟨v, hv, rfl⟩ := List.mem_map.1 ha
    exact ⟨v.2, hv⟩
  · rintro ⟨n, hn⟩
    exact List.mem_map.2 ⟨_, hn, rfl⟩

open Classical in
noncomputable def addEQ (dir : Bool) (s : PS) (τ : Tr) (σ : St) (a b wt : Int) (er : Option Er) (σ' : St) : Prop :=
  if a ∉ s.V ∨ b ∉ s.V then numOf er = 2 ∧ σ' = σ
  else if hasE dir s.E a b then numOf er = 4 ∧ σ' = σ
  else numOf er = 0 ∧ Rep dir ⟨s.V, s.E ++ [(a, b, wt)]⟩ τ σ'

theorem stored_snoc_d (E : List Tri) (e : Tri) : stored true (E ++ [e]) = stored true E ++ [e] := rfl
theorem stored_snoc_u (E : List Tri) (e : Tri) : stored false (E ++ [e]) = stored false E ++ [e, revT e] := by simp [stored]

set_option maxRecDepth 10000 in
/-- AddEdge, of either kind, where cycles are not prevented -/
theorem any_addEdge (dir : Bool) {w0 w : World} {H : Hd} {τ : Tr} {σ : St} {s : PS} {a b wt : Int} {ob : Nat} {f : Value} {p : Nat → Addr} {B : Nat} (h0 : Gr w0 H τ σ) (h : Gr w H τ σ) (hr : Rep dir s τ σ) (hp : Sent w p) (hB : Below6 B p) (hf : ∀ c, σ.foot H.A c → B ≤ c)
    (hprev : τ.prev = false) (hab : dir = false → a ≠ b) (ho : w.cell? ⟨ob, 0, none⟩ = some f) (hopt : Opt w wt f) :
    Calls Tryz.prog (gk dir).ae.f #[.pointer (some ⟨H.d, 0, none⟩), kI a, kI b, .slice (some ⟨ob, 0, none⟩) 1 1] w (SaysErr p w0.heap.size (ErrPost H τ σ (addEQ dir s τ σ a b wt)) w) := by
  by_cases hv : a ∉ s.V ∨ b ∉ s.V
  · have key : ∀ r w', (r = Ending.returned ((Er.wrap (.sent 1)).val p) ∧ Ext No w w') → (SaysErr p w0.heap.size (ErrPost H τ σ (addEQ dir s τ σ a b wt)) w) r w' := by
      rintro r w' ⟨rfl, he⟩
      exact says_of (er := some (.wrap (.sent 1))) h0 hp hB hf (Turned.same h he) (by intro x hx; cases hx; decide) (by unfold addEQ; rw [if_pos hv]; exact ⟨rfl, rfl⟩)
    by_cases ha : a ∈ s.V
    · have hb : ∀ n, (b, n) ∉ σ.V := fun n hn => by
        rcases hv with hv | hv
        · exact hv ha
        · exact hv (hr.mem.2 ⟨n, hn⟩)
      cases dir with
      | true => exact (d_addEdge_dst h hp hB (hr.mem.1 ha) hb).mono key
      | false => exact (u_addEdge_dst h hp hB (hr.mem.1 ha) hb).mono key
    · have ha' : ∀ n, (a, n) ∉ σ.V := fun n hn => ha (hr.mem.2 ⟨n, hn⟩)
      cases dir with
      | true => exact (d_addEdge_src h hp ha').mono key
      | false => exact (u_addEdge_src h hp ha').mono key
  · have hv' : a ∈ s.V ∧ b ∈ s.V := by
      constructor
      · exact Classical.byContradiction fun h => hv (Or.inl h)
      · exact Classical.byContradiction fun h => hv (Or.inr h)
    by_cases he : hasE dir s.E a b
    · obtain ⟨e, hem, rfl, rfl⟩ := hr.has.2 he
      have key : ∀ r w', (r = Ending.returned (errv p 3) ∧ Ext No w w') → (SaysErr p w0.heap.size (ErrPost H τ σ (addEQ dir s τ σ e.src e.dst wt)) w) r w' := by
        rintro r w' ⟨rfl, hx⟩
        exact says_of (er := some (.sent 3)) h0 hp hB hf (Turned.same h hx) (by intro x hx; cases hx; decide) (by unfold addEQ; rw [if_neg hv, if_pos he]; exact ⟨rfl, rfl⟩)
      cases dir with
      | true => exact (d_addEdge_old h hp hB hem).mono key
      | false => exact (u_addEdge_old h hp hB hem).mono key
    · have hne : ∀ e ∈ σ.E, ¬ (e.src = a ∧ e.dst = b) := fun e hm hh => he (hr.has.1 ⟨e, hm, hh⟩)
      cases dir with
      | true =>
        refine (d_addEdge_new h hp hB (hr.mem.1 hv'.1) (hr.mem.1 hv'.2) hne (fun hh => by rw [hprev] at hh; cases hh) ho hopt).mono ?_
        rintro r w' ⟨rfl, m, O', I', hm, ht⟩
        refine says_of (er := none) h0 hp hB hf ht (by intro x hx; cases hx) ?_
        unfold addEQ; rw [if_neg hv, if_neg he]
        exact ⟨rfl, hr.hd, hr.V, by rw [stored_snoc_d, List.map_append, hr.E]; rfl, fun hd => by cases hd⟩
      | false =>
        have hne' : ∀ e ∈ σ.E, ¬ (e.src = b ∧ e.dst = a) := fun e hm hh => he (hasE_comm (hr.has.1 ⟨e, hm, hh⟩))
        refine (u_addEdge_new h hp hB hprev (hr.mem.1 hv'.1) (hr.mem.1 hv'.2) (hab rfl) hne hne' ho hopt).mono ?_
        rintro r w' ⟨rfl, m, O', I', hm, ht⟩
        refine says_of (er := none) h0 hp hB hf ht (by intro x hx; cases hx) ?_
        unfold addEQ; rw [if_neg hv, if_neg he]
        refine ⟨rfl, hr.hd, hr.V, by rw [stored_snoc_u, List.map_append, hr.E]; rfl, fun hd e hm => ?_⟩
        rcases List.mem_append.1 hm with hm | hm
        · exact hr.loop hd e hm
        · simp only [List.mem_singleton] at hm
          subst hm
          exact hab rfl
end Go.Proofs.YtcenebjdhbdejaaGreatDoor
namespace Go.Proofs.YtcenebjdhbdejaaGreatDoor
open Go.MapKept

/-- what is said of a step -/
structure SP where
  er : Int
  a : Int
  b : Int
  w : Int
  ks : List Int
  es : List Tri

abbrev SP.err (n : Int) : SP := ⟨n, 0, 0, 0, [], []⟩

/-- what a graph as lists does at a step -/
def DoAV (s : PS) (a : Int) (s' : PS) (sp : SP) : Prop :=
  if a ∈ s.V then s' = s ∧ sp = .err 1 else s' = ⟨s.V ++ [a], s.E⟩ ∧ sp = .err 0
open Classical in
noncomputable def DoAE (dir : Bool) (s : PS) (a b wt : Int) (s' : PS) (sp : SP) : Prop :=
  if a ∉ s.V ∨ b ∉ s.V then s' = s ∧ sp = .err 2
  else if hasE dir s.E a b then s' = s ∧ sp = .err 4
  else s' = ⟨s.V, s.E ++ [(a, b, wt)]⟩ ∧ sp = .err 0
def DoAM (dir : Bool) (s : PS) (s' : PS) (sp : SP) : Prop :=
  s' = s ∧ sp.er = 0 ∧ sp.a = 0 ∧ sp.b = 0 ∧ sp.w = 0 ∧ sp.ks.Perm s.V ∧ sp.ks.Pairwise (fun a b => ltK b a = false) ∧ sp.es.Perm (stored dir s.E) ∧ sp.es.Pairwise (fun a b => ltE b a = false)

/-- what stepped leaves -/
def StepPost (dir : Bool) (H : Hd) (τ : Tr) (σ : St) (D : PS → SP → Prop) (w : World) (r : Ending) (w' : World) : Prop :=
  ∃ (σ' : St) (s' : PS) (sp : SP) (ks es : Value), r = .returned (.tuple #[gV dir H, saidV sp.er sp.a sp.b sp.w ks es]) ∧ D s' sp ∧ Turned H τ σ σ' w w' ∧ Rep dir s' τ σ' ∧
    w'.ownsRow w.heap.size 2 1 ks sp.ks.length (sp.ks.flatMap oneC) ∧ w'.ownsRow w.heap.size 59 3 es sp.es.length (sp.es.flatMap triC)

theorem nil_own {w : World} {B e size : Nat} : w.ownsRow B e size nilS 0 [] := ⟨by simp, Or.inl ⟨rfl, rfl⟩⟩

theorem step_av (dir : Bool) {w : World} {H : Hd} {τ : Tr} {σ : St} {s : PS} {a b wt : Int} {p : Nat → Addr} {B : Nat} (h : Gr w H τ σ) (hr : Rep dir s τ σ) (hp : Sent w p) (hB : Below6 B p) (hf : ∀ c, σ.foot H.A c → B ≤ c) :
    Calls Tryz.prog 24 #[gV dir H, stepV 0 a b wt] w (StepPost dir H τ σ (DoAV s a) w) := by
  have := stepped_av (gk dir) (w := w) (d := ⟨H.d, 0, none⟩) (a := a) (b := b) (wt := wt) (p := p) hB (R := ErrPost H τ σ (addVQ dir s τ σ a))
    (fun w' he => any_addVertex dir h (h.ext he (fun _ _ h => h)) hr (hp.ext hB he (fun _ h => h.elim)) hB hf)
  rw [gk_T] at this
  refine this.mono ?_
  rintro r w' ⟨er, rfl, w1, w2, h1, ⟨σ', ht, hq⟩, h3⟩
  have ht' := Turned.stepped h h1 ht h3
  unfold addVQ at hq
  by_cases ha : a ∈ s.V
  · rw [if_pos ha] at hq
    obtain ⟨hn, rfl⟩ := hq
    exact ⟨σ', s, .err 1, nilS, nilS, by rw [hn], by unfold DoAV; rw [if_pos ha]; exact ⟨rfl, rfl⟩, ht', hr, nil_own, nil_own⟩
  · rw [if_neg ha] at hq
    obtain ⟨hn, hr'⟩ := hq
    exact ⟨σ', _, .err 0, nilS, nilS, by rw [hn], by unfold DoAV; rw [if_neg ha]; exact ⟨rfl, rfl⟩, ht', hr', nil_own, nil_own⟩

theorem step_ae (dir : Bool) {w : World} {H : Hd} {τ : Tr} {σ : St} {s : PS} {a b wt : Int} {p : Nat → Addr} {B : Nat} (h : Gr w H τ σ) (hr : Rep dir s τ σ) (hp : Sent w p) (hB : Below6 B p) (hf : ∀ c, σ.foot H.A c → B ≤ c)
    (hprev : τ.prev = false) (hab : dir = false → a ≠ b) :
    Calls Tryz.prog 24 #[gV dir H, stepV 2 a b wt] w (StepPost dir H τ σ (DoAE dir s a b wt) w) := by
  have := stepped_ae (gk dir) (w := w) (d := ⟨H.d, 0, none⟩) (a := a) (b := b) (wt := wt) (p := p) hB (R := ErrPost H τ σ (addEQ dir s τ σ a b wt))
    (fun w' ob f he ho hopt => any_addEdge dir h (h.ext he (fun _ _ h => h)) hr (hp.ext hB he (fun _ h => h.elim)) hB hf hprev hab ho hopt)
  rw [gk_T] at this
  refine this.mono ?_
  rintro r w' ⟨er, rfl, w1, w2, h1, ⟨σ', ht, hq⟩, h3⟩
  have ht' := Turned.stepped h h1 ht h3
  unfold addEQ at hq
  by_cases hv : a ∉ s.V ∨ b ∉ s.V
  · rw [if_pos hv] at hq
    obtain ⟨hn, rfl⟩ := hq
    exact ⟨σ', s, .err 2, nilS, nilS, by rw [hn], by unfold DoAE; rw [if_pos hv]; exact ⟨rfl, rfl⟩, ht', hr, nil_own, nil_own⟩
  · rw [if_neg hv] at hq
    by_cases he : hasE dir s.E a b
    · rw [if_pos he] at hq
      obtain ⟨hn, rfl⟩ := hq
      exact ⟨σ', s, .err 4, nilS, nilS, by rw [hn], by unfold DoAE; rw [if_neg hv, if_pos he]; exact ⟨rfl, rfl⟩, ht', hr, nil_own, nil_own⟩
    · rw [if_neg he] at hq
      obtain ⟨hn, hr'⟩ := hq
      exact ⟨σ', _, .err 0, nilS, nilS, by rw [hn], by unfold DoAE; rw [if_neg hv, if_neg he]; exact ⟨rfl, rfl⟩, ht', hr', nil_own, nil_own⟩

theorem fan_tri (E : List EdgeR) (K : List Int) : K.flatMap (triL (fun e => e.dst) (fun a => E.filter (fun e => e.src == a))) = (fan E K).map EdgeR.tri := by
  unfold fan
  rw [List.map_flatMap]
  congr 1
  funext k
  unfold triL
  apply List.map_congr_left
  intro e he
  have := (List.mem_filter.1 he).2
  simp only [beq_iff_eq] at this
  rw [← this]

/-- AdjacencyMap, of either kind -/
theorem any_adjacency (dir : Bool) {w : World} {H : Hd} {τ : Tr} {σ : St} {s : PS} (h : Gr w H τ σ) (hr : Rep dir s τ σ) (hV : s.V.length < 1000000) (hE : (stored dir s.E).length < 1000000) :
    Calls Tryz.prog (gk dir).am.f #[.pointer (some ⟨H.d, 0, none⟩)] w (SaysMap (fun e => e.dst) (fun K F => K.Perm s.V ∧ (K.flatMap (triL (fun e => e.dst) F)).Perm (stored dir s.E)) w) := by
  have hV' : σ.V.length < 1000000 := by rw [← hr.V, List.length_map] at hV; exact hV
  have hE' : σ.E.length < 1000000 := by rw [← hr.E, List.length_map] at hE; exact hE
  have key : ∀ r w', Adj σ w r w' → (SaysMap (fun e => e.dst) (fun K F => K.Perm s.V ∧ (K.flatMap (triL (fun e => e.dst) F)).Perm (stored dir s.E)) w) r w' := by
    rintro r w' ⟨mb, L, E', rfl, hL, hE2, hM, -, he⟩
    have hk : (L.map (·.1)).Perm s.V := by rw [← hr.V]; exact hL
    have hp : ((L.map (·.1)).flatMap (triL (fun e => e.dst) (fun a => E'.filter (fun e => e.src == a)))).Perm (stored dir s.E) := by
      rw [fan_tri, ← hr.E]
      refine List.Perm.map _ ((fan_perm (hL.nodup_iff.2 h.st.keys) ?_).trans hE2)
      intro e he
      obtain ⟨⟨n, hn⟩, -⟩ := h.st.ends e (hE2.mem_iff.1 he)
      exact hL.mem_iff.2 (List.mem_map.2 ⟨_, hn, rfl⟩)
    exact ⟨mb, L, _, rfl, hM, he, by have := hk.length_eq; simp at this; omega, by rw [hp.length_eq]; exact hE, hk, hp⟩
  cases dir with
  | true => exact (d_adjacency h hV' hE').mono key
  | false => exact (u_adjacency h hV' hE').mono key

theorem step_am (dir : Bool) {w : World} {H : Hd} {τ : Tr} {σ : St} {s : PS} {a b wt : Int} (h : Gr w H τ σ) (hr : Rep dir s τ σ) (hV : s.V.length < 1000000) (hE : (stored dir s.E).length < 1000000) :
    Calls Tryz.prog 24 #[gV dir H, stepV 9 a b wt] w (StepPost dir H τ σ (DoAM dir s) w) := by
  have := stepped_am (gk dir) (w := w) (d := ⟨H.d, 0, none⟩) (a := a) (b := b) (wt := wt) (kf := fun e => e.dst) (R := fun K F => K.Perm s.V ∧ (K.flatMap (triL (fun e => e.dst) F)).Perm (stored dir s.E))
    (fun w' he => any_adjacency dir (h.ext he (fun _ _ h => h)) hr hV hE)
  rw [gk_T] at this
  refine this.mono ?_
  rintro r w' ⟨ks, es, kl, el, K, F, rfl, ⟨hK1, hK2⟩, hkp, hks, hep, hes, ho1, ho2, he⟩
  exact ⟨σ, s, ⟨0, 0, 0, 0, kl, el⟩, ks, es, rfl, ⟨rfl, rfl, rfl, rfl, rfl, hkp.trans hK1, hks, hep.trans hK2, hes⟩, Turned.same h he, hr, ho1, ho2⟩

end Go.Proofs.YtcenebjdhbdejaaGreatDoor
