/- A graph in memory, as a list of vertices and a list of edges; stepped's AddVertex, AddEdge, both kinds. stepped over a graph as lists: AddVertex, AddEdge, AdjacencyMap. Building, walked. -/
import Derived.Test.YtcenebjdhbdejaaGreatDoorB16
import Derived.Test.YtcenebjdhbdejaaGreatDoorB17
import Derived.Test.YtcenebjdhbdejaaGreatDoorB10
namespace Go.Proofs.YtcenebjdhbdejaaGreatDoor
open Go.MapKept

/-- A graph as lists. -/
structure PS where
  V : List Int
  E : List Tri

abbrev revT (e : Tri) : Tri := (e.2.1, e.1, e.2.2)
/-- what the store holds: of an undirected graph each edge both ways -/
def stored (dir : Bool) (E : List Tri) : List Tri := if dir then E else E.flatMap fun e => [e, revT e]
abbrev EdgeR.tri (e : EdgeR) : Tri := (e.src, e.dst, e.wt)

structure Rep (dir : Bool) (s : PS) (τ : Tr) (σ : St) : Prop where
  hd : τ.dir = dir
  V : σ.V.map (·.1) = s.V
  E : σ.E.map EdgeR.tri = stored dir s.E
  loop : dir = false → ∀ e ∈ s.E, e.1 ≠ e.2.1

def gk (dir : Bool) : GK := if dir then GKd else GKu
theorem gk_T (dir : Bool) : (gk dir).T = grT dir := by cases dir <;> rfl

abbrev gV (dir : Bool) (H : Hd) : Value := .iface (grT dir) (.pointer (some ⟨H.d, 0, none⟩))

/-- what a step leaves: the graph turned, and what was said -/
theorem Turned.stepped {w w1 w2 w' : World} {H : Hd} {τ : Tr} {σ σ' : St} (h : Gr w H τ σ) (h1 : Ext No w w1) (h2 : Turned H τ σ σ' w1 w2) (h3 : Ext (fun c => w.heap.size ≤ c ∧ c < w1.heap.size) w2 w') : Turned H τ σ σ' w w' := by
  obtain ⟨g, e, f⟩ := h2
  have hlt := h.lt
  have hltt := h.ltt
  refine ⟨g.ext h3 (fun c hc hh => ?_), (h1.no.trans e).then h3 (fun c hc hh => by omega), fun c hc => ?_⟩
  · rcases hc with rfl | rfl | hc
    · omega
    · omega
    · rcases f c hc with h4 | h4
      · have := h.st.foot_lt h4; omega
      · omega
  · rcases f c hc with h4 | h4
    · exact Or.inl h4
    · exact Or.inr (Nat.le_trans h1.size h4)

theorem Turned.same {w w' : World} {H : Hd} {τ : Tr} {σ : St} (h : Gr w H τ σ) (he : Ext No w w') : Turned H τ σ σ w w' :=
  ⟨h.ext he (fun _ _ h => h), he.no, fun _ hc => Or.inl hc⟩

theorem Turned.sent {w w' : World} {H : Hd} {τ : Tr} {σ σ' : St} {p : Nat → Addr} {B : Nat} (h : Turned H τ σ σ' w w') (hp : Sent w p) (hB : Below6 B p) (hf : ∀ c, σ.foot H.A c → B ≤ c) : Sent w' p :=
  hp.ext hB h.2.1 hf

/-- the error of a step, and what it leaves -/
def ErrPost (H : Hd) (τ : Tr) (σ : St) (Q : Option Er → St → Prop) (er : Option Er) (w w' : World) : Prop := ∃ σ', Turned H τ σ σ' w w' ∧ Q er σ'

theorem says_of {p : Nat → Addr} {B : Nat} {w0 w w' : World} {H : Hd} {τ : Tr} {σ σ' : St} {Q : Option Er → St → Prop} {er : Option Er} (hg : Gr w0 H τ σ) (hp : Sent w p) (hB : Below6 B p) (hf : ∀ c, σ.foot H.A c → B ≤ c)
    (h : Turned H τ σ σ' w w') (hno : ∀ x, er = some x → x.no < 6) (hq : Q er σ') : SaysErr p w0.heap.size (ErrPost H τ σ Q) w (.returned (erv p er)) w' :=
  ⟨er, rfl, hno, h.sent hp hB hf, h.2.1.mono (fun _ _ hc => hg.st.foot_lt hc), σ', h, hq⟩

def addVQ (dir : Bool) (s : PS) (τ : Tr) (σ : St) (a : Int) (er : Option Er) (σ' : St) : Prop :=
  if a ∈ s.V then numOf er = 1 ∧ σ' = σ else numOf er = 0 ∧ Rep dir ⟨s.V ++ [a], s.E⟩ τ σ'

/-- AddVertex, of either kind -/
theorem any_addVertex (dir : Bool) {w0 w : World} {H : Hd} {τ : Tr} {σ : St} {s : PS} {a : Int} {p : Nat → Addr} {B : Nat} (h0 : Gr w0 H τ σ) (h : Gr w H τ σ) (hr : Rep dir s τ σ) (hp : Sent w p) (hB : Below6 B p) (hf : ∀ c, σ.foot H.A c → B ≤ c) :
    Calls Tryz.prog (gk dir).av.f #[.pointer (some ⟨H.d, 0, none⟩), kI a, .slice none 0 0] w
      (SaysErr p w0.heap.size (ErrPost H τ σ (addVQ dir s τ σ a)) w) := by
  by_cases ha : a ∈ s.V
  · have : ∃ n, (a, n) ∈ σ.V := by
      rw [← hr.V] at ha
      obtain ⟨v, hv, rfl⟩ := List.mem_map.1 ha
      exact ⟨v.2, hv⟩
    obtain ⟨n, hn⟩ := this
    have key : ∀ r w', (r = Ending.returned (errv p 0) ∧ Ext No w w') → (SaysErr p w0.heap.size (ErrPost H τ σ (addVQ dir s τ σ a)) w) r w' := by
      rintro r w' ⟨rfl, he⟩
      exact says_of (er := some (.sent 0)) h0 hp hB hf (Turned.same h he) (by intro x hx; cases hx; decide) (by unfold addVQ; rw [if_pos ha]; exact ⟨rfl, rfl⟩)
    cases dir with
    | true => exact (d_addVertex_old h hp hB hn).mono key
    | false => exact (u_addVertex_old h hp hB hn).mono key
  · have hk : ∀ n, (a, n) ∉ σ.V := fun n hn => ha (by rw [← hr.V]; exact List.mem_map.2 ⟨_, hn, rfl⟩)
    have key : ∀ r w', (r = Ending.returned .nilIface ∧ ∃ n, Turned H τ σ { σ with V := σ.V ++ [(a, n)] } w w') → (SaysErr p w0.heap.size (ErrPost H τ σ (addVQ dir s τ σ a)) w) r w' := by
      rintro r w' ⟨rfl, n, ht⟩
      exact says_of (er := none) h0 hp hB hf ht (by intro x hx; cases hx) (by unfold addVQ; rw [if_neg ha]; exact ⟨rfl, hr.hd, by simp [hr.V], hr.E, hr.loop⟩)
    cases dir with
    | true => exact (d_addVertex_new h hk).mono key
    | false => exact (u_addVertex_new h hk).mono key

def hasE (dir : Bool) (E : List Tri) (a b : Int) : Prop := ∃ e ∈ E, (e.1 = a ∧ e.2.1 = b) ∨ (dir = false ∧ e.1 = b ∧ e.2.1 = a)

theorem mem_stored {dir : Bool} {E : List Tri} {a b : Int} : (∃ e ∈ stored dir E, e.1 = a ∧ e.2.1 = b) ↔ hasE dir E a b := by
  cases dir with
  | true => simp [stored, hasE]
  | false =>
    constructor
    · rintro ⟨e, he, h1, h2⟩
      simp only [stored, Bool.false_eq_true, if_false, List.mem_flatMap, List.mem_cons, List.not_mem_nil, or_false] at he
      obtain ⟨x, hx, rfl | rfl⟩ := he
      · exact ⟨_, hx, Or.inl ⟨h1, h2⟩⟩
      · exact ⟨_, hx, Or.inr ⟨rfl, h2, h1⟩⟩
    · rintro ⟨e, he, ⟨h1, h2⟩ | ⟨-, h1, h2⟩⟩
      · exact ⟨e, by simp only [stored, Bool.false_eq_true, if_false, List.mem_flatMap]; exact ⟨e, he, by simp⟩, h1, h2⟩
      · exact ⟨revT e, by simp only [stored, Bool.false_eq_true, if_false, List.mem_flatMap]; exact ⟨e, he, by simp⟩, h2, h1⟩

theorem Rep.has {dir : Bool} {s : PS} {τ : Tr} {σ : St} (h : Rep dir s τ σ) {a b : Int} : (∃ e ∈ σ.E, e.src = a ∧ e.dst = b) ↔ hasE dir s.E a b := by
  rw [← mem_stored, ← h.E]
  constructor
  · rintro ⟨e, he, h1, h2⟩
    exact ⟨e.tri, List.mem_map.2 ⟨e, he, rfl⟩, h1, h2⟩
  · rintro ⟨e, he, h1, h2⟩
    obtain ⟨x, hx, rfl⟩ := List.mem_map.1 he
    exact ⟨x, hx, h1, h2⟩
theorem hasE_comm {E : List Tri} {a b : Int} (h : hasE false E a b) : hasE false E b a := by
  obtain ⟨e, he, ⟨h1, h2⟩ | ⟨-, h1, h2⟩⟩ := h
  · exact ⟨e, he, Or.inr ⟨rfl, h1, h2⟩⟩
  · exact ⟨e, he, Or.inl ⟨h1, h2⟩⟩
theorem Rep.mem {dir : Bool} {s : PS} {τ : Tr} {σ : St} (h : Rep dir s τ σ) {a : Int} : a ∈ s.V ↔ ∃ n, (a, n) ∈ σ.V := by
  rw [← h.V]
  constructor
  · intro ha
    obtain ⟨v, hv, rfl⟩ := List.mem_map.1 ha
    exact ⟨v.2, hv⟩
  · rintro ⟨n, hn⟩
    exact List.mem_map.2 ⟨_, hn, rfl⟩

open Classical in
noncomputable def addEQ (dir : Bool) (s : PS) (τ : Tr) (σ : St) (a b wt : Int) (er : Option Er) (σ' : St) : Prop :=
  if a ∉ s.V ∨ b ∉ s.V then numOf er = 2 ∧ σ' = σ
  else if hasE dir s.E a b then numOf er = 4 ∧ σ' = σ
  else numOf er = 0 ∧ Rep dir ⟨s.V, s.E ++ [(a, b, wt)]⟩ τ σ'

theorem stored_snoc_d (E : List Tri) (e : Tri) : stored true (E ++ [e]) = stored true E ++ [e] := rfl
theorem stored_snoc_u (E : List Tri) (e : Tri) : stored false (E ++ [e]) = stored false E ++ [e, revT e] := by simp [stored]

set_option maxRecDepth 10000 in
/-- AddEdge, of either kind, where cycles are not prevented -/
theorem any_addEdge (dir : Bool) {w0 w : World} {H : Hd} {τ : Tr} {σ : St} {s : PS} {a b wt : Int} {ob : Nat} {f : Value} {p : Nat → Addr} {B : Nat} (h0 : Gr w0 H τ σ) (h : Gr w H τ σ) (hr : Rep dir s τ σ) (hp : Sent w p) (hB : Below6 B p) (hf : ∀ c, σ.foot H.A c → B ≤ c)
    (hprev : τ.prev = false) (hab : dir = false → a ≠ b) (ho : w.cell? ⟨ob, 0, none⟩ = some f) (hopt : Opt w wt f) :
    Calls Tryz.prog (gk dir).ae.f #[.pointer (some ⟨H.d, 0, none⟩), kI a, kI b, .slice (some ⟨ob, 0, none⟩) 1 1] w (SaysErr p w0.heap.size (ErrPost H τ σ (addEQ dir s τ σ a b wt)) w) := by
  by_cases hv : a ∉ s.V ∨ b ∉ s.V
  · have key : ∀ r w', (r = Ending.returned ((Er.wrap (.sent 1)).val p) ∧ Ext No w w') → (SaysErr p w0.heap.size (ErrPost H τ σ (addEQ dir s τ σ a b wt)) w) r w' := by
      rintro r w' ⟨rfl, he⟩
      exact says_of (er := some (.wrap (.sent 1))) h0 hp hB hf (Turned.same h he) (by intro x hx; cases hx; decide) (by unfold addEQ; rw [if_pos hv]; exact ⟨rfl, rfl⟩)
    by_cases ha : a ∈ s.V
    · have hb : ∀ n, (b, n) ∉ σ.V := fun n hn => by
        rcases hv with hv | hv
        · exact hv ha
        · exact hv (hr.mem.2 ⟨n, hn⟩)
      cases dir with
      | true => exact (d_addEdge_dst h hp hB (hr.mem.1 ha) hb).mono key
      | false => exact (u_addEdge_dst h hp hB (hr.mem.1 ha) hb).mono key
    · have ha' : ∀ n, (a, n) ∉ σ.V := fun n hn => ha (hr.mem.2 ⟨n, hn⟩)
      cases dir with
      | true => exact (d_addEdge_src h hp ha').mono key
      | false => exact (u_addEdge_src h hp ha').mono key
  · have hv' : a ∈ s.V ∧ b ∈ s.V := by
      constructor
      · exact Classical.byContradiction fun h => hv (Or.inl h)
      · exact Classical.byContradiction fun h => hv (Or.inr h)
    by_cases he : hasE dir s.E a b
    · obtain ⟨e, hem, rfl, rfl⟩ := hr.has.2 he
      have key : ∀ r w', (r = Ending.returned (errv p 3) ∧ Ext No w w') → (SaysErr p w0.heap.size (ErrPost H τ σ (addEQ dir s τ σ e.src e.dst wt)) w) r w' := by
        rintro r w' ⟨rfl, hx⟩
        exact says_of (er := some (.sent 3)) h0 hp hB hf (Turned.same h hx) (by intro x hx; cases hx; decide) (by unfold addEQ; rw [if_neg hv, if_pos he]; exact ⟨rfl, rfl⟩)
      cases dir with
      | true => exact (d_addEdge_old h hp hB hem).mono key
      | false => exact (u_addEdge_old h hp hB hem).mono key
    · have hne : ∀ e ∈ σ.E, ¬ (e.src = a ∧ e.dst = b) := fun e hm hh => he (hr.has.1 ⟨e, hm, hh⟩)
      cases dir with
      | true =>
        refine (d_addEdge_new h hp hB (hr.mem.1 hv'.1) (hr.mem.1 hv'.2) hne (fun hh => by rw [hprev] at hh; cases hh) ho hopt).mono ?_
        rintro r w' ⟨rfl, m, O', I', hm, ht⟩
        refine says_of (er := none) h0 hp hB hf ht (by intro x hx; cases hx) ?_
        unfold addEQ; rw [if_neg hv, if_neg he]
        exact ⟨rfl, hr.hd, hr.V, by rw [stored_snoc_d, List.map_append, hr.E]; rfl, fun hd => by cases hd⟩
      | false =>
        have hne' : ∀ e ∈ σ.E, ¬ (e.src = b ∧ e.dst = a) := fun e hm hh => he (hasE_comm (hr.has.1 ⟨e, hm, hh⟩))
        refine (u_addEdge_new h hp hB hprev (hr.mem.1 hv'.1) (hr.mem.1 hv'.2) (hab rfl) hne hne' ho hopt).mono ?_
        rintro r w' ⟨rfl, m, O', I', hm, ht⟩
        refine says_of (er := none) h0 hp hB hf ht (by intro x hx; cases hx) ?_
        unfold addEQ; rw [if_neg hv, if_neg he]
        refine ⟨rfl, hr.hd, hr.V, by rw [stored_snoc_u, List.map_append, hr.E]; rfl, fun hd e hm => ?_⟩
        rcases List.mem_append.1 hm with hm | hm
        · exact hr.loop hd e hm
        · simp only [List.mem_singleton] at hm
          subst hm
          exact hab rfl
end Go.Proofs.YtcenebjdhbdejaaGreatDoor
namespace Go.Proofs.YtcenebjdhbdejaaGreatDoor
open Go.MapKept

/-- what is said of a step -/
structure SP where
  er : Int
  a : Int
  b : Int
  w : Int
  ks : List Int
  es : List Tri

abbrev SP.err (n : Int) : SP := ⟨n, 0, 0, 0, [], []⟩

/-- what a graph as lists does at a step -/
def DoAV (s : PS) (a : Int) (s' : PS) (sp : SP) : Prop :=
  if a ∈ s.V then s' = s ∧ sp = .err 1 else s' = ⟨s.V ++ [a], s.E⟩ ∧ sp = .err 0
open Classical in
noncomputable def DoAE (dir : Bool) (s : PS) (a b wt : Int) (s' : PS) (sp : SP) : Prop :=
  if a ∉ s.V ∨ b ∉ s.V then s' = s ∧ sp = .err 2
  else if hasE dir s.E a b then s' = s ∧ sp = .err 4
  else s' = ⟨s.V, s.E ++ [(a, b, wt)]⟩ ∧ sp = .err 0
def DoAM (dir : Bool) (s : PS) (s' : PS) (sp : SP) : Prop :=
  s' = s ∧ sp.er = 0 ∧ sp.a = 0 ∧ sp.b = 0 ∧ sp.w = 0 ∧ sp.ks.Perm s.V ∧ sp.ks.Pairwise (fun a b => ltK b a = false) ∧ sp.es.Perm (stored dir s.E) ∧ sp.es.Pairwise (fun a b => ltE b a = false)

/-- what stepped leaves -/
def StepPost (dir : Bool) (H : Hd) (τ : Tr) (σ : St) (D : PS → SP → Prop) (w : World) (r : Ending) (w' : World) : Prop :=
  ∃ (σ' : St) (s' : PS) (sp : SP) (ks es : Value), r = .returned (.tuple #[gV dir H, saidV sp.er sp.a sp.b sp.w ks es]) ∧ D s' sp ∧ Turned H τ σ σ' w w' ∧ Rep dir s' τ σ' ∧
    w'.ownsRow w.heap.size 2 1 ks sp.ks.length (sp.ks.flatMap oneC) ∧ w'.ownsRow w.heap.size 59 3 es sp.es.length (sp.es.flatMap triC)

theorem nil_own {w : World} {B e size : Nat} : w.ownsRow B e size nilS 0 [] := ⟨by simp, Or.inl ⟨rfl, rfl⟩⟩

theorem step_av (dir : Bool) {w : World} {H : Hd} {τ : Tr} {σ : St} {s : PS} {a b wt : Int} {p : Nat → Addr} {B : Nat} (h : Gr w H τ σ) (hr : Rep dir s τ σ) (hp : Sent w p) (hB : Below6 B p) (hf : ∀ c, σ.foot H.A c → B ≤ c) :
    Calls Tryz.prog 24 #[gV dir H, stepV 0 a b wt] w (StepPost dir H τ σ (DoAV s a) w) := by
  have := stepped_av (gk dir) (w := w) (d := ⟨H.d, 0, none⟩) (a := a) (b := b) (wt := wt) (p := p) hB (R := ErrPost H τ σ (addVQ dir s τ σ a))
    (fun w' he => any_addVertex dir h (h.ext he (fun _ _ h => h)) hr (hp.ext hB he (fun _ h => h.elim)) hB hf)
  rw [gk_T] at this
  refine this.mono ?_
  rintro r w' ⟨er, rfl, w1, w2, h1, ⟨σ', ht, hq⟩, h3⟩
  have ht' := Turned.stepped h h1 ht h3
  unfold addVQ at hq
  by_cases ha : a ∈ s.V
  · rw [if_pos ha] at hq
    obtain ⟨hn, rfl⟩ := hq
    exact ⟨σ', s, .err 1, nilS, nilS, by rw [hn], by unfold DoAV; rw [if_pos ha]; exact ⟨rfl, rfl⟩, ht', hr, nil_own, nil_own⟩
  · rw [if_neg ha] at hq
    obtain ⟨hn, hr'⟩ := hq
    exact ⟨σ', _, .err 0, nilS, nilS, by rw [hn], by unfold DoAV; rw [if_neg ha]; exact ⟨rfl, rfl⟩, ht', hr', nil_own, nil_own⟩

theorem step_ae (dir : Bool) {w : World} {H : Hd} {τ : Tr} {σ : St} {s : PS} {a b wt : Int} {p : Nat → Addr} {B : Nat} (h : Gr w H τ σ) (hr : Rep dir s τ σ) (hp : Sent w p) (hB : Below6 B p) (hf : ∀ c, σ.foot H.A c → B ≤ c)
    (hprev : τ.prev = false) (hab : dir = false → a ≠ b) :
    Calls Tryz.prog 24 #[gV dir H, stepV 2 a b wt] w (StepPost dir H τ σ (DoAE dir s a b wt) w) := by
  have := stepped_ae (gk dir) (w := w) (d := ⟨H.d, 0, none⟩) (a := a) (b := b) (wt := wt) (p := p) hB (R := ErrPost H τ σ (addEQ dir s τ σ a b wt))
    (fun w' ob f he ho hopt => any_addEdge dir h (h.ext he (fun _ _ h => h)) hr (hp.ext hB he (fun _ h => h.elim)) hB hf hprev hab ho hopt)
  rw [gk_T] at this
  refine this.mono ?_
  rintro r w' ⟨er, rfl, w1, w2, h1, ⟨σ', ht, hq⟩, h3⟩
  have ht' := Turned.stepped h h1 ht h3
  unfold addEQ at hq
  by_cases hv : a ∉ s.V ∨ b ∉ s.V
  · rw [if_pos hv] at hq
    obtain ⟨hn, rfl⟩ := hq
    exact ⟨σ', s, .err 2, nilS, nilS, by rw [hn], by unfold DoAE; rw [if_pos hv]; exact ⟨rfl, rfl⟩, ht', hr, nil_own, nil_own⟩
  · rw [if_neg hv] at hq
    by_cases he : hasE dir s.E a b
    · rw [if_pos he] at hq
      obtain ⟨hn, rfl⟩ := hq
      exact ⟨σ', s, .err 4, nilS, nilS, by rw [hn], by unfold DoAE; rw [if_neg hv, if_pos he]; exact ⟨rfl, rfl⟩, ht', hr, nil_own, nil_own⟩
    · rw [if_neg he] at hq
      obtain ⟨hn, hr'⟩ := hq
      exact ⟨σ', _, .err 0, nilS, nilS, by rw [hn], by unfold DoAE; rw [if_neg hv, if_neg he]; exact ⟨rfl, rfl⟩, ht', hr', nil_own, nil_own⟩

theorem fan_tri (E : List EdgeR) (K : List Int) : K.flatMap (triL (fun e => e.dst) (fun a => E.filter (fun e => e.src == a))) = (fan E K).map EdgeR.tri := by
  unfold fan
  rw [List.map_flatMap]
  congr 1
  funext k
  unfold triL
  apply List.map_congr_left
  intro e he
  have := (List.mem_filter.1 he).2
  simp only [beq_iff_eq] at this
  rw [← this]

/-- AdjacencyMap, of either kind -/
theorem any_adjacency (dir : Bool) {w : World} {H : Hd} {τ : Tr} {σ : St} {s : PS} (h : Gr w H τ σ) (hr : Rep dir s τ σ) (hV : s.V.length < 1000000) (hE : (stored dir s.E).length < 1000000) :
    Calls Tryz.prog (gk dir).am.f #[.pointer (some ⟨H.d, 0, none⟩)] w (SaysMap (fun e => e.dst) (fun K F => K.Perm s.V ∧ (K.flatMap (triL (fun e => e.dst) F)).Perm (stored dir s.E)) w) := by
  have hV' : σ.V.length < 1000000 := by rw [← hr.V, List.length_map] at hV; exact hV
  have hE' : σ.E.length < 1000000 := by rw [← hr.E, List.length_map] at hE; exact hE
  have key : ∀ r w', Adj σ w r w' → (SaysMap (fun e => e.dst) (fun K F => K.Perm s.V ∧ (K.flatMap (triL (fun e => e.dst) F)).Perm (stored dir s.E)) w) r w' := by
    rintro r w' ⟨mb, L, E', rfl, hL, hE2, hM, -, he⟩
    have hk : (L.map (·.1)).Perm s.V := by rw [← hr.V]; exact hL
    have hp : ((L.map (·.1)).flatMap (triL (fun e => e.dst) (fun a => E'.filter (fun e => e.src == a)))).Perm (stored dir s.E) := by
      rw [fan_tri, ← hr.E]
      refine List.Perm.map _ ((fan_perm (hL.nodup_iff.2 h.st.keys) ?_).trans hE2)
      intro e he
      obtain ⟨⟨n, hn⟩, -⟩ := h.st.ends e (hE2.mem_iff.1 he)
      exact hL.mem_iff.2 (List.mem_map.2 ⟨_, hn, rfl⟩)
    exact ⟨mb, L, _, rfl, hM, he, by have := hk.length_eq; simp at this; omega, by rw [hp.length_eq]; exact hE, hk, hp⟩
  cases dir with
  | true => exact (d_adjacency h hV' hE').mono key
  | false => exact (u_adjacency h hV' hE').mono key

theorem step_am (dir : Bool) {w : World} {H : Hd} {τ : Tr} {σ : St} {s : PS} {a b wt : Int} (h : Gr w H τ σ) (hr : Rep dir s τ σ) (hV : s.V.length < 1000000) (hE : (stored dir s.E).length < 1000000) :
    Calls Tryz.prog 24 #[gV dir H, stepV 9 a b wt] w (StepPost dir H τ σ (DoAM dir s) w) := by
  have := stepped_am (gk dir) (w := w) (d := ⟨H.d, 0, none⟩) (a := a) (b := b) (wt := wt) (kf := fun e => e.dst) (R := fun K F => K.Perm s.V ∧ (K.flatMap (triL (fun e => e.dst) F)).Perm (stored dir s.E))
    (fun w' he => any_adjacency dir (h.ext he (fun _ _ h => h)) hr hV hE)
  rw [gk_T] at this
  refine this.mono ?_
  rintro r w' ⟨ks, es, kl, el, K, F, rfl, ⟨hK1, hK2⟩, hkp, hks, hep, hes, ho1, ho2, he⟩
  exact ⟨σ, s, ⟨0, 0, 0, 0, kl, el⟩, ks, es, rfl, ⟨rfl, rfl, rfl, rfl, rfl, hkp.trans hK1, hks, hep.trans hK2, hes⟩, Turned.same h he, hr, ho1, ho2⟩

end Go.Proofs.YtcenebjdhbdejaaGreatDoor

namespace Go.Proofs.YtcenebjdhbdejaaGreatDoor
open Go.MapKept

/-- A step. -/
structure Stp where
  op : Int
  a : Int
  b : Int
  wt : Int
abbrev Stp.c (s : Stp) : List Value := [.int .u8 s.op, kI s.a, kI s.b, .int .i64 s.wt]
abbrev Stp.val (s : Stp) : Value := stepV s.op s.a s.b s.wt
theorem Stp.one (s : Stp) : ∀ u ∈ s.c, u.oneCell' = true := by
  intro u hu
  simp only [List.mem_cons, List.not_mem_nil, or_false] at hu
  rcases hu with rfl | rfl | rfl | rfl <;> rfl

/-- What is said, as it lies in memory. -/
structure SaidX where
  er : Int
  a : Int
  b : Int
  w : Int
  kq : Option Addr
  kn : Nat
  kc : Nat
  eq : Option Addr
  en : Nat
  ec : Nat
abbrev SaidX.ks (x : SaidX) : Value := .slice x.kq x.kn x.kc
abbrev SaidX.es (x : SaidX) : Value := .slice x.eq x.en x.ec
abbrev SaidX.c (x : SaidX) : List Value := [.int .u8 x.er, kI x.a, kI x.b, .int .i64 x.w, x.ks, x.es]
theorem SaidX.one (x : SaidX) : ∀ u ∈ x.c, u.oneCell' = true := by
  intro u hu
  simp only [List.mem_cons, List.not_mem_nil, or_false] at hu
  rcases hu with rfl | rfl | rfl | rfl | rfl | rfl <;> rfl

structure SaidOk (N : Nat) (w : World) (x : SaidX) (sp : SP) : Prop where
  er : x.er = sp.er
  a : x.a = sp.a
  b : x.b = sp.b
  wt : x.w = sp.w
  ks : w.ownsRow N 2 1 x.ks sp.ks.length (sp.ks.flatMap oneC)
  es : w.ownsRow N 59 3 x.es sp.es.length (sp.es.flatMap triC)

/-- a block that a graph may turn: at N or behind, and no row but a store's own -/
def soft (N : Nat) (w : World) (c : Nat) : Prop := N ≤ c ∧ ∀ cs T fr, w.heap[c]? = some (.cells cs T fr) → T = 149

theorem ownsRow_soft {N : Nat} {w w' : World} {B e size n : Nat} {v : Value} {xs : List Value} (h : w.ownsRow B e size v n xs) (he : Ext (soft N w) w w') (hne : e ≠ 149) : w'.ownsRow B e size v n xs := by
  refine ownsRow_ext h he fun c hc hs => ?_
  rcases h.2 with ⟨rfl, -⟩ | ⟨g, cap, cur, rfl, hb, hgg, rest⟩
  · simp [Value.ownBlock] at hc
  · simp only [Value.ownBlock, Option.some.injEq] at hc
    subst hc
    exact hne (hs.2 _ _ _ hgg)

theorem SaidOk.soft {N N' : Nat} {w w' : World} {x : SaidX} {sp : SP} (h : SaidOk N w x sp) (he : Ext (soft N' w) w w') : SaidOk N w' x sp :=
  ⟨h.er, h.a, h.b, h.wt, ownsRow_soft h.ks he (by decide), ownsRow_soft h.es he (by decide)⟩
theorem SaidOk.row {N : Nat} {w w' : World} {x : SaidX} {sp : SP} (h : SaidOk N w x sp) {t : Nat} {cs : Array Value} {fr : Nat × Nat} (ht : w.heap[t]? = some (.cells cs 39 fr)) (he : Ext (fun c => c = t) w w') : SaidOk N w' x sp :=
  ⟨h.er, h.a, h.b, h.wt, ownsRow_ext h.ks he (fun c hc e => row_ne ht h.ks (by decide) (by rw [hc, e])), ownsRow_ext h.es he (fun c hc e => row_ne ht h.es (by decide) (by rw [hc, e]))⟩
theorem SaidOk.own {N : Nat} {w w' : World} {x : SaidX} {sp : SP} (h : SaidOk N w x sp) {B size n : Nat} {v : Value} {xs : List Value} (ho : w.ownsRow B 39 size v n xs) (he : Ext (fun c => some c = v.ownBlock) w w') : SaidOk N w' x sp :=
  ⟨h.er, h.a, h.b, h.wt, ownsRow_ext h.ks he (fun c hc e => ownsRow_ne h.ks ho (by decide) c hc e.symm), ownsRow_ext h.es he (fun c hc e => ownsRow_ne h.es ho (by decide) c hc e.symm)⟩
theorem SaidOk.no {N : Nat} {w w' : World} {x : SaidX} {sp : SP} (h : SaidOk N w x sp) (he : Ext No w w') : SaidOk N w' x sp :=
  ⟨h.er, h.a, h.b, h.wt, ownsRow_ext h.ks he (fun _ _ h => h), ownsRow_ext h.es he (fun _ _ h => h)⟩

/-- A graph's value, all its blocks at N or behind. -/
def GSt (dir prev : Bool) (N : Nat) (w : World) (v : Value) (s : PS) : Prop :=
  ∃ H τ σ, v = gV dir H ∧ Gr w H τ σ ∧ Rep dir s τ σ ∧ τ.prev = prev ∧ ∀ c, Gr.foot H σ c → N ≤ c

theorem GSt.ext {dir prev : Bool} {N : Nat} {w w' : World} {v : Value} {s : PS} {S : Nat → Prop} (h : GSt dir prev N w v s) (he : Ext S w w') (hS : ∀ c T cs fr, w.heap[c]? = some (.cells cs T fr) → T = 149 ∨ T = 113 ∨ T = 174 ∨ T = 175 → ¬ S c) (hM : ∀ c es clk, w.heap[c]? = some (.map es clk) → ¬ S c) : GSt dir prev N w' v s := by
  obtain ⟨H, τ, σ, rfl, hg, hr, hp, hf⟩ := h
  refine ⟨H, τ, σ, rfl, hg.ext he (fun c hc => ?_), hr, hp, hf⟩
  have hmap : ∀ {b M}, MapI kI w b M → ¬ S b := fun {b M} hm => by
    obtain ⟨⟨es, clk, h1, -⟩, -⟩ := hm
    exact hM _ _ _ h1
  have hst := hg.st
  rcases hc with rfl | rfl | hc | hc
  · exact hS _ _ _ _ hg.row (by cases τ.dir <;> simp)
  · exact hS _ _ _ _ hg.tra (by simp)
  · simp only [St.blocks, List.mem_cons, List.mem_append, List.mem_map] at hc
    rcases hc with rfl | rfl | rfl | rfl | rfl | ⟨o, ho, rfl⟩ | ⟨o, ho, rfl⟩
    · exact hS _ _ _ _ hst.row (by simp)
    · exact hmap hst.vm
    · exact hmap hst.pm
    · exact hmap hst.om
    · exact hmap hst.im
    · exact hmap (hst.outs o ho)
    · exact hmap (hst.ins o ho)
  · exact hM _ _ _ (hst.att c hc)

theorem foot_soft {N : Nat} {w : World} {H : Hd} {τ : Tr} {σ : St} (hg : Gr w H τ σ) (hf : ∀ c, Gr.foot H σ c → N ≤ c) {c : Nat} (hc : σ.foot H.A c) : soft N w c := by
  refine ⟨hf c (Or.inr (Or.inr hc)), fun cs T fr h => ?_⟩
  have hmap : ∀ {b M}, MapI kI w b M → w.heap[b]? = some (.cells cs T fr) → T = 149 := fun {b M} hm h => by
    obtain ⟨⟨es, clk, h1, -⟩, -⟩ := hm
    rw [h1] at h; cases h
  have hst := hg.st
  rcases hc with hc | hc
  · simp only [St.blocks, List.mem_cons, List.mem_append, List.mem_map] at hc
    rcases hc with rfl | rfl | rfl | rfl | rfl | ⟨o, ho, rfl⟩ | ⟨o, ho, rfl⟩
    · rw [hst.row] at h
      simp only [Option.some.injEq, Obj.cells.injEq] at h
      exact h.2.1.symm
    · exact hmap hst.vm h
    · exact hmap hst.pm h
    · exact hmap hst.om h
    · exact hmap hst.im h
    · exact hmap (hst.outs o ho) h
    · exact hmap (hst.ins o ho) h
  · rw [hst.att c hc] at h; cases h

/-- what stepped leaves, of a graph's value -/
def StepG (dir prev : Bool) (N : Nat) (D : PS → SP → Prop) (w : World) (r : Ending) (w' : World) : Prop :=
  ∃ (v' : Value) (s' : PS) (sp : SP) (x : SaidX), r = .returned (.tuple #[v', saidV x.er x.a x.b x.w x.ks x.es]) ∧ D s' sp ∧ GSt dir prev N w' v' s' ∧ SaidOk w.heap.size w' x sp ∧ Ext (soft N w) w w'

theorem StepPost.g {dir prev : Bool} {N : Nat} {H : Hd} {τ : Tr} {σ : St} {D : PS → SP → Prop} {w w' : World} {r : Ending} (h : StepPost dir H τ σ D w r w') (hg : Gr w H τ σ) (hp : τ.prev = prev) (hf : ∀ c, Gr.foot H σ c → N ≤ c) (hN : N ≤ w.heap.size) : StepG dir prev N D w r w' := by
  obtain ⟨σ', s', sp, ks, es, rfl, hd, ⟨t1, t2, t3⟩, hr, hk, he⟩ := h
  obtain ⟨q, c, rfl, -⟩ := own_read (f := oneC) (fun _ => rfl) hk
  obtain ⟨q2, c2, rfl, -⟩ := own_read (f := triC) (fun _ => rfl) he
  refine ⟨gV dir H, s', sp, ⟨sp.er, sp.a, sp.b, sp.w, q, _, c, q2, _, c2⟩, rfl, hd, ⟨H, τ, σ', rfl, t1, hr, hp, fun c hc => ?_⟩, ⟨rfl, rfl, rfl, rfl, hk, he⟩, t2.mono (fun c _ hc => foot_soft hg hf hc)⟩
  rcases hc with rfl | rfl | hc
  · exact hf _ (Or.inl rfl)
  · exact hf _ (Or.inr (Or.inl rfl))
  · rcases t3 c hc with h | h
    · exact hf _ (Or.inr (Or.inr h))
    · omega

/-- two lists, element by element -/
def All2 {α β : Type} (R : α → β → Prop) (xs : List α) (ys : List β) : Prop := xs.length = ys.length ∧ ∀ (i : Nat) (x : α) (y : β), xs[i]? = some x → ys[i]? = some y → R x y
theorem All2.nil {α β : Type} {R : α → β → Prop} : All2 R [] [] := ⟨rfl, by simp⟩
theorem All2.mono {α β : Type} {R S : α → β → Prop} {xs : List α} {ys : List β} (h : All2 R xs ys) (hm : ∀ x y, R x y → S x y) : All2 S xs ys := ⟨h.1, fun i x y h1 h2 => hm x y (h.2 i x y h1 h2)⟩
theorem All2.snoc {α β : Type} {R : α → β → Prop} {xs : List α} {ys : List β} {x : α} {y : β} (h : All2 R xs ys) (hr : R x y) : All2 R (xs ++ [x]) (ys ++ [y]) := by
  refine ⟨by simp [h.1], fun i a b h1 h2 => ?_⟩
  by_cases hi : i < xs.length
  · rw [List.getElem?_append_left hi] at h1
    rw [List.getElem?_append_left (by rw [← h.1]; exact hi)] at h2
    exact h.2 i a b h1 h2
  · have h3 : i < (xs ++ [x]).length := (List.getElem?_eq_some_iff.1 h1).1
    simp only [List.length_append, List.length_cons, List.length_nil] at h3
    have h4 : i = xs.length := by omega
    subst h4
    rw [List.getElem?_append_right (Nat.le_refl _)] at h1
    rw [List.getElem?_append_right (by rw [h.1]; exact Nat.le_refl _), h.1] at h2
    simp only [Nat.sub_self, List.getElem?_cons_zero, Option.some.injEq] at h1 h2
    rw [← h1, ← h2]; exact hr

/-- steps one behind the other -/
inductive Chain (D : Stp → PS → PS → SP → Prop) : List Stp → PS → PS → List SP → Prop
  | nil (s : PS) : Chain D [] s s []
  | snoc {l : List Stp} {s s1 s2 : PS} {sps : List SP} {x : Stp} {sp : SP} : Chain D l s s1 sps → D x s1 s2 sp → Chain D (l ++ [x]) s s2 (sps ++ [sp])

theorem U30 : Tryz.prog.underlying 30 = some (.slice 39) := by kernel_rfl
theorem I39 : (Tryz.prog.info? 39).map (fun i => (i.zero, i.size, i.bytes)) = some (some (.agg #[.int .u8 0, .int .i64 0, .int .i64 0, .int .i64 0, nilS, nilS]), 6, 80) := by kernel_rfl

/-- a round of Building -/
def BR (dir prev : Bool) (D : Stp → PS → PS → SP → Prop) (w0 : World) (_B0 : Nat) (l : List Stp) (_sv : Value) (s0 : PS) (k : Nat) (xv ov iv : Value) (wr : World) : Prop :=
  ∃ (i : Nat) (s : PS) (xs : List SaidX) (sps : List SP), iv = .int .i64 i ∧ i + k = l.length ∧ GSt dir prev w0.heap.size wr xv s ∧ Chain D (l.take i) s0 s sps ∧ s.V.length + s.E.length ≤ i ∧
    wr.ownsRow w0.heap.size 39 6 ov xs.length (xs.flatMap SaidX.c) ∧ All2 (SaidOk w0.heap.size wr) xs sps ∧ Ext No w0 wr ∧ xs.length = i

def StepsOk (dir prev : Bool) (D : Stp → PS → PS → SP → Prop) (p : Nat → Addr) (N : Nat) (l : List Stp) : Prop :=
  ∀ i (hi : i < l.length) (w : World) (v : Value) (s : PS), N ≤ w.heap.size → Sent w p → GSt dir prev N w v s → s.V.length + s.E.length ≤ i →
    Calls Tryz.prog 24 #[v, (l[i]'hi).val] w (fun r w' => StepG dir prev N (fun s' sp => D (l[i]'hi) s s' sp ∧ s'.V.length + s'.E.length ≤ i + 1) w r w')

/-- What Building leaves. -/
def Built (D : Stp → PS → PS → SP → Prop) (l : List Stp) (w : World) (r : Ending) (w' : World) : Prop :=
  ∃ (ov : Value) (s : PS) (xs : List SaidX) (sps : List SP), r = .returned ov ∧ Chain D l ⟨[], []⟩ s sps ∧ w'.ownsRow w.heap.size 39 6 ov xs.length (xs.flatMap SaidX.c) ∧ All2 (SaidOk w.heap.size w') xs sps ∧ Ext No w w' ∧ xs.length = l.length

theorem alloc_at {W : World} {n : Nat} (h : W.heap.size = n) (o : Obj) : (W.alloc o).heap[n]? = some o := h ▸ (heap_alloc W o).1

/-- behind the call of stepped and the store of what it said -/
structure BStep (dir prev : Bool) (w0 : World) (ov v' : Value) (s' : PS) (xs : List SaidX) (sps : List SP) (x : SaidX) (sp : SP) (W : World) : Prop where
  gs : GSt dir prev w0.heap.size W v' s'
  own : W.ownsRow w0.heap.size 39 6 ov xs.length (xs.flatMap SaidX.c)
  all : All2 (SaidOk w0.heap.size W) xs sps
  ok : SaidOk w0.heap.size W x sp
  he : Ext No w0 W

theorem SaidOk.low {N N' : Nat} {w : World} {x : SaidX} {sp : SP} (h : SaidOk N w x sp) (hn : N' ≤ N) : SaidOk N' w x sp := ⟨h.er, h.a, h.b, h.wt, ownsRow_low h.ks hn, ownsRow_low h.es hn⟩

theorem BStep.of {dir prev : Bool} {w0 wr W1 w2 W3 : World} {ov v' : Value} {s' : PS} {xs : List SaidX} {sps : List SP} {x : SaidX} {sp : SP} (hov : wr.ownsRow w0.heap.size 39 6 ov xs.length (xs.flatMap SaidX.c)) (hall : All2 (SaidOk w0.heap.size wr) xs sps) (he : Ext No w0 wr)
    (h1 : Ext No wr W1) (hs1 : wr.heap.size ≤ W1.heap.size) (hsoft : Ext (soft w0.heap.size W1) W1 w2) (hrow : w2.heap[wr.heap.size + 1]? = some said0) (hgs : GSt dir prev w0.heap.size w2 v' s') (hok : SaidOk W1.heap.size w2 x sp)
    (h3 : Ext (fun c => c = wr.heap.size + 1) w2 W3) : BStep dir prev w0 ov v' s' xs sps x sp W3 where
  gs := hgs.ext h3 (fun c T cs fr hc hT e => by
      subst e; rw [hrow] at hc
      simp only [Option.some.injEq, Obj.cells.injEq] at hc
      obtain ⟨-, rfl, -⟩ := hc
      simp at hT) (fun c es clk hc e => by subst e; rw [hrow] at hc; cases hc)
  own := ownsRow_ext (ownsRow_soft (ownsRow_ext hov h1 (fun _ _ h => h)) hsoft (by decide)) h3 (fun c hc e => by have := (hov.lt c hc).2; omega)
  all := hall.mono fun y z h => ((h.no h1).soft hsoft).row hrow h3
  ok := (hok.row hrow h3).low (Nat.le_trans he.size hs1)
  he := ((he.trans h1).then hsoft (fun c hc hs => by have := hs.1; omega)).then h3 (fun c hc e => by have := he.size; omega)

theorem BStep.next {dir prev : Bool} {w0 W wa : World} {ov ov' v' : Value} {s' : PS} {xs : List SaidX} {sps : List SP} {x : SaidX} {sp : SP} (h : BStep dir prev w0 ov v' s' xs sps x sp W)
    (_ho : wa.ownsRow w0.heap.size 39 6 ov' (xs ++ [x]).length ((xs ++ [x]).flatMap SaidX.c)) (he : Ext (fun c => some c = ov.ownBlock) (W.alloc (.cells x.c.toArray 39)) wa) :
    GSt dir prev w0.heap.size wa v' s' ∧ All2 (SaidOk w0.heap.size wa) (xs ++ [x]) (sps ++ [sp]) ∧ Ext No w0 wa := by
  have e1 : Ext No W (W.alloc (.cells x.c.toArray 39)) := (Ext.refl _ W).alloc _
  have ho1 := h.own.alloc (.cells x.c.toArray 39)
  have hblk : ∀ c T cs fr, (W.alloc (.cells x.c.toArray 39)).heap[c]? = some (.cells cs T fr) → T ≠ 39 → some c ≠ ov.ownBlock := fun c T cs fr hc hT e => row_ne hc ho1 hT e.symm
  refine ⟨(h.gs.ext e1 (fun _ _ _ _ _ _ h => h) (fun _ _ _ _ h => h)).ext he (fun c T cs fr hc hT => hblk c T cs fr hc (by rintro rfl; simp at hT)) (fun c es clk hc e => ?_), ?_, ?_⟩
  · rcases ho1.2 with ⟨rfl, -⟩ | ⟨g, cap, cur, rfl, hb, hgg, rest⟩
    · simp [Value.ownBlock] at e
    · simp only [Value.ownBlock, Option.some.injEq] at e
      subst e
      rw [hc] at hgg; cases hgg
  · exact (h.all.mono fun y z hh => (hh.no e1).own ho1 he).snoc ((h.ok.no e1).own ho1 he)
  · exact (h.he.trans e1).then he (fun c hc e => by have := (h.own.lt c e.symm).1; omega)

set_option maxRecDepth 100000 in
set_option maxHeartbeats 2000000 in
theorem building_run (dir prev wei : Bool) {D : Stp → PS → PS → SP → Prop} {p : Nat → Addr} {B B0 : Nat} {w : World} {l : List Stp} {sv : Value} (hp : Sent w p) (hB : Below6 B p)
    (hsv : w.ownsRow B0 64 4 sv l.length (l.flatMap Stp.c)) (hl : l.length < 1000000) (hstep : StepsOk dir prev D p w.heap.size l) :
    Calls Tryz.prog 11 #[.bool dir, .bool prev, .bool wei, sv] w (Built D l w) := by
  obtain ⟨q, cap, rfl, -⟩ := own_read (f := Stp.c) (fun _ => rfl) hsv
  have HS := Lib.hid (And.intro hp (And.intro hB (And.intro hsv (And.intro hl hstep))))
  clear hp hB hsv hl hstep
  go_enter Tryz.func11, Tryz.ntmps11
  go_wp2_with fail
  refine (started_run dir prev wei w).mono ?_
  rintro r1 w1 ⟨H, rfl, hg, he, hf⟩
  have HG := Lib.hid (And.intro hg (And.intro he hf))
  clear hg he hf
  go_wp2_with fail
  try go_frame
  go_loopg [9, 10, 20] l.length (fun k xv ov iv wr => BR dir prev D w B0 l (.slice q l.length cap) ⟨[], []⟩ k xv ov iv wr)
  case atStart =>
    obtain ⟨hg, he, hf⟩ := HG.out
    exact ⟨0, ⟨[], []⟩, [], [], rfl, by simp, ⟨H, _, σ0, rfl, hg, ⟨oD_dir _ _ _, rfl, by cases dir <;> rfl, fun _ e he => by cases he⟩, oD_prev _ _ _, hf⟩, Chain.nil _, by simp, nil_own, All2.nil, he, rfl⟩
  case round =>
    obtain ⟨i, s, xs, sps, rfl, hk, hgs, hch, hsz, hov, hall, he, hxl⟩ := hrel
    obtain ⟨q2, cap2, rfl, -⟩ := own_read (f := SaidX.c) (fun _ => rfl) hov
    obtain ⟨H2, τ2, σ2, rfl, hgr, hrest⟩ := hgs
    by_cases hlt : i < l.length
    · have hsw := ownsRow_ext HS.out.2.2.1 he (fun _ _ h => h)
      obtain ⟨g, rfl, hg, hc⟩ := own_at (f := Stp.c) (fun _ => rfl) hsw hlt
      have c0 : wr.cell? ⟨g, i * 4, none⟩ = some (.int .u8 (l[i]'hlt).op) := hc 0 (by decide)
      have c1 : wr.cell? ⟨g, i * 4 + 1, none⟩ = some (kI (l[i]'hlt).a) := hc 1 (by decide)
      have c2 : wr.cell? ⟨g, i * 4 + 2, none⟩ = some (kI (l[i]'hlt).b) := hc 2 (by decide)
      have c3 : wr.cell? ⟨g, i * 4 + 3, none⟩ = some (.int .i64 (l[i]'hlt).wt) := hc 3 (by decide)
      have hlt' : (i : Int) < (l.length : Int) := by omega
      have HR := Lib.hid (And.intro hk (And.intro hgr (And.intro hrest (And.intro hch (And.intro hsz (And.intro hov (And.intro hall (And.intro he hxl))))))))
      clear hk hgr hrest hch hsz hov hall he hxl hc hsw
      have hW1 : Ext No wr ((wr.alloc (.cells (l[i]'hlt).c.toArray 64)).alloc said0) := ((Ext.refl _ _).alloc _).alloc _
      have hr1 : ((wr.alloc (.cells (l[i]'hlt).c.toArray 64)).alloc said0).heap[wr.heap.size + 1]? = some said0 := two_new _ _ _
      have HW1 := Lib.hid (And.intro hW1 hr1)
      clear hW1 hr1
      have HC : RowKit.Hid (Calls Tryz.prog 24 #[gV dir H2, (l[i]'hlt).val] ((wr.alloc (.cells (l[i]'hlt).c.toArray 64)).alloc said0) (fun r w' => StepG dir prev w.heap.size (fun s' sp => D (l[i]'hlt) s s' sp ∧ s'.V.length + s'.E.length ≤ i + 1) ((wr.alloc (.cells (l[i]'hlt).c.toArray 64)).alloc said0) r w')) := by
        obtain ⟨hk, hgr, ⟨hr, hpv, hf⟩, hch, hsz, hov, hall, he, hxl⟩ := HR.out
        have he1 := he.trans HW1.out.1
        exact Lib.hid (HS.out.2.2.2.2 i hlt _ _ s he1.size (HS.out.1.ext HS.out.2.1 he1 (fun _ h => h.elim)) ⟨H2, τ2, σ2, rfl, hgr.ext HW1.out.1 (fun _ _ h => h), hr, hpv, hf⟩ hsz)
      go_wp2_with fail
      refine HC.out.mono ?_
      rintro r2 w2 ⟨v', s', sp, x, rfl, ⟨hD, hsz'⟩, hgs', hok, hsoft⟩
      have hrow : w2.heap[wr.heap.size + 1]? = some said0 := hsoft.obj HW1.out.2 (fun hs => by have := hs.2 _ _ _ HW1.out.2; simp at this)
      obtain ⟨y0, y1, y2, y3, y4, y5, g0, g1, g2, g3, g4, g5⟩ := cells6 hrow
      have l5 := World.block_lt_of_cell? _ _ y0
      have hW : RowKit.Hid (BStep dir prev w (.slice q2 xs.length cap2) v' s' xs sps x sp ((((((w2.setCell ⟨wr.heap.size + 1, 0, none⟩ (.int .u8 x.er)).setCell ⟨wr.heap.size + 1, 1, none⟩ (.int .i64 x.a)).setCell ⟨wr.heap.size + 1, 2, none⟩ (.int .i64 x.b)).setCell ⟨wr.heap.size + 1, 3, none⟩ (.int .i64 x.w)).setCell ⟨wr.heap.size + 1, 4, none⟩ (.slice x.kq x.kn x.kc)).setCell ⟨wr.heap.size + 1, 5, none⟩ (.slice x.eq x.en x.ec))) := by
        obtain ⟨hk, hgr, hrest, hch, hsz, hov, hall, he, hxl⟩ := HR.out
        exact Lib.hid (BStep.of hov hall he HW1.out.1 (by simp; omega) hsoft hrow hgs' hok ((Ext.refl (fun c => c = wr.heap.size + 1) w2).set6 rfl _ _ _ _ _ _))
      have hz3 : RowKit.Hid (((((((w2.setCell ⟨wr.heap.size + 1, 0, none⟩ (.int .u8 x.er)).setCell ⟨wr.heap.size + 1, 1, none⟩ (.int .i64 x.a)).setCell ⟨wr.heap.size + 1, 2, none⟩ (.int .i64 x.b)).setCell ⟨wr.heap.size + 1, 3, none⟩ (.int .i64 x.w)).setCell ⟨wr.heap.size + 1, 4, none⟩ (.slice x.kq x.kn x.kc)).setCell ⟨wr.heap.size + 1, 5, none⟩ (.slice x.eq x.en x.ec)).heap.size = w2.heap.size) := Lib.hid (by simp)
      have HD := Lib.hid (And.intro hD (And.intro hsz' (show xs.length < 1000000 by have := HR.out.2.2.2.2.2.2.2.2; have h2 := HS.out.2.2.2.1; omega)))
      clear hD hsz' hgs' hok hsoft hrow
      go_wp2_with (first | (at_builtin; (generalize ((((((w2.setCell ⟨wr.heap.size + 1, 0, none⟩ (.int .u8 x.er)).setCell ⟨wr.heap.size + 1, 1, none⟩ (.int .i64 x.a)).setCell ⟨wr.heap.size + 1, 2, none⟩ (.int .i64 x.b)).setCell ⟨wr.heap.size + 1, 3, none⟩ (.int .i64 x.w)).setCell ⟨wr.heap.size + 1, 4, none⟩ (.slice x.kq x.kn x.kc)).setCell ⟨wr.heap.size + 1, 5, none⟩ (.slice x.eq x.en x.ec)) = W3 at hW hz3 ⊢); (refine wpL_append1 (v := .slice q2 xs.length cap2) (xs := xs) (b := w2.heap.size) rfl rfl U30 I39 rfl (by decide) (by decide) (f := SaidX.c) (fun _ => rfl) SaidX.one rfl (hW.out.own.alloc (.cells x.c.toArray 39)) x rfl ⟨39, (0, 0), alloc_at hz3.out _⟩ HD.out.2.2 (hW.out.he.alloc _).size ?_); intro ov' wa hoa hea hba))
      go_roundg (l.length - (i + 1))
      case measure => have := HR.out.1; omega
      case rel =>
        obtain ⟨hk, hgr, hrest, hch, hsz, hov, hall, he, hxl⟩ := HR.out
        obtain ⟨n1, n2, n3⟩ := hW.out.next hoa hea
        refine ⟨i + 1, s', xs ++ [x], sps ++ [sp], by rw [w64 (by have := HS.out.2.2.2.1; omega)], by omega, n1, ?_, HD.out.2.1, hoa, n2, n3, by simp [hxl]⟩
        rw [List.take_add_one, List.getElem?_eq_getElem hlt]
        exact hch.snoc HD.out.1
    · have hnlt : ¬ (i : Int) < (l.length : Int) := by omega
      have hi : i = l.length := by omega
      subst hi
      rw [List.take_length] at hch
      have HR := Lib.hid (And.intro hch (And.intro hov (And.intro hall (And.intro he hxl))))
      clear hk hgr hrest hch hsz hov hall he hxl
      go_wp2
      go_ret
      exact ⟨_, s, xs, sps, rfl, HR.out.1, HR.out.2.1, HR.out.2.2.1, HR.out.2.2.2.1, HR.out.2.2.2.2⟩
end Go.Proofs.YtcenebjdhbdejaaGreatDoor
