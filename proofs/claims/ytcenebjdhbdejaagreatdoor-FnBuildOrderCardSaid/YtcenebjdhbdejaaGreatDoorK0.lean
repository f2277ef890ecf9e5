/- A list from its last element on, begun at any of them: a list in another order. The plain law of FnBuildOrder: vertices, and behind them edges, in whatever order, make the same graph. No program in sight. -/
import Derived.Test.YtcenebjdhbdejaaGreatDoorL2
import Derived.Test.YtcenebjdhbdejaaGreatDoorP7
namespace Go.Proofs.YtcenebjdhbdejaaGreatDoor

/-- the place that the law takes at i -/
def turnAt (n t i : Nat) : Nat := (n - 1 - i + t) % n

theorem turnAt_turnAt {n t i : Nat} (h : i < n) : turnAt n t (turnAt n t i) = i := by
  have hr : (n - 1 - i + t) % n < n := Nat.mod_lt _ (by omega)
  have hq := Nat.div_add_mod (n - 1 - i + t) n
  unfold turnAt
  generalize (n - 1 - i + t) / n = m at hq
  generalize (n - 1 - i + t) % n = r at hq hr ⊢
  have e : n - 1 - r + t = i + n * m := by omega
  rw [e, Nat.add_mul_mod_self_left, Nat.mod_eq_of_lt h]

theorem turnAt_lt {n t i : Nat} (h : 0 < n) : turnAt n t i < n := Nat.mod_lt _ h

/-- the first i of them -/
def rotN {α : Type} (P : List α) (t i : Nat) : List α := (List.range i).filterMap fun j => P[turnAt P.length t j]?

theorem rotN_succ {α : Type} {P : List α} {t i : Nat} (h : turnAt P.length t i < P.length) : rotN P t (i + 1) = rotN P t i ++ [P[turnAt P.length t i]] := by
  unfold rotN
  rw [List.range_succ, List.filterMap_append]
  simp [List.getElem?_eq_getElem h]

theorem rotN_map {α β : Type} (f : α → β) (P : List α) (t i : Nat) : rotN (P.map f) t i = (rotN P t i).map f := by
  unfold rotN
  rw [List.map_filterMap]
  simp

theorem rotN_perm {α : Type} (P : List α) (t : Nat) : (rotN P t P.length).Perm P := by
  have h1 : rotN P t P.length = ((List.range P.length).map (turnAt P.length t)).filterMap (fun j => P[j]?) := by
    unfold rotN; rw [List.filterMap_map]; rfl
  have h2 : (List.range P.length).filterMap (fun j => P[j]?) = P := by
    apply List.ext_getElem?
    intro k
    have key : ∀ n, n ≤ P.length → (List.range n).filterMap (fun j => P[j]?) = P.take n := by
      intro n
      induction n with
      | zero => intro _; simp
      | succ n ih =>
        intro hn
        rw [List.range_succ, List.filterMap_append, ih (by omega), List.take_add_one]
        simp [List.getElem?_eq_getElem (show n < P.length by omega)]
    rw [key _ (Nat.le_refl _), List.take_length]
  have h3 : ((List.range P.length).map (turnAt P.length t)).Perm (List.range P.length) := by
    have hnd : ((List.range P.length).map (turnAt P.length t)).Nodup := by
      rw [List.nodup_iff_pairwise_ne, List.pairwise_map]
      refine (List.pairwise_lt_range).imp_of_mem ?_
      intro a b ha hb hab e
      rw [List.mem_range] at ha hb
      have := congrArg (turnAt P.length t) e
      rw [turnAt_turnAt ha, turnAt_turnAt hb] at this
      omega
    refine (List.perm_ext_iff_of_nodup hnd List.nodup_range).2 fun k => ?_
    rw [List.mem_map, List.mem_range]
    constructor
    · rintro ⟨i, hi, rfl⟩
      rw [List.mem_range] at hi
      exact turnAt_lt (by omega)
    · intro hk
      exact ⟨turnAt P.length t k, List.mem_range.2 (turnAt_lt (by omega)), turnAt_turnAt hk⟩
  rw [h1]
  exact (h3.filterMap _).trans (List.Perm.of_eq h2)
end Go.Proofs.YtcenebjdhbdejaaGreatDoor
namespace Go.Proofs.YtcenebjdhbdejaaGreatDoor

/-- lists that make a graph without a refusal -/
structure Good (d : Bool) (V : List Int) (E : List Tri) : Prop where
  nd : V.Nodup
  ends : ∀ e ∈ E, e.1 ∈ V ∧ e.2.1 ∈ V
  apart : E.Pairwise (fun x y => joins d x y.1 y.2.1 = false)
  loop : ∀ e ∈ E, e.1 ≠ e.2.1

theorem joins_symm {d : Bool} {x y : Tri} (h : joins d x y.1 y.2.1 = false) : joins d y x.1 x.2.1 = false := by
  unfold joins at *
  cases d <;> simp at * <;> omega

theorem Good.perm {d : Bool} {V V' : List Int} {E E' : List Tri} (h : Good d V E) (hv : V'.Perm V) (he : E'.Perm E) : Good d V' E' where
  nd := hv.nodup_iff.2 h.nd
  ends := fun e hm => ⟨hv.mem_iff.2 (h.ends e (he.mem_iff.1 hm)).1, hv.mem_iff.2 (h.ends e (he.mem_iff.1 hm)).2⟩
  apart := he.symm.pairwise h.apart (fun h => joins_symm h)
  loop := fun e hm => h.loop e (he.mem_iff.1 hm)

abbrev avS (v : Int) : Stp := ⟨0, v, 0, 0⟩
abbrev aeS (e : Tri) : Stp := ⟨2, e.1, e.2.1, e.2.2⟩
abbrev stepsOf (V : List Int) (E : List Tri) : List Stp := V.map avS ++ E.map aeS
abbrev askS : Stp := ⟨9, 0, 0, 0⟩

theorem chain_av {d : Bool} : ∀ (n : Nat) (V : List Int), V.length = n → V.Nodup → ∀ {s : PS} {sps : List SP}, Chain (DoS d) (V.map avS) ⟨[], []⟩ s sps → s = ⟨V, []⟩ := by
  intro n
  induction n with
  | zero =>
    intro V hl _ s sps h
    obtain rfl := List.eq_nil_of_length_eq_zero hl
    exact h.inv0.1
  | succ n ih =>
    intro V hl hn s sps h
    rcases List.eq_nil_or_concat V with rfl | ⟨L, b, rfl⟩
    · cases hl
    · simp only [List.concat_eq_append, List.map_append, List.map_cons, List.map_nil] at h hl hn ⊢
      obtain ⟨s1, sps1, sp, h1, h2, rfl⟩ := h.inv
      rw [List.nodup_append] at hn
      obtain rfl := ih L (by simpa using hl) hn.1 h1
      have hb : b ∉ L := fun hb => hn.2.2 b hb b (by simp) rfl
      simp [DoS, DoAV, hb] at h2
      exact h2.1

theorem hasE_false {d : Bool} {E : List Tri} {a b : Int} (h : ∀ x ∈ E, joins d x a b = false) : ¬ hasE d E a b := by
  intro hh
  obtain ⟨e, he, hj⟩ := hasE_any.1 hh
  rw [h e he] at hj; cases hj

theorem chain_ae {d : Bool} : ∀ (n : Nat) (V : List Int) (E : List Tri), E.length = n → Good d V E → ∀ {s : PS} {sps : List SP}, Chain (DoS d) (stepsOf V E) ⟨[], []⟩ s sps → s = ⟨V, E⟩ := by
  intro n
  induction n with
  | zero =>
    intro V E hl hg s sps h
    obtain rfl := List.eq_nil_of_length_eq_zero hl
    simp only [stepsOf, List.map_nil, List.append_nil] at h
    exact chain_av _ V rfl hg.nd h
  | succ n ih =>
    intro V E hl hg s sps h
    rcases List.eq_nil_or_concat E with rfl | ⟨L, b, rfl⟩
    · cases hl
    · simp only [List.concat_eq_append] at h hl hg ⊢
      have hg' : Good d V L := ⟨hg.nd, fun e he => hg.ends e (by simp [he]), hg.apart.sublist (List.sublist_append_left _ _), fun e he => hg.loop e (by simp [he])⟩
      rw [show stepsOf V (L ++ [b]) = stepsOf V L ++ [aeS b] by simp [stepsOf]] at h
      obtain ⟨s1, sps1, sp, h1, h2, rfl⟩ := h.inv
      obtain rfl := ih V L (by simpa using hl) hg' h1
      have hb := hg.ends b (by simp)
      have hj : ¬ hasE d L b.1 b.2.1 := hasE_false fun x hx => by
        have := hg.apart
        rw [List.pairwise_append] at this
        exact this.2.2 x hx b (by simp)
      simp [DoS, DoAE, hb.1, hb.2, hj] at h2
      exact h2.1

theorem ltK_eq {a b : Int} (h1 : ltK b a = false) (h2 : ltK a b = false) : a = b := by simp [ltK] at h1 h2; omega
theorem ltE_eq {a b : Tri} (h1 : ltE b a = false) (h2 : ltE a b = false) : a.1 = b.1 ∧ a.2.1 = b.2.1 := by simp [ltE] at h1 h2; omega

theorem Good.pick {d : Bool} {V : List Int} {E : List Tri} (h : Good d V E) {x y : Tri} (hx : x ∈ E) (hy : y ∈ E) (hj : joins d x y.1 y.2.1 = true) : x = y := by
  obtain ⟨i, hi, rfl⟩ := List.mem_iff_getElem.1 hx
  obtain ⟨j, hj', rfl⟩ := List.mem_iff_getElem.1 hy
  rcases Nat.lt_trichotomy i j with hl | rfl | hl
  · have := List.pairwise_iff_getElem.1 h.apart i j hi hj' hl
    rw [this] at hj; cases hj
  · rfl
  · have := joins_symm (List.pairwise_iff_getElem.1 h.apart j i hj' hi hl)
    rw [this] at hj; cases hj

theorem Good.uniq {d : Bool} {V : List Int} {E : List Tri} (h : Good d V E) {x y : Tri} (hx : x ∈ stored d E) (hy : y ∈ stored d E) (h1 : x.1 = y.1) (h2 : x.2.1 = y.2.1) : x = y := by
  cases d with
  | true => exact h.pick hx hy (by simp [joins, h1, h2])
  | false =>
    simp only [stored, Bool.false_eq_true, if_false, List.mem_flatMap, List.mem_cons, List.not_mem_nil, or_false] at hx hy
    obtain ⟨e, he, hxe⟩ := hx
    obtain ⟨f, hf, hyf⟩ := hy
    have hl := h.loop f hf
    have key : e = f := by
      refine h.pick he hf ?_
      rcases hxe with rfl | rfl <;> rcases hyf with rfl | rfl <;> simp_all [joins]
    subst key
    rcases hxe with rfl | rfl <;> rcases hyf with rfl | rfl
    · rfl
    · exact absurd h1 hl
    · exact absurd h1.symm hl
    · rfl

theorem both_stored {d : Bool} {E : List Tri} (h : ∀ e ∈ E, e.1 ≠ e.2.1) : E.flatMap (bothL d false) = stored d E := by
  cases d with
  | true =>
    simp only [stored, if_true]
    induction E with
    | nil => rfl
    | cons e E ih =>
      simp only [List.flatMap_cons]
      rw [ih (fun x hx => h x (List.mem_cons_of_mem _ hx))]
      simp [bothL]
  | false =>
    simp only [stored, Bool.false_eq_true, if_false]
    induction E with
    | nil => rfl
    | cons e E ih =>
      simp only [List.flatMap_cons]
      rw [ih (fun x hx => h x (List.mem_cons_of_mem _ hx))]
      have := h e (List.mem_cons_self)
      simp [bothL, this]

/-- THE PLAIN LAW: what a graph that was built in another order says is what the lists say. -/
theorem order_law {d : Bool} {V V' : List Int} {E E' : List Tri} (h : Good d V E) (hv : V'.Perm V) (he : E'.Perm E) {s sx : PS} {sps : List SP} {sp : SP} (hc : Chain (DoS d) (stepsOf V' E' ++ [askS]) ⟨[], []⟩ s sps)
    (hb : DoBM d false ⟨V, E⟩ sx sp) : ∃ x, sps[V.length + E.length]? = some x ∧ x.er = sp.er ∧ x.a = sp.a ∧ x.b = sp.b ∧ x.w = sp.w ∧ x.ks = sp.ks ∧ x.es = sp.es := by
  have hg := h.perm hv he
  obtain ⟨s1, sps1, x, h1, h2, rfl⟩ := hc.inv
  have hlen : sps1.length = V.length + E.length := by
    have : ∀ {l : List Stp} {s s2 : PS} {q : List SP}, Chain (DoS d) l s s2 q → q.length = l.length := by
      intro l s s2 q hq
      induction hq with
      | nil => rfl
      | snoc _ _ ih => simp [ih]
    rw [this h1]
    simp [stepsOf, hv.length_eq, he.length_eq]
  obtain rfl := chain_ae _ V' E' rfl hg h1
  refine ⟨x, by rw [List.getElem?_append_right (by omega), hlen]; simp, ?_⟩
  have h2' : DoAM d ⟨V', E'⟩ s x := by simpa [DoS] using h2
  obtain ⟨-, e1, e2, e3, e4, p1, s1, p2, s2⟩ := h2'
  obtain ⟨-, f1, f2, f3, f4, q1, t1, q2, t2⟩ := hb
  refine ⟨by rw [e1, f1], by rw [e2, f2], by rw [e3, f3], by rw [e4, f4], ?_, ?_⟩
  · exact List.Perm.eq_of_pairwise (fun a b _ _ g1 g2 => ltK_eq g1 g2) s1 t1 ((p1.trans hv).trans q1.symm)
  · rw [both_stored h.loop] at q2
    have p3 : x.es.Perm (stored d E) := by
      refine p2.trans ?_
      cases d with
      | true => exact he
      | false => exact he.flatMap_right _
    refine List.Perm.eq_of_pairwise (fun a b ha hb g1 g2 => ?_) s2 t2 (p3.trans q2.symm)
    obtain ⟨k1, k2⟩ := ltE_eq g1 g2
    exact h.uniq (p3.mem_iff.1 ha) (q2.mem_iff.1 hb) k1 k2
end Go.Proofs.YtcenebjdhbdejaaGreatDoor
namespace Go.Proofs.YtcenebjdhbdejaaGreatDoor
theorem fine_av {d : Bool} : ∀ (n : Nat) (V : List Int), V.length = n → ∀ {s : PS} {sps : List SP}, Chain (DoS d) (V.map avS) ⟨[], []⟩ s sps → (∀ sp ∈ sps, sp.er = 0) → s = ⟨V, []⟩ ∧ V.Nodup := by
  intro n
  induction n with
  | zero =>
    intro V hl s sps h _
    obtain rfl := List.eq_nil_of_length_eq_zero hl
    exact ⟨h.inv0.1, List.nodup_nil⟩
  | succ n ih =>
    intro V hl s sps h h0
    rcases List.eq_nil_or_concat V with rfl | ⟨L, b, rfl⟩
    · cases hl
    · simp only [List.concat_eq_append, List.map_append, List.map_cons, List.map_nil] at h hl ⊢
      obtain ⟨s1, sps1, sp, h1, h2, rfl⟩ := h.inv
      obtain ⟨rfl, hn⟩ := ih L (by simpa using hl) h1 (fun x hx => h0 x (by simp [hx]))
      by_cases hb : b ∈ L
      · simp [DoS, DoAV, hb] at h2
        have := h0 sp (by simp)
        rw [h2.2] at this; simp at this
      · simp [DoS, DoAV, hb] at h2
        exact ⟨h2.1, by rw [List.nodup_append]; exact ⟨hn, by simp, by rintro x hx y hy rfl; simp at hy; exact hb (hy ▸ hx)⟩⟩

/-- where all is taken, the lists make a graph -/
theorem fine_good {d : Bool} : ∀ (n : Nat) (V : List Int) (E : List Tri), E.length = n → (∀ e ∈ E, e.1 ≠ e.2.1) → ∀ {s : PS} {sps : List SP}, Chain (DoS d) (stepsOf V E) ⟨[], []⟩ s sps → (∀ sp ∈ sps, sp.er = 0) → s = ⟨V, E⟩ ∧ Good d V E := by
  intro n
  induction n with
  | zero =>
    intro V E hl _ s sps h h0
    obtain rfl := List.eq_nil_of_length_eq_zero hl
    simp only [stepsOf, List.map_nil, List.append_nil] at h
    obtain ⟨rfl, hn⟩ := fine_av _ V rfl h h0
    exact ⟨rfl, hn, by simp, by simp, by simp⟩
  | succ n ih =>
    intro V E hl hlp s sps h h0
    rcases List.eq_nil_or_concat E with rfl | ⟨L, b, rfl⟩
    · cases hl
    · simp only [List.concat_eq_append] at h hl hlp ⊢
      rw [show stepsOf V (L ++ [b]) = stepsOf V L ++ [aeS b] by simp [stepsOf]] at h
      obtain ⟨s1, sps1, sp, h1, h2, rfl⟩ := h.inv
      obtain ⟨rfl, hg⟩ := ih V L (by simpa using hl) (fun e he => hlp e (by simp [he])) h1 (fun x hx => h0 x (by simp [hx]))
      have he0 := h0 sp (by simp)
      have h2' : DoAE d ⟨V, L⟩ b.1 b.2.1 b.2.2 s sp := by simpa [DoS] using h2
      unfold DoAE at h2'
      split at h2'
      · rw [h2'.2] at he0; simp at he0
      · next hv =>
        split at h2'
        · rw [h2'.2] at he0; simp at he0
        · next hj =>
          have hab : b.1 ∈ V ∧ b.2.1 ∈ V := ⟨Classical.byContradiction fun h => hv (Or.inl h), Classical.byContradiction fun h => hv (Or.inr h)⟩
          refine ⟨h2'.1, hg.nd, fun e he => ?_, ?_, hlp⟩
          · rcases List.mem_append.1 he with he | he
            · exact hg.ends e he
            · simp only [List.mem_singleton] at he; subst he; exact hab
          · rw [List.pairwise_append]
            refine ⟨hg.apart, by simp, fun x hx y hy => ?_⟩
            simp only [List.mem_singleton] at hy
            subst hy
            cases hjj : joins d x y.1 y.2.1 with
            | false => rfl
            | true => exact absurd (hasE_any.2 ⟨x, hx, hjj⟩) hj

theorem right_loop {V : List Int} {E : List Tri} {n : Int} (h : rightL false n (stepsOf V E) = true) : ∀ e ∈ E, e.1 ≠ e.2.1 := by
  intro e he
  unfold rightL at h
  simp only [Bool.and_eq_true, List.all_eq_true] at h
  have := h.1 (aeS e) (by simp only [stepsOf, List.mem_append, List.mem_map]; exact Or.inr ⟨e, he, rfl⟩)
  simpa [rightS] using this
theorem stepsOf_op {V : List Int} {E : List Tri} {x : Stp} (h : x ∈ stepsOf V E) : x.op = 0 ∨ x.op = 2 := by
  simp only [stepsOf, List.mem_append, List.mem_map] at h
  rcases h with ⟨v, -, rfl⟩ | ⟨e, -, rfl⟩
  · exact Or.inl rfl
  · exact Or.inr rfl
end Go.Proofs.YtcenebjdhbdejaaGreatDoor
