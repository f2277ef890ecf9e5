/- A region that draws its order, of which one operation, that all the loads come ahead of, may turn what they read: the loads are taken first. No program in sight. -/
import Derived.OrdersHeld
import Derived.Deep.RegionHeld3
import Derived.StillTail
namespace Go.Proofs.YtcenebjdhbdejaaGreatDoor
variable {P : Program} {ops : Array Oper} {Q : Exit → Act → World → Prop} {md : Region.Mode} {S : World → Prop} {z : Nat}

/-- whatever order is picked; S is kept by each operation but z -/
def AnyZ (P : Program) (md : Region.Mode) (ops : Array Oper) (Q : Exit → Act → World → Prop) (S : World → Prop) (z : Nat) : Nat → Array Bool → Act → World → Prop
  | 0, seen, a, w => Region.ready md ops seen = [] ∧ Q .normal a w
  | n + 1, seen, a, w =>
    (Region.ready md ops seen = [] → Q .normal a w) ∧
    ∀ i ∈ Region.ready md ops seen, wpOp P ops Q i (fun b u => (i ≠ z → S u) ∧ AnyZ P md ops Q S z n (seen.setIfInBounds i true) b u) a w

theorem AnyZ.any : ∀ (n : Nat) (seen : Array Bool) (a : Act) (w : World), AnyZ P md ops Q S z n seen a w → wpAny P md ops Q n seen a w
  | 0, _, _, _, h => h
  | n + 1, _, _, _, h => ⟨h.1, fun i hi => wpOp_mono (fun b u g => AnyZ.any n _ b u g.2) (h.2 i hi)⟩

/-- what has not come up can't have been listed -/
theorem not_waited {i j : Nat} {oj : Oper} {seen : Array Bool} (hi : i ∈ Region.ready md ops seen) (hj : j ∈ Region.ready md ops seen) (ho : ops[j]? = some oj) :
    ∀ e ∈ oj.after, Region.binds md e = true → e.on ≠ i := by
  intro e he hb heq
  obtain ⟨-, o, ho', hall⟩ := mem_ready.1 hj
  have : o = oj := Option.some.inj (ho'.symm.trans ho)
  subst this
  have h1 := hall e he hb
  rw [heq, getD_both (mem_ready.1 hi).1] at h1
  cases h1

theorem AnyZ.first {i : Nat} {oi : Oper} {v : Value} (hi : ops[i]? = some oi) (hsel : ∀ (j : Nat) (o : Oper) cs b, ops[j]? = some o → o.op ≠ .select cs b)
    (hz : Region.waitsFor md ops z i = true) (hQ : ∀ c a w, Q (.panic c) (a.put oi.dst v) w → Q (.panic c) a w) :
    ∀ (n : Nat) (seen : Array Bool) (a : Act) (w : World),
      (∀ j oj, ops[j]? = some oj → j ≠ i → seen.getD j true = false → (∀ e ∈ oj.after, Region.binds md e = true → e.on ≠ i) → oi.apart ops oj = true) →
      i ∈ Region.ready md ops seen → YieldsIf P ops S oi v a → S w →
      AnyZ P md ops Q S z n (seen.setIfInBounds i true) (a.put oi.dst v) w → AnyZ P md ops Q S z (n + 1) seen a w := by
  intro n
  induction n with
  | zero =>
    intro seen a w hap hr hy hS h
    refine ⟨fun h0 => (by rw [h0] at hr; cases hr), fun j hj => ?_⟩
    by_cases e : j = i
    · subst e; exact hy.wpOp hi hS ⟨fun _ => hS, h⟩
    · have := ready_mono hj e
      rw [h.1] at this; cases this
  | succ n ih =>
    intro seen a w hap hr hy hS h
    refine ⟨fun h0 => (by rw [h0] at hr; cases hr), fun j hj => ?_⟩
    by_cases e : j = i
    · subst e; exact hy.wpOp hi hS ⟨fun _ => hS, h⟩
    · obtain ⟨hju, oj, hoj, -⟩ := mem_ready.1 hj
      have hnot := not_waited hr hj hoj
      have hjz : j ≠ z := by
        rintro rfl
        obtain ⟨oz, hoz, e', he', hb, hon⟩ := Region.waitsFor_spec hz
        have : oz = oj := Option.some.inj (hoz.symm.trans hoj)
        subst this
        exact hnot e' he' hb hon
      have h2 := wpOp_putIf hoj (hap j oj hoj e hju hnot) (fun cs b => hsel i oi cs b hi) (fun cs b => hsel j oj cs b hoj) hQ hy (h.2 j (ready_mono hj e))
      refine wpOp_mono (fun b u g => ⟨g.2.1, ih (seen.setIfInBounds j true) b u (fun k ok hk hki hun hno => ?_) (ready_mono hr (Ne.symm e)) g.1 (g.2.1 hjz) ?_⟩) h2
      · refine hap k ok hk hki ?_ hno
        by_cases hjk : j = k
        · subst hjk; exact hju
        · rw [getD_set_ne true hjk] at hun; exact hun
      · rw [Array.setIfInBounds_comm _ _ e]
        exact g.2.2

theorem AnyZ.take {i : Nat} {oi : Oper} {v : Value} {n : Nat} {seen : Array Bool} {a : Act} {w : World} (hi : ops[i]? = some oi)
    (hs : Region.noSelect ops = true) (hf : Region.free md ops seen i = true) (hr : (Region.ready md ops seen).contains i = true) (hz : Region.waitsFor md ops z i = true)
    (hQ : ∀ c a w, Q (.panic c) (a.put oi.dst v) w → Q (.panic c) a w) (hS : S w) (hw : Region.wanted oi (yielded ops a.tmps) = true) (hy : ∀ u, S u → (execOp a.eval oi).run P u = .ok (.value v) u)
    (h : AnyZ P md ops Q S z n (seen.setIfInBounds i true) (a.put oi.dst v) w) : AnyZ P md ops Q S z (n + 1) seen a w :=
  AnyZ.first hi (Region.noSelect_spec hs) hz hQ n seen a w (Region.free_spec hi hf) (by simpa using hr) (.inl ⟨hw, hy⟩) hS h

/-- each of those that may come up -/
def ReadyZ (P : Program) (md : Region.Mode) (ops : Array Oper) (Q : Exit → Act → World → Prop) (S : World → Prop) (z n : Nat) (seen : Array Bool) (a : Act) (w : World) (rs : List Nat) : Prop :=
  ∀ i ∈ rs, wpOp P ops Q i (fun b u => (i ≠ z → S u) ∧ AnyZ P md ops Q S z n (seen.setIfInBounds i true) b u) a w

theorem AnyZ.part {rs : List Nat} {n : Nat} {seen : Array Bool} {a : Act} {w : World} (hr : Region.ready md ops seen = rs) (hne : rs ≠ [])
    (h : ReadyZ P md ops Q S z n seen a w rs) : AnyZ P md ops Q S z (n + 1) seen a w :=
  ⟨fun h0 => absurd (hr ▸ h0) hne, hr ▸ h⟩
theorem AnyZ.done {seen : Array Bool} {a : Act} {w : World} (hr : Region.ready md ops seen = []) (h : Q .normal a w) : ∀ n, AnyZ P md ops Q S z n seen a w
  | 0 => ⟨hr, h⟩
  | _ + 1 => ⟨fun _ => h, by rw [hr]; simp⟩
theorem ReadyZ.nil {n : Nat} {seen : Array Bool} {a : Act} {w : World} : ReadyZ P md ops Q S z n seen a w [] := fun _ h => by cases h
theorem ReadyZ.cons {n : Nat} {seen : Array Bool} {a : Act} {w : World} {i : Nat} {o : Oper} {rs : List Nat} (ho : ops[i]? = some o)
    (h : ∀ K : Act → World → Prop, Shut (∀ b u, (i ≠ z → S u) → ((i ≠ z → S u) → AnyZ P md ops Q S z n (seen.setIfInBounds i true) b u) → K b u) → if Region.wanted o (yielded ops a.tmps) = true then Oper.wp P o a w K Q else K (a.put o.dst undef) w)
    (hs : ReadyZ P md ops Q S z n seen a w rs) : ReadyZ P md ops Q S z n seen a w (i :: rs) := fun j hj => by
  rcases List.mem_cons.1 hj with rfl | hj
  · exact wpOp_step ho (fun K hK => h K (fun b u hS hW => hK b u ⟨hS, hW hS⟩))
  · exact hs j hj
theorem AnyZ.start (S : World → Prop) (z : Nat) {id : Nat} {a : Act} {w : World} (hm : P.follows .mixedOrders = true) (hS : S w.drew)
    (h : S w.drew → AnyZ P .any ops Q S z ops.size (Array.replicate ops.size false) a w.drew) : (Code.region id ops true).wp P Q a w :=
  wp_region_any hm ((h hS).any _ _ _ _)
end Go.Proofs.YtcenebjdhbdejaaGreatDoor
