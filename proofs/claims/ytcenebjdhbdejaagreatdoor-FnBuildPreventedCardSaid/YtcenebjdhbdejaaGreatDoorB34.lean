/- A map whose keys are pairs of numbers. -/
import Derived.Test.YtcenebjdhbdejaaGreatDoorB01
import Derived.DeepKeys
namespace Go.Proofs.YtcenebjdhbdejaaGreatDoor
open Go.MapKept

abbrev kT (p : Int × Int) : Value := .agg #[kI p.1, kI p.2]
theorem U232 : Tryz.prog.underlying 232 = some (.map 234 235) := by kernel_rfl
theorem Z235 (w : World) : (zeroValue 235).run Tryz.prog w = .ok (.agg #[]) w := by kernel_rfl
theorem U234 : Tryz.prog.underlying 234 = some (.struct (Tryz.prog.fieldsOf 234)) := by kernel_rfl
theorem F234 : (Tryz.prog.fieldsOf 234).toList.map (fun f => (f.name, f.type, f.offset)) = [("source", 2, 0), ("target", 2, 1)] := by kernel_rfl
theorem part0 (w : World) (p : Int × Int) : (part 2 #[kI p.1, kI p.2] 0).run Tryz.prog w = .ok (kI p.1) w := by kernel_rfl
theorem part1 (w : World) (p : Int × Int) : (part 2 #[kI p.1, kI p.2] 1).run Tryz.prog w = .ok (kI p.2) w := by kernel_rfl

theorem L234 : ∃ f0 f1 : Field, (Tryz.prog.fieldsOf 234).toList = [f0, f1] ∧ f0.name = "source" ∧ f0.type = 2 ∧ f0.offset = 0 ∧ f1.name = "target" ∧ f1.type = 2 ∧ f1.offset = 1 := by
  have h := F234
  obtain ⟨f0, l, h0, h1, h2⟩ := List.map_eq_cons_iff.1 h
  obtain ⟨f1, l2, h3, h4, h5⟩ := List.map_eq_cons_iff.1 h2
  have h6 := List.map_eq_nil_iff.1 h5
  subst h6
  subst h3
  simp only [Prod.mk.injEq] at h1 h4
  exact ⟨f0, f1, h0, h1.1, h1.2.1, h1.2.2, h4.1, h4.2.1, h4.2.2⟩

theorem eq234 (w : World) (a b : Int × Int) : (Op.equal 234 (kT a) (kT b)).run Tryz.prog w = .ok (decide (a = b)) w := by
  have hs : Tryz.prog.stoodInHeld 234 = false := by kernel_rfl
  unfold Op.equal
  rw [show Op.maxDepth = 9998 + 1 + 1 from rfl, run_equalIn_struct w _ 234 _ _ U234 hs]
  obtain ⟨f0, f1, hl, n0, t0, o0, n1, t1, o1⟩ := L234
  rw [hl]
  simp only [Op.eqFields, n0, t0, o0, n1, t1, o1, ne_eq, String.reduceEq, not_false_eq_true, if_true, Sem.run_bind, part0, part1, Result.andThen_ok, run_equalIn_int w 9998 2 .i64 .i64 _ _ U2, Sem.run_ite, Sem.run_pure]
  obtain ⟨a1, a2⟩ := a
  obtain ⟨b1, b2⟩ := b
  by_cases h1 : a1 = b1
  · by_cases h2 : a2 = b2
    · simp [h1, h2]
    · simp [h1, h2]
  · simp [h1]

theorem find234 (w : World) (a : Int × Int) : ∀ (es : List MapEntry) (m : List ((Int × Int) × Value)), es.map (fun e => (e.key, e.val)) = m.map (fun p => (kT p.1, p.2)) → ∀ i, (Instr.findAsking 234 (kT a) es i).run Tryz.prog w = .ok (findA a m i) w
  | [], [], _, i => by simp [Instr.findAsking, findA]
  | [], _ :: _, h, _ => by cases h
  | _ :: _, [], h, _ => by cases h
  | e :: es, p :: m, h, i => by
    simp only [List.map_cons, List.cons.injEq, Prod.mk.injEq] at h
    obtain ⟨⟨h1, h2⟩, h3⟩ := h
    simp only [Instr.findAsking, Sem.run_bind, h1, eq234, Result.andThen_ok, findA, decide_eq_true_eq]
    by_cases hk : a = p.1
    · simp [hk, h2]
    · simp only [hk, if_false]
      exact find234 w a es m h3 (i + 1)

theorem findNow234 (d : Array Field) (a : Int × Int) : ∀ (es : List MapEntry), es ≠ [] → Instr.findNow (.struct d) (kT a) es 0 = none
  | [], h => absurd rfl h
  | e :: es, _ => by simp [Instr.findNow, Instr.sameNow]

theorem check234 (w : World) (e : Bool) (a : Int × Int) : (Instr.checkKey e 10000 234 (kT a)).run Tryz.prog w = .ok () w := by kernel_rfl

theorem keyT_pair : KeyT Tryz.prog 234 kT where
  check := check234
  find := fun w a es m h => by
    unfold Instr.findKey
    simp only [Sem.run_bind, run_underlying U234, Result.andThen_ok]
    cases es with
    | nil =>
      cases m with
      | nil => simp [Instr.findNow, findA]
      | cons p m => cases h
    | cons e es =>
      rw [findNow234 _ a _ (by simp)]
      exact find234 w a _ m h 0
  stays := fun w a => by simp [Instr.keyThatStays, Instr.sameBits]
end Go.Proofs.YtcenebjdhbdejaaGreatDoor
