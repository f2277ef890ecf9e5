/- General words for the walks of this seat: a map as a list of pairs (keys apart), what a look-up and a store do to it, ranging over it, worlds that differ in a few blocks alone. No program in sight. What the store of a graph is in memory: the closed facts of the program's types, the six errors, and the store as a list of vertices and a list of edges. -/
import Derived.WalkKit
import Derived.MapKept
import Derived.StillTailTactics
import Derived.Outline
import Derived.Maps.OwnOps
import Derived.Maps.RangeRun
import Derived.Maps.RangeWalk
import Derived.Maps.OwnIn
import Derived.Deep.LoopGhost
import Derived.Deep.DeepCutAuto
import Derived.Lib.Hide
import Derived.Test.YtcenebjdhbdejaaGreatDoorChecked
namespace Go.Proofs.YtcenebjdhbdejaaGreatDoor
open Go.MapKept

/-- where the key stands in a list of pairs -/
def findA {α : Type} [DecidableEq α] (k : α) : List (α × Value) → Nat → Option (Nat × Value)
  | [], _ => none
  | p :: m, i => if k = p.1 then some (i, p.2) else findA k m (i + 1)

def setA {α : Type} [DecidableEq α] (k : α) (v : Value) : List (α × Value) → List (α × Value)
  | [] => [(k, v)]
  | p :: m => if k = p.1 then (k, v) :: m else p :: setA k v m

def delA {α : Type} [DecidableEq α] (k : α) : List (α × Value) → List (α × Value)
  | [] => []
  | p :: m => if k = p.1 then m else p :: delA k m

/-- A kind of keys. -/
structure KeyT (P : Program) (K : TypeId) {α : Type} [DecidableEq α] (kv : α → Value) : Prop where
  check : ∀ w e a, (Instr.checkKey e 10000 K (kv a)).run P w = .ok () w
  find : ∀ w a (es : List MapEntry) (m : List (α × Value)), es.map (fun e => (e.key, e.val)) = m.map (fun p => (kv p.1, p.2)) → (Instr.findKey K (kv a) es).run P w = .ok (findA a m 0) w
  stays : ∀ w a, (Instr.keyThatStays (kv a) (kv a)).run P w = .ok (kv a) w

variable {P : Program} {α : Type} [DecidableEq α] {kv : α → Value}

/-- A map in block b: its entries in order, keys apart. -/
structure MapI (kv : α → Value) (w : World) (b : Nat) (m : List (α × Value)) : Prop where
  ex : ∃ es clk, w.heap[b]? = some (.map es clk) ∧ es.toList.map (fun e => (e.key, e.val)) = m.map (fun p => (kv p.1, p.2)) ∧ (es.toList.map (·.born)).Pairwise (· < ·) ∧ (∀ e ∈ es.toList, e.born < clk)
  nodup : (m.map (·.1)).Nodup

/-- w' is w but for block b. -/
structure Only (b : Nat) (w w' : World) : Prop where
  size : w'.heap.size = w.heap.size
  other : ∀ c, c ≠ b → w'.heap[c]? = w.heap[c]?
  os : w'.os = w.os
  out : w'.output = w.output
  tape : w'.tape = w.tape
  drawn : w'.drawn = w.drawn

theorem findA_lookup (k : α) (m : List (α × Value)) : ∀ i, (findA k m i).map (·.2) = m.lookup k := by
  induction m with
  | nil => intro i; rfl
  | cons p m ih =>
    intro i
    obtain ⟨p1, p2⟩ := p
    by_cases h : k = p1
    · simp [findA, List.lookup, h]
    · have : (k == p1) = false := by simpa using h
      simp [findA, List.lookup, h, this, ih]

theorem findA_some {v' : Value} {k : α} {m : List (α × Value)} : ∀ {i j v}, findA k m i = some (j, v) → i ≤ j ∧ m[j - i]? = some (k, v) ∧ setA k v' m = m.set (j - i) (k, v') ∧ delA k m = m.eraseIdx (j - i) := by
  induction m with
  | nil => intro i j v h; simp [findA] at h
  | cons p m ih =>
    intro i j v h
    obtain ⟨p1, p2⟩ := p
    by_cases hk : k = p1
    · simp only [findA, hk, if_true, Option.some.injEq, Prod.mk.injEq] at h
      obtain ⟨rfl, rfl⟩ := h
      simp [hk, setA, delA]
    · simp only [findA, hk, if_false] at h
      obtain ⟨h1, h2, h3, h4⟩ := ih (i := i + 1) h
      have e : j - i = (j - (i + 1)) + 1 := by omega
      refine ⟨by omega, ?_, ?_, ?_⟩
      · rw [e]; simpa using h2
      · rw [e]; simp [setA, hk, h3]
      · rw [e]; simp [delA, hk, h4]

theorem findA_none {v' : Value} {k : α} {m : List (α × Value)} : ∀ {i}, findA k m i = none → (∀ p ∈ m, p.1 ≠ k) ∧ setA k v' m = m ++ [(k, v')] ∧ delA k m = m := by
  induction m with
  | nil => intro i h; simp [setA, delA]
  | cons p m ih =>
    intro i h
    obtain ⟨p1, p2⟩ := p
    by_cases hk : k = p1
    · simp [findA, hk] at h
    · simp only [findA, hk, if_false] at h
      obtain ⟨h1, h2, h3⟩ := ih (i := i + 1) h
      refine ⟨?_, by simp [setA, hk, h2], by simp [delA, hk, h3]⟩
      intro p hp
      simp only [List.mem_cons] at hp
      rcases hp with rfl | hp
      · exact fun h => hk h.symm
      · exact h1 p hp

theorem run_lookup_ok {T K E : TypeId} {w : World} {b : Nat} {m : List (α × Value)} {z : Value} (k : α) (hT : P.underlying T = some (.map K E)) (hK : KeyT P K kv)
    (hm : MapI kv w b m) (hz : (zeroValue E).run P w = .ok z w) :
    (Instr.lookup T (.map (some b)) (kv k) true).run P w = .ok (.tuple #[(m.lookup k).getD z, .bool (m.lookup k).isSome]) w := by
  obtain ⟨⟨es, clk, h1, h2, -, -⟩, -⟩ := hm
  have hf := hK.find w k es.toList m h2
  have hl := findA_lookup k m 0
  cases hr : findA k m 0 with
  | none =>
    rw [hr] at hl hf
    simp only [Option.map_none] at hl
    simp [Instr.lookup, run_underlying hT, run_getObj_map (P := P) (w := w) (r := b) (hb := h1), hK.check, hf, hz, Result.andThen, ← hl]
  | some p =>
    rw [hr] at hl hf
    obtain ⟨j, v⟩ := p
    simp only [Option.map_some] at hl
    simp [Instr.lookup, run_underlying hT, run_getObj_map (P := P) (w := w) (r := b) (hb := h1), hK.check, hf, Result.andThen, ← hl]

theorem run_lookup {T K E : TypeId} {w : World} {b : Nat} {m : List (α × Value)} {z : Value} (k : α) (hT : P.underlying T = some (.map K E)) (hK : KeyT P K kv)
    (hm : MapI kv w b m) (hz : (zeroValue E).run P w = .ok z w) :
    (Instr.lookup T (.map (some b)) (kv k) false).run P w = .ok ((m.lookup k).getD z) w := by
  obtain ⟨⟨es, clk, h1, h2, -, -⟩, -⟩ := hm
  have hf := hK.find w k es.toList m h2
  have hl := findA_lookup k m 0
  cases hr : findA k m 0 with
  | none =>
    rw [hr] at hl hf
    simp only [Option.map_none] at hl
    simp [Instr.lookup, run_underlying hT, run_getObj_map (P := P) (w := w) (r := b) (hb := h1), hK.check, hf, hz, Result.andThen, ← hl]
  | some p =>
    rw [hr] at hl hf
    obtain ⟨j, v⟩ := p
    simp only [Option.map_some] at hl
    simp [Instr.lookup, run_underlying hT, run_getObj_map (P := P) (w := w) (r := b) (hb := h1), hK.check, hf, Result.andThen, ← hl]

theorem only_set {w : World} {r : Nat} {o o' : Obj} (hb : w.heap[r]? = some o) : Only r w { w with heap := w.heap.setIfInBounds r o' } :=
  ⟨by simp, fun c hc => (heap_set hb).2 c hc, rfl, rfl, rfl, rfl⟩

theorem nodup_setA {m : List (α × Value)} (h : (m.map (·.1)).Nodup) (k : α) (v : Value) : ((setA k v m).map (·.1)).Nodup := by
  cases hr : findA k m 0 with
  | none =>
    obtain ⟨h1, h2, -⟩ := findA_none (v' := v) hr
    rw [h2, List.map_append, List.nodup_append]
    refine ⟨h, by simp, ?_⟩
    intro a ha b hb
    simp only [List.map_cons, List.map_nil, List.mem_singleton] at hb
    obtain ⟨p, hp, rfl⟩ := List.mem_map.1 ha
    rw [hb]; exact h1 p hp
  | some q =>
    obtain ⟨j, u⟩ := q
    obtain ⟨-, h2, h3, -⟩ := findA_some (v' := v) hr
    rw [h3]
    have : (m.set (j - 0) (k, v)).map (·.1) = m.map (·.1) := by
      apply List.ext_getElem?
      intro i
      simp only [List.getElem?_map, List.getElem?_set]
      by_cases hi : j - 0 = i
      · subst hi
        rw [h2]
        simp at h2 ⊢
        exact (List.getElem?_eq_some_iff.1 h2).1
      · rw [if_neg hi]
    rw [this]; exact h

theorem run_mapUpdate {T K E : TypeId} {w : World} {b : Nat} {m : List (α × Value)} (k : α) (v : Value) (hT : P.underlying T = some (.map K E)) (hK : KeyT P K kv)
    (hm : MapI kv w b m) : ∃ w', (Instr.mapUpdate T (.map (some b)) (kv k) v).run P w = .ok () w' ∧ MapI kv w' b (setA k v m) ∧ Only b w w' := by
  obtain ⟨⟨es, clk, h1, h2, h3, h4⟩, h5⟩ := hm
  have hf := hK.find w k es.toList m h2
  cases hr : findA k m 0 with
  | none =>
    rw [hr] at hf
    obtain ⟨g1, g2, -⟩ := findA_none (v' := v) hr
    refine ⟨_, by simp [Instr.mapUpdate, run_underlying hT, run_getObj_map (P := P) (w := w) (r := b) (hb := h1), hK.check, hf, Result.andThen]; exact run_setObj_map _ h1, ⟨⟨_, _, (heap_set h1).1, ?_, ?_, ?_⟩, nodup_setA h5 k v⟩, only_set h1⟩
    · rw [g2]; simp [h2]
    · simp only [Array.toList_push, List.map_append, List.map_cons, List.map_nil]
      rw [List.pairwise_append]
      refine ⟨h3, by simp, ?_⟩
      intro a ha c hc
      obtain ⟨e, he, rfl⟩ := List.mem_map.1 ha
      simp only [List.mem_singleton] at hc
      subst hc; exact h4 e he
    · intro e he
      simp only [Array.toList_push, List.mem_append, List.mem_singleton] at he
      rcases he with he | rfl
      · exact Nat.lt_succ_of_lt (h4 e he)
      · exact Nat.lt_succ_self _
  | some p =>
    obtain ⟨j, u⟩ := p
    rw [hr] at hf
    obtain ⟨-, g1, g2, -⟩ := findA_some (v' := v) hr
    have hj : ∃ e, es[j]? = some e ∧ e.key = kv k := by
      have : (es.toList.map (fun e => (e.key, e.val)))[j]? = some (kv k, u) := by rw [h2]; simp at g1; simp [g1]
      simp only [List.getElem?_map, Option.map_eq_some_iff] at this
      obtain ⟨e, he1, he2⟩ := this
      simp only [Prod.mk.injEq] at he2
      exact ⟨e, by simpa using he1, he2.1⟩
    obtain ⟨e, he1, he2⟩ := hj
    refine ⟨_, by simp [Instr.mapUpdate, run_underlying hT, run_getObj_map (P := P) (w := w) (r := b) (hb := h1), hK.check, hf, Result.andThen, he1, he2, hK.stays]; exact run_setObj_map _ h1, ⟨⟨_, _, (heap_set h1).1, ?_, ?_, ?_⟩, nodup_setA h5 k v⟩, only_set h1⟩
    · rw [g2]
      simp only [Array.toList_modify, Nat.sub_zero]
      apply List.ext_getElem?
      intro i
      have h2i := congrArg (fun l => l[i]?) h2
      simp only [List.getElem?_map] at h2i
      simp only [List.getElem?_map, List.getElem?_modify, List.getElem?_set]
      by_cases hi : j = i
      · subst hi
        have hlt : j < m.length := by simp at g1; exact (List.getElem?_eq_some_iff.1 g1).1
        have he1' : es.toList[j]? = some e := by simpa using he1
        simp [he1', hlt]
      · simp only [hi, if_false]
        cases hes : es.toList[i]? <;> simp [hes] at h2i ⊢ <;> exact h2i
    · have : (es.modify j fun e => { e with key := kv k, val := v }).toList.map (·.born) = es.toList.map (·.born) := by
        simp only [Array.toList_modify]
        apply List.ext_getElem?
        intro i
        simp only [List.getElem?_map, List.getElem?_modify]
        cases es.toList[i]? with
        | none => simp
        | some e => by_cases hi : j = i <;> simp [hi]
      rw [this]; exact h3
    · intro x hx
      simp only [Array.toList_modify] at hx
      obtain ⟨i, hi⟩ := List.mem_iff_getElem?.1 hx
      simp only [List.getElem?_modify] at hi
      cases hes : es.toList[i]? with
      | none => simp [hes] at hi
      | some e' =>
        have hm' := List.mem_of_getElem? hes
        by_cases hji : j = i
        · simp [hes, hji] at hi; subst hi; exact h4 e' hm'
        · simp [hes, hji] at hi; subst hi; exact h4 e' hm'

end Go.Proofs.YtcenebjdhbdejaaGreatDoor
namespace Go.Proofs.YtcenebjdhbdejaaGreatDoor
open Go.MapKept
variable {P : Program}

abbrev kI (n : Int) : Value := .int .i64 n

theorem findNow_i (kd : IntKind) (k : Int) : ∀ (es : List MapEntry) (m : List (Int × Value)), es.map (fun e => (e.key, e.val)) = m.map (fun p => (kI p.1, p.2)) → ∀ i, Instr.findNow (.int kd) (kI k) es i = some (findA k m i) := by
  intro es
  induction es with
  | nil =>
    intro m h i
    cases m with
    | nil => rfl
    | cons p m => simp at h
  | cons e es ih =>
    intro m h i
    cases m with
    | nil => simp at h
    | cons p m =>
      simp only [List.map_cons, List.cons.injEq, Prod.mk.injEq] at h
      obtain ⟨⟨h1, h2⟩, h3⟩ := h
      by_cases hk : k = p.1
      · simp [Instr.findNow, h1, kI, Instr.sameNow, findA, hk, h2]
      · have := ih m h3 (i + 1)
        simp only [kI] at this
        have hb : (k == p.1) = false := by simpa using hk
        simp [Instr.findNow, h1, kI, Instr.sameNow, findA, hk, this, hb]

theorem keyT_i64 {K : TypeId} (hK : P.underlying K = some (.int .i64)) : KeyT P K kI where
  check := fun w e a => run_checkKey (d := .int .i64) hK (by simp [IsKey]) e 9999
  find := fun w a es m h => run_findKey hK (findNow_i .i64 a es m h 0)
  stays := fun w a => run_keyThatStays (d := .int .i64) (by simp [IsKey])

end Go.Proofs.YtcenebjdhbdejaaGreatDoor

namespace Go.Proofs.YtcenebjdhbdejaaGreatDoor
open Go.MapKept
variable {P : Program} {α : Type} [DecidableEq α] {kv : α → Value}

theorem wpL_lookup_ok {ops : Array Oper} {rest : List Oper} {o : Oper} {a : Act} {w : World} {Q : Exit → Act → World → Prop}
    (hg : o.guard = none) {T : TypeId} {mo xo : Operand} (hop : o.op = Op.lookup T mo xo true) {K E : TypeId} (hT : P.underlying T = some (.map K E)) (hK : KeyT P K kv)
    {z : Value} (hz : ∀ w, (zeroValue E).run P w = .ok z w) {b : Nat} {k : α} (hm : a.eval mo = .map (some b)) (hx : a.eval xo = kv k) {M : List (α × Value)} (hM : MapI kv w b M)
    (h : wpList P ops Q rest (a.put o.dst (.tuple #[(M.lookup k).getD z, .bool (M.lookup k).isSome])) w) : wpList P ops Q (o :: rest) a w := by
  refine wpList_plain hg fun K' hK' => ?_
  unfold Oper.wp
  have := run_lookup_ok k hT hK hM (hz w)
  simp only [execOp, hop, hm, hx, this, Sem.run_bind, Result.andThen, Oper.upon]
  exact hK' _ _ h

theorem wpL_lookup {ops : Array Oper} {rest : List Oper} {o : Oper} {a : Act} {w : World} {Q : Exit → Act → World → Prop}
    (hg : o.guard = none) {T : TypeId} {mo xo : Operand} (hop : o.op = Op.lookup T mo xo false) {K E : TypeId} (hT : P.underlying T = some (.map K E)) (hK : KeyT P K kv)
    {z : Value} (hz : ∀ w, (zeroValue E).run P w = .ok z w) {b : Nat} {k : α} (hm : a.eval mo = .map (some b)) (hx : a.eval xo = kv k) {M : List (α × Value)} (hM : MapI kv w b M)
    (h : wpList P ops Q rest (a.put o.dst ((M.lookup k).getD z)) w) : wpList P ops Q (o :: rest) a w := by
  refine wpList_plain hg fun K' hK' => ?_
  unfold Oper.wp
  have := run_lookup k hT hK hM (hz w)
  simp only [execOp, hop, hm, hx, this, Sem.run_bind, Result.andThen, Oper.upon]
  exact hK' _ _ h

theorem wpL_mapUpdate {ops : Array Oper} {rest : List Oper} {o : Oper} {a : Act} {w : World} {Q : Exit → Act → World → Prop}
    (hg : o.guard = none) {T : TypeId} {mo xo vo : Operand} (hop : o.op = Op.mapUpdate T mo xo vo) {K E : TypeId} (hT : P.underlying T = some (.map K E)) (hK : KeyT P K kv)
    {b : Nat} {k : α} (hm : a.eval mo = .map (some b)) (hx : a.eval xo = kv k) (v : Value) (hv : a.eval vo = v) {M : List (α × Value)} (hM : MapI kv w b M)
    (h : ∀ w', MapI kv w' b (setA k v M) → Only b w w' → wpList P ops Q rest (a.put o.dst undef) w') : wpList P ops Q (o :: rest) a w := by
  refine wpList_plain hg fun K' hK' => ?_
  unfold Oper.wp
  subst hv
  obtain ⟨w', h1, h2, h3⟩ := run_mapUpdate k (a.eval vo) hT hK hM
  simp only [execOp, hop, hm, hx, h1, Sem.run_bind, Result.andThen, Oper.upon, Sem.run_pure]
  exact hK' _ _ (h w' h2 h3)

theorem Only.cell {b : Nat} {w w' : World} (h : Only b w w') (a : Addr) (ha : a.block ≠ b) : w'.cell? a = w.cell? a := by
  simp [World.cell?, h.other _ ha]
theorem Only.frz {b : Nat} {w w' : World} (h : Only b w w') (a : Addr) (ha : a.block ≠ b) : w'.frozen? a = w.frozen? a := by
  simp [World.frozen?, h.other _ ha]
omit [DecidableEq α] in
theorem Only.mapI {b : Nat} {w w' : World} (h : Only b w w') {c : Nat} (hc : c ≠ b) {M : List (α × Value)} (hm : MapI kv w c M) : MapI kv w' c M := by
  obtain ⟨⟨es, clk, h1, h2⟩, h3⟩ := hm
  exact ⟨⟨es, clk, by rw [h.other _ hc]; exact h1, h2⟩, h3⟩
omit [DecidableEq α] in
theorem MapI.alloc {w : World} {b : Nat} {M : List (α × Value)} (hm : MapI kv w b M) (o : Obj) : MapI kv (w.alloc o) b M := by
  obtain ⟨⟨es, clk, h1, h2⟩, h3⟩ := hm
  refine ⟨⟨es, clk, ?_, h2⟩, h3⟩
  rw [(heap_alloc w o).2 b (Array.getElem?_eq_some_iff.1 h1).1]; exact h1
omit [DecidableEq α] in
theorem MapI.drew {w : World} {b : Nat} {M : List (α × Value)} (hm : MapI kv w b M) : MapI kv w.drew b M := ⟨hm.ex, hm.nodup⟩
end Go.Proofs.YtcenebjdhbdejaaGreatDoor
-- PART B

namespace Go.Proofs.YtcenebjdhbdejaaGreatDoor
open Go.MapKept
variable {P : Program} {α : Type} [DecidableEq α] {kv : α → Value}

theorem makeMapR (P : Program) (t : TypeId) (w : World) : (Instr.makeMap t none).run P w = .ok (.map (some w.heap.size)) (w.alloc (.map #[] 0)) := rfl

/-- w' is w with new blocks behind, and blocks of S turned. -/
structure Ext (S : Nat → Prop) (w w' : World) : Prop where
  size : w.heap.size ≤ w'.heap.size
  same : ∀ c, c < w.heap.size → ¬ S c → w'.heap[c]? = w.heap[c]?
  os : w'.os = w.os
  out : w'.output = w.output

abbrev No : Nat → Prop := fun _ => False

theorem Ext.refl (S : Nat → Prop) (w : World) : Ext S w w := ⟨Nat.le_refl _, fun _ _ _ => rfl, rfl, rfl⟩
theorem Ext.trans {S : Nat → Prop} {w w' w'' : World} (h : Ext S w w') (h' : Ext S w' w'') : Ext S w w'' :=
  ⟨Nat.le_trans h.size h'.size, fun c hc hs => (h'.same c (Nat.lt_of_lt_of_le hc h.size) hs).trans (h.same c hc hs), h'.os.trans h.os, h'.out.trans h.out⟩
theorem Ext.mono {S T : Nat → Prop} {w w' : World} (h : Ext S w w') (hst : ∀ c, c < w.heap.size → S c → T c) : Ext T w w' :=
  ⟨h.size, fun c hc hs => h.same c hc fun x => hs (hst c hc x), h.os, h.out⟩
/-- the second step may turn new blocks -/
theorem Ext.then {S T : Nat → Prop} {w w' w'' : World} (h : Ext S w w') (h' : Ext T w' w'') (hst : ∀ c, c < w.heap.size → T c → S c) : Ext S w w'' :=
  ⟨Nat.le_trans h.size h'.size, fun c hc hs => (h'.same c (Nat.lt_of_lt_of_le hc h.size) fun x => hs (hst c hc x)).trans (h.same c hc hs), h'.os.trans h.os, h'.out.trans h.out⟩
theorem Ext.alloc {S : Nat → Prop} {w w' : World} (h : Ext S w w') (o : Obj) : Ext S w (w'.alloc o) :=
  h.trans ⟨by simp, fun c hc _ => (heap_alloc w' o).2 c hc, rfl, rfl⟩
theorem Ext.drew {S : Nat → Prop} {w w' : World} (h : Ext S w w') : Ext S w w'.drew :=
  h.trans ⟨Nat.le_refl _, fun _ _ _ => rfl, rfl, rfl⟩
theorem Ext.only {S : Nat → Prop} {w w' w'' : World} {b : Nat} (h : Ext S w w') (h' : Only b w' w'') (hb : b < w.heap.size → S b) : Ext S w w'' :=
  ⟨by rw [h'.size]; exact h.size, fun c hc hs => (h'.other c (fun e => hs (e ▸ hb (e ▸ hc)))).trans (h.same c hc hs), h'.os.trans h.os, h'.out.trans h.out⟩
theorem Ext.setCell {S : Nat → Prop} {w w' : World} (h : Ext S w w') (a : Addr) (v : Value) (hb : a.block < w.heap.size → S a.block) : Ext S w (w'.setCell a v) := by
  refine ⟨by simpa using h.size, fun c hc hs => ?_, h.os, h.out⟩
  have : (w'.setCell a v).heap[c]? = w'.heap[c]? := by
    simp only [World.setCell, Array.getElem?_modify]
    rw [if_neg (fun e => hs (by rw [← e]; exact hb (by rw [e]; exact hc)))]
  rw [this]; exact h.same c hc hs
theorem Ext.grown {S : Nat → Prop} {w w' w'' : World} {r : Option Nat} (h : Ext S w w') (h' : w'.grownBy w'' r) (hb : ∀ b, r = some b → b < w.heap.size → S b) : Ext S w w'' :=
  ⟨Nat.le_trans h.size h'.size, fun c hc hs => (h'.block c (Nat.lt_of_lt_of_le hc h.size) (fun e => hs (hb c e.symm hc))).trans (h.same c hc hs), h'.os.trans h.os, h'.output.trans h.out⟩
theorem Ext.cell {S : Nat → Prop} {w w' : World} (h : Ext S w w') (a : Addr) (ha : a.block < w.heap.size) (hs : ¬ S a.block) : w'.cell? a = w.cell? a := by
  simp [World.cell?, h.same _ ha hs]
theorem Ext.frz {S : Nat → Prop} {w w' : World} (h : Ext S w w') (a : Addr) (ha : a.block < w.heap.size) (hs : ¬ S a.block) : w'.frozen? a = w.frozen? a := by
  simp [World.frozen?, h.same _ ha hs]
theorem Ext.cellv {S : Nat → Prop} {w w' : World} (h : Ext S w w') {a : Addr} {v : Value} (ha : w.cell? a = some v) (hs : ¬ S a.block) : w'.cell? a = some v :=
  (h.cell a (World.block_lt_of_cell? w a ha) hs).trans ha
theorem Ext.obj {S : Nat → Prop} {w w' : World} (h : Ext S w w') {b : Nat} {o : Obj} (hb : w.heap[b]? = some o) (hs : ¬ S b) : w'.heap[b]? = some o :=
  (h.same b (Array.getElem?_eq_some_iff.1 hb).1 hs).trans hb
omit [DecidableEq α] in
theorem MapI.lt {w : World} {b : Nat} {M : List (α × Value)} (hm : MapI kv w b M) : b < w.heap.size := by
  obtain ⟨⟨es, clk, h1, -⟩, -⟩ := hm
  exact (Array.getElem?_eq_some_iff.1 h1).1
omit [DecidableEq α] in
theorem MapI.of_same {w w' : World} {b : Nat} {M : List (α × Value)} (hm : MapI kv w b M) (h : w'.heap[b]? = w.heap[b]?) : MapI kv w' b M := by
  obtain ⟨⟨es, clk, h1, h2⟩, h3⟩ := hm
  exact ⟨⟨es, clk, by rw [h]; exact h1, h2⟩, h3⟩
omit [DecidableEq α] in
theorem MapI.ext {S : Nat → Prop} {w w' : World} {b : Nat} {M : List (α × Value)} (hm : MapI kv w b M) (h : Ext S w w') (hs : ¬ S b) : MapI kv w' b M :=
  hm.of_same (h.same b hm.lt hs)
omit [DecidableEq α] in
theorem MapI.empty {w : World} {b clk : Nat} (h : w.heap[b]? = some (.map #[] clk)) : MapI kv w b [] :=
  ⟨⟨#[], clk, h, by simp, by simp, by simp⟩, by simp⟩

theorem delA_sublist (k : α) : ∀ m : List (α × Value), (delA k m).Sublist m
  | [] => by simp [delA]
  | p :: m => by
    by_cases hk : k = p.1
    · simp only [delA, hk, if_true]; exact List.sublist_cons_self _ _
    · simp only [delA, hk, if_false]; exact (delA_sublist k m).cons_cons p

theorem nodup_delA {m : List (α × Value)} (h : (m.map (·.1)).Nodup) (k : α) : ((delA k m).map (·.1)).Nodup :=
  h.sublist ((delA_sublist k m).map _)

theorem eraseIdx_map' {β γ : Type} (f : β → γ) : ∀ (l : List β) (i : Nat), (l.map f).eraseIdx i = (l.eraseIdx i).map f
  | [], _ => by simp
  | _ :: _, 0 => by simp
  | a :: l, i + 1 => by simp [eraseIdx_map' f l i]

theorem run_delete {T K E : TypeId} {w : World} {b : Nat} {m : List (α × Value)} (k : α) (ty : TypeId) (hT : P.underlying T = some (.map K E)) (hK : KeyT P K kv)
    (hm : MapI kv w b m) : ∃ w', (Builtin.delete_ #[T, K] ty #[.map (some b), kv k]).run P w = .ok (.tuple #[]) w' ∧ MapI kv w' b (delA k m) ∧ Only b w w' := by
  obtain ⟨⟨es, clk, h1, h2, h3, h4⟩, h5⟩ := hm
  have hf := hK.find w k es.toList m h2
  cases hr : findA k m 0 with
  | none =>
    rw [hr] at hf
    obtain ⟨-, -, g2⟩ := findA_none (v' := .nilIface) hr
    refine ⟨_, by simp [Builtin.delete_, run_underlying hT, run_getObj_map (P := P) (w := w) (r := b) (hb := h1), hK.check, hf, Result.andThen]; rw [run_setObj_map (P := P) _ h1], ⟨⟨_, _, (heap_set h1).1, ?_, h3, h4⟩, nodup_delA h5 k⟩, only_set h1⟩
    rw [g2]; exact h2
  | some p =>
    obtain ⟨j, u⟩ := p
    rw [hr] at hf
    obtain ⟨-, g1, -, g2⟩ := findA_some (v' := .nilIface) hr
    refine ⟨_, by simp [Builtin.delete_, run_underlying hT, run_getObj_map (P := P) (w := w) (r := b) (hb := h1), hK.check, hf, Result.andThen]; rw [run_setObj_map (P := P) _ h1], ⟨⟨_, _, (heap_set h1).1, ?_, ?_, ?_⟩, nodup_delA h5 k⟩, only_set h1⟩
    · rw [g2]
      have e : (es.eraseIdxIfInBounds j).toList = es.toList.eraseIdx j := by simp
      rw [e]
      have := congrArg (fun l => l.eraseIdx (j - 0)) h2
      simpa [eraseIdx_map'] using this
    · have e : (es.eraseIdxIfInBounds j).toList = es.toList.eraseIdx j := by simp
      rw [e, ← eraseIdx_map']
      exact h3.sublist (List.eraseIdx_sublist _ _)
    · intro e' he'
      have e : (es.eraseIdxIfInBounds j).toList = es.toList.eraseIdx j := by simp
      rw [e] at he'
      exact h4 e' ((List.eraseIdx_sublist _ _).subset he')

theorem wpL_delete {ops : Array Oper} {rest : List Oper} {o : Oper} {a : Act} {w : World} {Q : Exit → Act → World → Prop}
    (hg : o.guard = none) {T K E : TypeId} {mo xo : Operand} (hop : o.op = .call { callee := .builtin .delete, args := #[mo, xo], argTypes := #[T, K] }) (hT : P.underlying T = some (.map K E)) (hK : KeyT P K kv)
    {b : Nat} {k : α} (hm : a.eval mo = .map (some b)) (hx : a.eval xo = kv k) {M : List (α × Value)} (hM : MapI kv w b M)
    (h : ∀ w', MapI kv w' b (delA k M) → Only b w w' → wpList P ops Q rest (a.put o.dst (.tuple #[])) w') : wpList P ops Q (o :: rest) a w := by
  refine wpList_plain hg fun K' hK' => ?_
  obtain ⟨w', h1, h2, h3⟩ := run_delete k o.type hT hK hM
  unfold Oper.wp execOp
  simp only [hop, resolve, invoke, builtin, Sem.run_bind, Sem.run_pure, Result.andThen_ok, List.map_toArray, List.map_cons, List.map_nil, hm, hx, h1]
  exact hK' _ _ (h w' h2 h3)

omit [DecidableEq α] in
theorem wpL_len {ops : Array Oper} {rest : List Oper} {o : Oper} {a : Act} {w : World} {Q : Exit → Act → World → Prop}
    (hg : o.guard = none) {T K E : TypeId} {mo : Operand} (hop : o.op = .call { callee := .builtin .len, args := #[mo], argTypes := #[T] }) (hT : P.underlying T = some (.map K E))
    {b : Nat} (hm : a.eval mo = .map (some b)) {M : List (α × Value)} (hM : MapI kv w b M)
    (h : wpList P ops Q rest (a.put o.dst (.int .i64 M.length)) w) : wpList P ops Q (o :: rest) a w := by
  refine wpList_plain hg fun K' hK' => ?_
  obtain ⟨⟨es, clk, h1, h2, h3, h4⟩, h5⟩ := hM
  have hl : es.size = M.length := by have := congrArg List.length h2; simpa using this
  have hr : (Builtin.len_ #[T] o.type #[.map (some b)]).run P w = .ok (.int .i64 M.length) w := by
    simp [Builtin.len_, run_underlying hT, run_getObj_map (P := P) (w := w) (r := b) (hb := h1), Result.andThen, goInt, hl]
  unfold Oper.wp execOp
  simp only [hop, resolve, invoke, builtin, Sem.run_bind, Sem.run_pure, Result.andThen_ok, List.map_toArray, List.map_cons, List.map_nil, hm, hr]
  exact hK' _ _ h

def setBlock' (w : World) (r : Nat) (o : Obj) : World := { w with heap := w.heap.setIfInBounds r o }

/-- An iterator in block r over the map in block b, of which the entries M are; 'left' are still to come; 'cur' came last. -/
structure IterI (kv : α → Value) (w : World) (r b : Nat) (M left : List (α × Value)) (cur : Option (α × Value)) : Prop where
  ex : ∃ es clk since seen, w.heap[b]? = some (.map es clk) ∧ es.toList.map (fun e => (e.key, e.val)) = M.map (fun p => (kv p.1, p.2)) ∧ (es.toList.map (·.born)).Pairwise (· < ·) ∧ (∀ e ∈ es.toList, e.born < clk) ∧
    w.heap[r]? = some (.mapIter (some b) since seen clk) ∧ since = clk ∧
    ∃ rest : List MapEntry, rest = es.toList.filter (fun e => !seen.contains e.born) ∧ rest.map (fun e => (e.key, e.val)) = left.map (fun p => (kv p.1, p.2)) ∧
    ∀ p, cur = some p → ∃ e ∈ es.toList, (∃ sn : Array Nat, seen = sn.push e.born) ∧ e.key = kv p.1 ∧ e.val = p.2
  ne : r ≠ b

omit [DecidableEq α] in
theorem IterI.of_same {w w' : World} {r b : Nat} {M left : List (α × Value)} {cur : Option (α × Value)} (h : IterI kv w r b M left cur) (hb : w'.heap[b]? = w.heap[b]?) (hr : w'.heap[r]? = w.heap[r]?) : IterI kv w' r b M left cur := by
  obtain ⟨⟨es, clk, since, seen, h1, h2, h3, h4, h5, h6⟩, h7⟩ := h
  exact ⟨⟨es, clk, since, seen, by rw [hb]; exact h1, h2, h3, h4, by rw [hr]; exact h5, h6⟩, h7⟩
omit [DecidableEq α] in
theorem IterI.ltr {w : World} {r b : Nat} {M left : List (α × Value)} {cur : Option (α × Value)} (h : IterI kv w r b M left cur) : r < w.heap.size := by
  obtain ⟨⟨es, clk, since, seen, h1, h2, h3, h4, h5, h6⟩, h7⟩ := h
  exact (Array.getElem?_eq_some_iff.1 h5).1
omit [DecidableEq α] in
theorem IterI.ltb {w : World} {r b : Nat} {M left : List (α × Value)} {cur : Option (α × Value)} (h : IterI kv w r b M left cur) : b < w.heap.size := by
  obtain ⟨⟨es, clk, since, seen, h1, h2, h3, h4, h5, h6⟩, h7⟩ := h
  exact (Array.getElem?_eq_some_iff.1 h1).1
omit [DecidableEq α] in
theorem IterI.ext {S : Nat → Prop} {w w' : World} {r b : Nat} {M left : List (α × Value)} {cur : Option (α × Value)} (h : IterI kv w r b M left cur) (he : Ext S w w') (hb : ¬ S b) (hr : ¬ S r) : IterI kv w' r b M left cur :=
  h.of_same (he.same b h.ltb hb) (he.same r h.ltr hr)

omit [DecidableEq α] in
theorem wpL_range {ops : Array Oper} {rest : List Oper} {o : Oper} {a : Act} {w : World} {Q : Exit → Act → World → Prop}
    (hg : o.guard = none) {T K E : TypeId} {mo : Operand} (hop : o.op = .range T mo) (hT : P.underlying T = some (.map K E))
    {b : Nat} (hm : a.eval mo = .map (some b)) {M : List (α × Value)} (hM : MapI kv w b M)
    (h : ∀ w', IterI kv w' w.heap.size b M M none → w'.heap.size = w.heap.size + 1 → Ext No w w' → wpList P ops Q rest (a.put o.dst (.pointer (some ⟨w.heap.size, 0, none⟩))) w') : wpList P ops Q (o :: rest) a w := by
  refine wpList_plain hg fun K' hK' => ?_
  have hlt := hM.lt
  obtain ⟨⟨es, clk, h1, h2, h3, h4⟩, h5⟩ := hM
  have hr : (Instr.range T (.map (some b))).run P w = .ok (.pointer (some ⟨w.heap.size, 0, none⟩)) (w.alloc (.mapIter (some b) clk #[] clk)) := by
    simp [Instr.range, run_underlying hT, run_getObj_map (P := P) (w := w) (r := b) (hb := h1), Result.andThen]
  unfold Oper.wp execOp
  simp only [hop, hm, hr, Sem.run_bind, Result.andThen]
  refine hK' _ _ (h _ ⟨⟨es, clk, clk, #[], ?_, h2, h3, h4, (heap_alloc w _).1, rfl, es.toList, by rw [List.filter_eq_self.2]; simp, h2, by simp⟩, by omega⟩ (by simp) ((Ext.refl No w).alloc _))
  rw [(heap_alloc w _).2 b hlt]; exact h1

omit [DecidableEq α] in
theorem IterI.take {w w1 : World} {r b : Nat} {M left : List (α × Value)} {cur : Option (α × Value)} (h : IterI kv w r b M left cur) (hw : w1 = w ∨ w1 = w.drew) (ty : TypeId) :
    (left = [] ∧ (Instr.next (.pointer (some ⟨r, 0, none⟩)) false ty).run P w = .ok (.tuple #[.bool false]) w) ∨
    ∃ l1 p l2 w', left = l1 ++ p :: l2 ∧ (Instr.next (.pointer (some ⟨r, 0, none⟩)) false ty).run P w = .ok (.tuple #[.bool true, kv p.1, p.2]) w' ∧ IterI kv w' r b M (l1 ++ l2) (some p) ∧ w'.heap.size = w.heap.size ∧ Ext (fun c => c = r) w w' := by
  obtain ⟨⟨es, clk, since, seen, h1, h2, h3, h4, h5, h6, rest, h7, h8, h9⟩, h10⟩ := h
  subst h6
  rcases run_next_at (P := P) w ty r b since since seen es since h5 h1 h4 (Nat.le_refl _) with ⟨g1, g2⟩ | ⟨e, g1, w2, g2, g3⟩
  · refine Or.inl ⟨?_, g2⟩
    have : rest = [] := by
      rw [h7]
      have : (Array.filter (fun e => !seen.contains e.born) es).toList = [] := by
        have := Array.eq_empty_of_size_eq_zero g1
        simp only [Go.leftOf] at this
        rw [this]
      simpa using this
    rw [this] at h8
    cases left with
    | nil => rfl
    | cons p l => simp at h8
  · right
    have he : e ∈ rest := by
      rw [h7]; simp only [Go.leftOf] at g1
      simpa using g1
    obtain ⟨r1, r2, hr12⟩ := List.append_of_mem he
    have h8' := h8
    rw [hr12, List.map_append, List.map_cons] at h8'
    obtain ⟨l1, l', hl1, hl2, hl3⟩ := List.append_eq_map_iff.1 h8'
    cases l' with
    | nil => simp at hl3
    | cons p l2 =>
      simp only [List.map_cons, List.cons.injEq, Prod.mk.injEq] at hl3
      obtain ⟨⟨k1, k2⟩, k3⟩ := hl3
      have heq : (setBlock' w2 r (.mapIter (some b) since (seen.push e.born) since)) = (ChangeMaps.setBlock w2 r (.mapIter (some b) since (seen.push e.born) since)) := rfl
      have hw2r : w2.heap[r]? = some (.mapIter (some b) since seen since) := by rcases g2 with rfl | rfl <;> exact h5
      have hw2b : w2.heap[b]? = some (.map es since) := by rcases g2 with rfl | rfl <;> exact h1
      have hw2s : w2.heap.size = w.heap.size := by rcases g2 with rfl | rfl <;> rfl
      have hw2c : ∀ c : Nat, w2.heap[c]? = w.heap[c]? := by rcases g2 with rfl | rfl <;> intro c <;> rfl
      refine ⟨l1, p, l2, _, hl1, by rw [g3, k1, k2], ⟨⟨es, since, since, seen.push e.born, ?_, h2, h3, h4, ?_, rfl, r1 ++ r2, ?_, ?_, ?_⟩, h10⟩, ?_, ?_⟩
      · rw [← heq]; simp only [setBlock']; rw [(heap_set hw2r).2 b (Ne.symm h10)]; exact hw2b
      · rw [← heq]; simp only [setBlock']; exact (heap_set hw2r).1
      · have hnd : (es.toList.map (·.born)).Nodup := h3.imp (fun h => Nat.ne_of_lt h)
        have hnd2 : (rest.map (·.born)).Nodup := by
          rw [h7]; exact hnd.sublist (List.filter_sublist.map _)
        have e1 : es.toList.filter (fun x => !(seen.push e.born).contains x.born) = rest.filter (fun x => x.born != e.born) := by
          rw [h7, List.filter_filter]
          apply List.filter_congr
          intro x hx
          simp only [Array.contains_push]
          cases seen.contains x.born <;> cases h' : (x.born == e.born) <;> simp [bne, h']
        rw [e1, hr12, List.filter_append, List.filter_cons]
        simp only [bne_self_eq_false, Bool.false_eq_true, if_false]
        rw [hr12, List.map_append, List.map_cons] at hnd2
        rw [List.nodup_append] at hnd2
        obtain ⟨-, n2, n3⟩ := hnd2
        rw [List.nodup_cons] at n2
        rw [List.filter_eq_self.2, List.filter_eq_self.2]
        · intro x hx
          simp only [bne_iff_ne, ne_eq]
          intro hxe
          exact n2.1 (hxe ▸ List.mem_map.2 ⟨x, hx, rfl⟩)
        · intro x hx
          simp only [bne_iff_ne, ne_eq]
          exact n3 x.born (List.mem_map.2 ⟨x, hx, rfl⟩) e.born List.mem_cons_self
      · rw [List.map_append, List.map_append, hl2, k3]
      · intro q hq
        simp only [Option.some.injEq] at hq
        subst hq
        refine ⟨e, ?_, ⟨seen, rfl⟩, k1.symm, k2.symm⟩
        rw [h7] at he
        exact (List.mem_filter.1 he).1
      · rw [← heq]; simp [setBlock', hw2s]
      · refine ⟨by rw [← heq]; simp [setBlock', hw2s], fun c hc hcr => ?_, ?_, ?_⟩
        · rw [← heq]; simp only [setBlock']; rw [(heap_set hw2r).2 c hcr]; exact hw2c c
        · rcases g2 with rfl | rfl <;> rfl
        · rcases g2 with rfl | rfl <;> rfl

omit [DecidableEq α] in
theorem IterI.entry_run {w : World} {r b : Nat} {M left : List (α × Value)} {p : α × Value} (hI : IterI kv w r b M left (some p)) :
    (Instr.entry (.pointer (some ⟨r, 0, none⟩))).run P w = .ok (.tuple #[kv p.1, p.2]) w := by
  obtain ⟨⟨es, clk, since, seen, h1, h2, h3, h4, h5, h6, rest', h7, h8, h9⟩, h10⟩ := hI
  obtain ⟨e, he, ⟨sn, hsn⟩, hk, hv⟩ := h9 p rfl
  subst hsn
  have hnd : (es.toList.map (·.born)).Nodup := h3.imp (fun h => Nat.ne_of_lt h)
  rw [run_entry_at (P := P) w r b since sn es clk e h5 h1 he hnd, hk, hv]

omit [DecidableEq α] in
theorem wpL_next {ops : Array Oper} {rest : List Oper} {o : Oper} {a : Act} {w : World} {Q : Exit → Act → World → Prop}
    (hg : o.guard = none) {io : Operand} (hop : o.op = .next io false)
    {r b : Nat} (hi : a.eval io = .pointer (some ⟨r, 0, none⟩)) {M left : List (α × Value)} {cur : Option (α × Value)} (hI : IterI kv w r b M left cur)
    (h0 : left = [] → wpList P ops Q rest (a.put o.dst (.tuple #[.bool false])) w)
    (h1 : ∀ l1 p l2 w', left = l1 ++ p :: l2 → IterI kv w' r b M (l1 ++ l2) (some p) → w'.heap.size = w.heap.size → Ext (fun c => c = r) w w' → (Instr.entry (.pointer (some ⟨r, 0, none⟩))).run P w' = .ok (.tuple #[kv p.1, p.2]) w' → wpList P ops Q rest (a.put o.dst (.tuple #[.bool true, kv p.1, p.2])) w') : wpList P ops Q (o :: rest) a w := by
  refine wpList_plain hg fun K' hK' => ?_
  rcases hI.take (P := P) (Or.inl rfl) o.type with ⟨g1, g2⟩ | ⟨l1, p, l2, w', g1, g2, g3, g4, g5⟩
  · unfold Oper.wp execOp
    simp only [hop, hi, g2, Sem.run_bind, Result.andThen]
    exact hK' _ _ (h0 g1)
  · unfold Oper.wp execOp
    simp only [hop, hi, g2, Sem.run_bind, Result.andThen]
    exact hK' _ _ (h1 l1 p l2 w' g1 g3 g4 g5 g3.entry_run)

omit [DecidableEq α] in
theorem wpL_entry {ops : Array Oper} {rest : List Oper} {o : Oper} {a : Act} {w : World} {Q : Exit → Act → World → Prop}
    (hg : o.guard = none) {io : Operand} (hop : o.op = .entry io)
    {r b : Nat} (hi : a.eval io = .pointer (some ⟨r, 0, none⟩)) {M left : List (α × Value)} {p : α × Value} (hI : IterI kv w r b M left (some p))
    (h : wpList P ops Q rest (a.put o.dst (.tuple #[kv p.1, p.2])) w) : wpList P ops Q (o :: rest) a w := by
  refine wpList_plain hg fun K' hK' => ?_
  obtain ⟨⟨es, clk, since, seen, h1, h2, h3, h4, h5, h6, rest', h7, h8, h9⟩, h10⟩ := hI
  obtain ⟨e, he, ⟨sn, hsn⟩, hk, hv⟩ := h9 p rfl
  subst hsn
  have hnd : (es.toList.map (·.born)).Nodup := h3.imp (fun h => Nat.ne_of_lt h)
  have hr := run_entry_at (P := P) w r b since sn es clk e h5 h1 he hnd
  unfold Oper.wp execOp
  simp only [hop, hi, hr, Sem.run_bind, Result.andThen, hk, hv]
  exact hK' _ _ h
end Go.Proofs.YtcenebjdhbdejaaGreatDoor

namespace Go.Proofs.YtcenebjdhbdejaaGreatDoor
open Go.MapKept
variable {P : Program} {β : Type}

/-- One element more at the end of a slice that the call itself has made: f lays an element's cells. -/
theorem wpL_append1 {ops : Array Oper} {rest : List Oper} {o : Oper} {a : Act} {w : World} {Q : Exit → Act → World → Prop} (hgd : o.guard = none) {s x : Operand} {t : TypeId}
    (ho : o.op = .call { callee := .builtin .append, args := #[s, x], argTypes := #[t, t] })
    {B : Nat} {e : TypeId} {z : Value} {size bytes : Nat} (ht : P.underlying t = some (.slice e)) (hi : (P.info? e).map (fun i => (i.zero, i.size, i.bytes)) = some (some z, size, bytes))
    (hzs : z.cells.size = size) (hsz : 0 < size) (hby : bytes ≤ 10000) {f : β → List Value} (hf : ∀ y, (f y).length = size) (hf1 : ∀ y, ∀ u ∈ f y, u.oneCell' = true)
    {v : Value} {xs : List β} (hs : a.eval s = v) (hown : w.ownsRow B e size v xs.length (xs.flatMap f))
    {b : Nat} (y : β) (hx : a.eval x = .slice (some ⟨b, 0, none⟩) 1 1) (hc : ∃ T fr, w.heap[b]? = some (.cells (f y).toArray T fr)) (hlen : xs.length < 1000000) (hB : B ≤ w.heap.size)
    (h : ∀ v' w', w'.ownsRow B e size v' (xs ++ [y]).length ((xs ++ [y]).flatMap f) → Ext (fun c => some c = v.ownBlock) w w' → (∀ c, v'.ownBlock = some c → B ≤ c) → wpList P ops Q rest (a.put o.dst v') w') : wpList P ops Q (o :: rest) a w := by
  obtain ⟨i, hi1, hi2⟩ := Option.map_eq_some_iff.1 hi
  simp only [Prod.mk.injEq] at hi2
  obtain ⟨T, fr, hc⟩ := hc
  refine wpList_append_own w hgd s x t ho B e i z size bytes ht hi1 hi2.1 hi2.2.1 hi2.2.2 hzs hsz v xs.length (xs.flatMap f) hs hown ⟨b, 0, none⟩ 1 1 (f y) hx (by rw [hf]; omega) ?_ (hf1 y) (by unfold maxLen; omega) (Nat.le_trans (Nat.mul_le_mul (show xs.length + 1 ≤ 1000000 by omega) hby) (by decide)) hB ?_
  · intro j u hj
    have hadd : (⟨b, 0, none⟩ : Addr).add j = ⟨b, j, none⟩ := by unfold Addr.add; split <;> simp_all
    rw [hadd, World.cell?]
    simp only [hc]
    simpa using hj
  · intro v' w' h1 h2 _
    refine h v' w' ?_ ((Ext.refl _ w).grown h2 (fun c hc _ => hc.symm)) (fun c hc => (h1.lt c hc).1)
    have e1 : (xs ++ [y]).length = xs.length + 1 := by simp
    have e2 : (xs ++ [y]).flatMap f = xs.flatMap f ++ f y := by simp
    rw [e1, e2]; exact h1

theorem ownsRow_ext {S : Nat → Prop} {w w' : World} {B e size n : Nat} {v : Value} {xs : List Value} (h : w.ownsRow B e size v n xs) (he : Ext S w w') (hS : ∀ c, v.ownBlock = some c → ¬ S c) : w'.ownsRow B e size v n xs := by
  refine ⟨h.1, ?_⟩
  rcases h.2 with hn | ⟨g, cap, cur, rfl, hb, hgg, rest⟩
  · exact Or.inl hn
  · exact Or.inr ⟨g, cap, cur, rfl, hb, he.obj hgg (hS g rfl), rest⟩

end Go.Proofs.YtcenebjdhbdejaaGreatDoor

namespace Go.Proofs.YtcenebjdhbdejaaGreatDoor
variable {α : Type} {kv : α → Value}
theorem IterI.not_row {w : World} {r b : Nat} {M left : List (α × Value)} {cur : Option (α × Value)} (h : IterI kv w r b M left cur) {B e size n : Nat} {v : Value} {xs : List Value} (ho : w.ownsRow B e size v n xs) :
    v.ownBlock ≠ some r ∧ v.ownBlock ≠ some b := by
  obtain ⟨⟨es, clk, since, seen, h1, h2, h3, h4, h5, h6⟩, h7⟩ := h
  rcases ho.2 with ⟨rfl, -⟩ | ⟨g, cap, cur, rfl, hb, hgg, rest⟩
  · exact ⟨by simp [Value.ownBlock], by simp [Value.ownBlock]⟩
  · refine ⟨fun e => ?_, fun e => ?_⟩ <;> simp only [Value.ownBlock, Option.some.injEq] at e <;> subst e
    · rw [h5] at hgg; cases hgg
    · rw [h1] at hgg; cases hgg
theorem MapI.not_row {w : World} {b : Nat} {M : List (α × Value)} (h : MapI kv w b M) {B e size n : Nat} {v : Value} {xs : List Value} (ho : w.ownsRow B e size v n xs) : v.ownBlock ≠ some b := by
  obtain ⟨⟨es, clk, h1, -⟩, -⟩ := h
  rcases ho.2 with ⟨rfl, -⟩ | ⟨g, cap, cur, rfl, hb, hgg, rest⟩
  · simp [Value.ownBlock]
  · intro e; simp only [Value.ownBlock, Option.some.injEq] at e; subst e
    rw [h1] at hgg; cases hgg
/-- an iterator stays where a slice of the call's own is turned -/
theorem IterI.row {w w' : World} {r b : Nat} {M left : List (α × Value)} {cur : Option (α × Value)} (h : IterI kv w r b M left cur) {B e size n : Nat} {v : Value} {xs : List Value} (ho : w.ownsRow B e size v n xs)
    (he : Ext (fun c => some c = v.ownBlock) w w') : IterI kv w' r b M left cur :=
  h.ext he (fun e => (h.not_row ho).2 e.symm) (fun e => (h.not_row ho).1 e.symm)
end Go.Proofs.YtcenebjdhbdejaaGreatDoor

namespace Go.Proofs.YtcenebjdhbdejaaGreatDoor
variable {P : Program} {α : Type} {kv : α → Value}
/-- make([]T, 0, n) -/
theorem wpL_make0 {ops : Array Oper} {rest : List Oper} {o : Oper} {a : Act} {w : World} {Q : Exit → Act → World → Prop} (hgd : o.guard = none) {lo co : Operand} {t : TypeId}
    (ho : o.op = .makeSlice t lo co) {e : TypeId} {z : Value} {size bytes : Nat} (ht : P.underlying t = some (.slice e)) (hi : (P.info? e).map (fun i => (i.zero, i.size, i.bytes)) = some (some z, size, bytes))
    (hl : a.eval lo = .int .i64 0) {n : Nat} (hc : a.eval co = .int .i64 n) (hn : n < 1000000) (hby : bytes ≤ 10000) {B : Nat} (hB : B ≤ w.heap.size)
    (h : ∀ w', w'.ownsRow B e size (.slice (some ⟨w.heap.size, 0, none⟩) 0 n) 0 [] → Ext No w w' → wpList P ops Q rest (a.put o.dst (.slice (some ⟨w.heap.size, 0, none⟩) 0 n)) w') : wpList P ops Q (o :: rest) a w := by
  obtain ⟨i, hi1, hi2⟩ := Option.map_eq_some_iff.1 hi
  simp only [Prod.mk.injEq] at hi2
  refine wpList_plain hgd fun K' hK' => ?_
  obtain ⟨w', h1, h2, h3⟩ := run_make_own (P := P) w B t e i z size ht hi1 hi2.1 hi2.2.1 .i64 .i64 n (by rw [hi2.2.2]; exact Nat.le_trans (Nat.mul_le_mul hby (show n ≤ 1000000 by omega)) (by decide)) (by unfold maxLen; omega) hB
  unfold Oper.wp execOp
  simp only [ho, hl, hc, Sem.run_bind, h1, Result.andThen]
  exact hK' _ _ (h w' h2 ((Ext.refl _ w).grown h3 (fun c hc _ => by cases hc)))

end Go.Proofs.YtcenebjdhbdejaaGreatDoor

namespace Go.Proofs.YtcenebjdhbdejaaGreatDoor
variable {P : Program} {α γ : Type} {kv : α → Value}
/-- One step of ranging, where the entries are the images of things of our own. -/
theorem wpL_nextM {ops : Array Oper} {rest : List Oper} {o : Oper} {a : Act} {w : World} {Q : Exit → Act → World → Prop}
    (hg : o.guard = none) {io : Operand} (hop : o.op = .next io false)
    {r b : Nat} (hi : a.eval io = .pointer (some ⟨r, 0, none⟩)) {M : List (α × Value)} {g : γ → α × Value} {left : List γ} {cur : Option (α × Value)} (hI : IterI kv w r b M (left.map g) cur)
    (h0 : left = [] → wpList P ops Q rest (a.put o.dst (.tuple #[.bool false])) w)
    (h1 : ∀ l1 y l2 w', left = l1 ++ y :: l2 → IterI kv w' r b M ((l1 ++ l2).map g) (some (g y)) → w'.heap.size = w.heap.size → Ext (fun c => c = r) w w' → (Instr.entry (.pointer (some ⟨r, 0, none⟩))).run P w' = .ok (.tuple #[kv (g y).1, (g y).2]) w' → wpList P ops Q rest (a.put o.dst (.tuple #[.bool true, kv (g y).1, (g y).2])) w') : wpList P ops Q (o :: rest) a w := by
  refine wpL_next hg hop hi hI (fun h => h0 (by simpa using h)) ?_
  intro l1 p l2 w' e1 e2 e3 e4 e5
  obtain ⟨k1, k', rfl, rfl, e6⟩ := List.append_eq_map_iff.1 e1.symm
  cases k' with
  | nil => simp at e6
  | cons y k2 =>
    simp only [List.map_cons, List.cons.injEq] at e6
    obtain ⟨rfl, rfl⟩ := e6
    exact h1 k1 y k2 w' rfl (by rw [List.map_append]; exact e2) e3 e4 e5
end Go.Proofs.YtcenebjdhbdejaaGreatDoor

namespace Go.Proofs.YtcenebjdhbdejaaGreatDoor
open Go.MapKept
variable {P : Program}
theorem set_heap {w : World} {b o : Nat} {c : Array Value} {T : TypeId} {fr : Nat × Nat} (h : w.heap[b]? = some (.cells c T fr)) (v : Value) :
    (w.setCell ⟨b, o, none⟩ v).heap[b]? = some (.cells (c.setIfInBounds o v) T fr) := by
  simp [World.setCell, Array.getElem?_modify, h]
theorem set5 {w : World} {b : Nat} {c0 c1 c2 c3 c4 : Value} {T : TypeId} {fr : Nat × Nat} (h : w.heap[b]? = some (.cells #[c0, c1, c2, c3, c4] T fr)) (v0 v1 v2 v3 v4 : Value) :
    (((((w.setCell ⟨b, 0, none⟩ v0).setCell ⟨b, 1, none⟩ v1).setCell ⟨b, 2, none⟩ v2).setCell ⟨b, 3, none⟩ v3).setCell ⟨b, 4, none⟩ v4).heap[b]? = some (.cells #[v0, v1, v2, v3, v4] T fr) :=
  set_heap (set_heap (set_heap (set_heap (set_heap h v0) v1) v2) v3) v4
theorem alloc_heap {w : World} {b : Nat} {o : Obj} (h : w.heap[b]? = some o) (o' : Obj) : (w.alloc o').heap[b]? = some o := by
  rw [(heap_alloc w o').2 b (Array.getElem?_eq_some_iff.1 h).1]; exact h
/-- results: a variable in memory, and one in a slot -/
theorem results_cell_tmp {fn : Func} {p q : Tmp} {ty : TypeId} (h : fn.results = #[.cell p ty, .tmp q]) {tmps : Array Value} {w : World} {g : Nat} {t : TypeId} {cs : Array Value} {fr : Nat × Nat} {d : TypeDesc}
    (hp : tmps.getD p undef = .pointer (some ⟨g, 0, none⟩)) (hg : w.heap[g]? = some (.cells cs t fr))
    (hu : P.underlying ty = some d) (hd : (match d with | .struct _ | .array _ _ => true | _ => false) = true) (hi : (P.info? ty).map (·.size) = some cs.size) {v : Value} (hv : tmps.getD q undef = v) :
    (results fn tmps).run P w = .ok (.tuple #[.agg cs, v]) w := by
  have hp' : tmps[p]?.getD undef = .pointer (some ⟨g, 0, none⟩) := by simpa using hp
  have hv' : tmps[q]?.getD undef = v := by simpa using hv
  simp [results, h, hp', hv', asAddr, run_loadVar_row w g t ty cs fr d hg hu hd hi]
end Go.Proofs.YtcenebjdhbdejaaGreatDoor

namespace Go.Proofs.YtcenebjdhbdejaaGreatDoor
theorem Ext.setN {S : Nat → Prop} {w w' : World} (h : Ext S w w') {b o : Nat} (hb : w.heap.size ≤ b) (v : Value) : Ext S w (w'.setCell ⟨b, o, none⟩ v) :=
  h.setCell _ _ (fun hlt => absurd hlt (by simp; exact hb))
theorem Ext.set5 {S : Nat → Prop} {w w' : World} (h : Ext S w w') {b : Nat} (hb : w.heap.size ≤ b) (v0 v1 v2 v3 v4 : Value) :
    Ext S w (((((w'.setCell ⟨b, 0, none⟩ v0).setCell ⟨b, 1, none⟩ v1).setCell ⟨b, 2, none⟩ v2).setCell ⟨b, 3, none⟩ v3).setCell ⟨b, 4, none⟩ v4) :=
  ((((h.setN hb v0).setN hb v1).setN hb v2).setN hb v3).setN hb v4
end Go.Proofs.YtcenebjdhbdejaaGreatDoor

namespace Go.Proofs.YtcenebjdhbdejaaGreatDoor
open Go.MapKept

theorem U2 : Tryz.prog.underlying 2 = some (.int .i64) := by kernel_rfl
theorem U146 : Tryz.prog.underlying 146 = some (.map 2 2) := by kernel_rfl
theorem U147 : Tryz.prog.underlying 147 = some (.map 2 213) := by kernel_rfl
theorem U105 : Tryz.prog.underlying 105 = some (.map 2 107) := by kernel_rfl
theorem U107 : Tryz.prog.underlying 107 = some (.map 2 97) := by kernel_rfl
theorem K2 : KeyT Tryz.prog 2 kI := keyT_i64 U2
theorem Z2 (w : World) : (zeroValue 2).run Tryz.prog w = .ok (.int .i64 0) w := by kernel_rfl
theorem Z213 (w : World) : (zeroValue 213).run Tryz.prog w = .ok (.agg #[.map none, .int .i64 0]) w := by kernel_rfl
theorem Z97 (w : World) : (zeroValue 97).run Tryz.prog w = .ok (.agg #[.int .i64 0, .int .i64 0, .map none, .int .i64 0, .nilIface]) w := by kernel_rfl
theorem Z107 (w : World) : (zeroValue 107).run Tryz.prog w = .ok (.map none) w := by kernel_rfl

/-- An error of the package, by its number. -/
abbrev errv (p : Nat → Addr) (i : Nat) : Value := .iface 185 (.pointer (some (p i)))

/-- The six variables hold six errors, each its own. -/
structure Sent (w : World) (p : Nat → Addr) : Prop where
  c0 : w.cell? ⟨0, 0, none⟩ = some (errv p 0)
  c1 : w.cell? ⟨1, 0, none⟩ = some (errv p 1)
  c2 : w.cell? ⟨2, 0, none⟩ = some (errv p 2)
  c3 : w.cell? ⟨3, 0, none⟩ = some (errv p 3)
  c4 : w.cell? ⟨4, 0, none⟩ = some (errv p 4)
  c5 : w.cell? ⟨5, 0, none⟩ = some (errv p 5)
  row : ∀ i, i < 6 → ∃ cs T, w.heap[(p i).block]? = some (.cells cs T (0, 0))
  inj : ∀ i j, i < 6 → j < 6 → p i = p j → i = j

/-- from block B on lies what the call itself has made: the variables and their errors lie below -/
def Below6 (B : Nat) (p : Nat → Addr) : Prop := 6 ≤ B ∧ ∀ i, i < 6 → (p i).block < B

theorem Sent.ext {S : Nat → Prop} {w w' : World} {p : Nat → Addr} {B : Nat} (h : Sent w p) (hB : Below6 B p) (he : Ext S w w') (hS : ∀ c, S c → B ≤ c) : Sent w' p := by
  have k : ∀ i, i < 6 → ¬ S i := fun i hi hs => by have := hS i hs; have := hB.1; omega
  refine ⟨he.cellv h.c0 (k 0 (by omega)), he.cellv h.c1 (k 1 (by omega)), he.cellv h.c2 (k 2 (by omega)), he.cellv h.c3 (k 3 (by omega)), he.cellv h.c4 (k 4 (by omega)), he.cellv h.c5 (k 5 (by omega)), fun i hi => ?_, h.inj⟩
  obtain ⟨cs, T, hc⟩ := h.row i hi
  exact ⟨cs, T, he.obj hc fun hs => by have := hS _ hs; have := hB.2 i hi; omega⟩

/-- The address of a store: its block, and its four maps. -/
structure Ad where
  s : Nat
  bv : Nat
  bp : Nat
  bo : Nat
  bi : Nat

structure EdgeR where
  src : Int
  dst : Int
  wt : Int
  att : Nat

abbrev EdgeR.val (e : EdgeR) : Value := .agg #[kI e.src, kI e.dst, .map (some e.att), .int .i64 e.wt, .nilIface]
abbrev vp (a : Nat) : Value := .agg #[.map (some a), .int .i64 0]

/-- A store's content: vertices (each with the block of its attributes), edges, and the blocks of the inner maps. -/
structure St where
  V : List (Int × Nat)
  E : List EdgeR
  O : List (Int × Nat)
  I : List (Int × Nat)

def outOf (E : List EdgeR) (a : Int) : List (Int × Value) := (E.filter (fun e => e.src == a)).map (fun e => (e.dst, e.val))
def inOf (E : List EdgeR) (a : Int) : List (Int × Value) := (E.filter (fun e => e.dst == a)).map (fun e => (e.src, e.val))

def St.blocks (σ : St) (A : Ad) : List Nat := A.s :: A.bv :: A.bp :: A.bo :: A.bi :: (σ.O.map (·.2) ++ σ.I.map (·.2))
def St.atts (σ : St) : List Nat := σ.V.map (·.2) ++ σ.E.map (·.att)

structure Store (w : World) (A : Ad) (σ : St) : Prop where
  row : w.heap[A.s]? = some (.cells #[.map (some A.bv), .map (some A.bp), .map (some A.bo), .map (some A.bi)] 149 (0, 0))
  vm : MapI kI w A.bv (σ.V.map fun v => (v.1, kI v.1))
  pm : MapI kI w A.bp (σ.V.map fun v => (v.1, vp v.2))
  om : MapI kI w A.bo (σ.O.map fun o => (o.1, .map (some o.2)))
  im : MapI kI w A.bi (σ.I.map fun o => (o.1, .map (some o.2)))
  outs : ∀ o ∈ σ.O, MapI kI w o.2 (outOf σ.E o.1)
  ins : ∀ o ∈ σ.I, MapI kI w o.2 (inOf σ.E o.1)
  outk : ∀ e ∈ σ.E, ∃ b, (e.src, b) ∈ σ.O
  ink : ∀ e ∈ σ.E, ∃ b, (e.dst, b) ∈ σ.I
  ends : ∀ e ∈ σ.E, (∃ a, (e.src, a) ∈ σ.V) ∧ ∃ a, (e.dst, a) ∈ σ.V
  att : ∀ b ∈ σ.atts, w.heap[b]? = some (.map #[] 0)
  nd : (σ.blocks A).Nodup
  apart : ∀ b ∈ σ.atts, b ∉ σ.blocks A

/-- all blocks of a store -/
def St.foot (σ : St) (A : Ad) (c : Nat) : Prop := c ∈ σ.blocks A ∨ c ∈ σ.atts

section
variable {w w' : World} {A : Ad} {σ : St} {S : Nat → Prop}

theorem Store.ext (h : Store w A σ) (he : Ext S w w') (hS : ∀ c, σ.foot A c → ¬ S c) : Store w' A σ where
  row := he.obj h.row (hS _ (Or.inl (by simp [St.blocks])))
  vm := h.vm.ext he (hS _ (Or.inl (by simp [St.blocks])))
  pm := h.pm.ext he (hS _ (Or.inl (by simp [St.blocks])))
  om := h.om.ext he (hS _ (Or.inl (by simp [St.blocks])))
  im := h.im.ext he (hS _ (Or.inl (by simp [St.blocks])))
  outs := fun o ho => (h.outs o ho).ext he (hS _ (Or.inl (by
    simp only [St.blocks, List.mem_cons, List.mem_append, List.mem_map]; right; right; right; right; right; left; exact ⟨o, ho, rfl⟩)))
  ins := fun o ho => (h.ins o ho).ext he (hS _ (Or.inl (by
    simp only [St.blocks, List.mem_cons, List.mem_append, List.mem_map]; right; right; right; right; right; right; exact ⟨o, ho, rfl⟩)))
  outk := h.outk
  ink := h.ink
  ends := h.ends
  att := fun b hb => he.obj (h.att b hb) (hS _ (Or.inr hb))
  nd := h.nd
  apart := h.apart

theorem Store.c0 (h : Store w A σ) : w.cell? ⟨A.s, 0, none⟩ = some (.map (some A.bv)) := by simp [World.cell?, h.row]
theorem Store.c1 (h : Store w A σ) : w.cell? ⟨A.s, 1, none⟩ = some (.map (some A.bp)) := by simp [World.cell?, h.row]
theorem Store.c2 (h : Store w A σ) : w.cell? ⟨A.s, 2, none⟩ = some (.map (some A.bo)) := by simp [World.cell?, h.row]
theorem Store.c3 (h : Store w A σ) : w.cell? ⟨A.s, 3, none⟩ = some (.map (some A.bi)) := by simp [World.cell?, h.row]
theorem Store.lt (h : Store w A σ) : A.s < w.heap.size := (Array.getElem?_eq_some_iff.1 h.row).1

theorem keys_map {β : Type} (f : Int × β → Value) (l : List (Int × β)) : (l.map fun v => (v.1, f v)).map (·.1) = l.map (·.1) := by
  simp [Function.comp_def]
theorem Store.keys (h : Store w A σ) : (σ.V.map (·.1)).Nodup := by have := h.vm.nodup; rwa [keys_map (fun v => kI v.1)] at this
theorem Store.okeys (h : Store w A σ) : (σ.O.map (·.1)).Nodup := by have := h.om.nodup; rwa [keys_map (fun v => Value.map (some v.2))] at this
theorem Store.ikeys (h : Store w A σ) : (σ.I.map (·.1)).Nodup := by have := h.im.nodup; rwa [keys_map (fun v => Value.map (some v.2))] at this
end

theorem lookup_mem {β : Type} {f : Int × β → Value} {l : List (Int × β)} (hn : (l.map (·.1)).Nodup) {k : Int} {b : β} (hm : (k, b) ∈ l) : (l.map fun v => (v.1, f v)).lookup k = some (f (k, b)) := by
  induction l with
  | nil => simp at hm
  | cons p l ih =>
    simp only [List.map_cons, List.nodup_cons] at hn
    rcases List.mem_cons.1 hm with rfl | hm
    · simp
    · have hne : (k == p.1) = false := by
        simp only [beq_eq_false_iff_ne, ne_eq]
        intro e
        exact hn.1 (List.mem_map.2 ⟨_, hm, e⟩)
      simp [List.lookup, hne, ih hn.2 hm]
theorem lookup_not {β : Type} {f : Int × β → Value} {l : List (Int × β)} {k : Int} (hm : ∀ b, (k, b) ∉ l) : (l.map fun v => (v.1, f v)).lookup k = none := by
  induction l with
  | nil => rfl
  | cons p l ih =>
    have hne : (k == p.1) = false := by
      simp only [beq_eq_false_iff_ne, ne_eq]
      intro e
      exact hm p.2 (by rw [e]; exact List.mem_cons_self)
    simp only [List.map_cons, List.lookup, hne]
    exact ih fun b hb => hm b (List.mem_cons_of_mem _ hb)

end Go.Proofs.YtcenebjdhbdejaaGreatDoor
