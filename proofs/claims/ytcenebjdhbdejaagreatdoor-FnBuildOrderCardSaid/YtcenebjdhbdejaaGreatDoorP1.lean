/- The graph as lists, in the program: has, at, walked. -/
import Derived.Test.YtcenebjdhbdejaaGreatDoorR1
import Derived.Test.YtcenebjdhbdejaaGreatDoorC1
namespace Go.Proofs.YtcenebjdhbdejaaGreatDoor
open Go.MapKept

/-- A graph as lists, in memory. -/
structure Mo (w : World) (N mm : Nat) (dir prev : Bool) (s : PS) (vs es : Value) : Prop where
  row : w.heap[mm]? = some (.cells #[.bool dir, .bool prev, vs, es] 29 (0, 0))
  V : w.ownsRow N 2 1 vs s.V.length (s.V.flatMap oneC)
  E : w.ownsRow N 48 3 es s.E.length (s.E.flatMap triC)

theorem cells4 {w : World} {b : Nat} {c0 c1 c2 c3 : Value} {T : TypeId} (h : w.heap[b]? = some (.cells #[c0, c1, c2, c3] T (0, 0))) :
    w.cell? ⟨b, 0, none⟩ = some c0 ∧ w.cell? ⟨b, 1, none⟩ = some c1 ∧ w.cell? ⟨b, 2, none⟩ = some c2 ∧ w.cell? ⟨b, 3, none⟩ = some c3 ∧
    w.frozen? ⟨b, 0, none⟩ = false ∧ w.frozen? ⟨b, 1, none⟩ = false ∧ w.frozen? ⟨b, 2, none⟩ = false ∧ w.frozen? ⟨b, 3, none⟩ = false := by
  simp [World.cell?, World.frozen?, h]

theorem Mo.ext {S : Nat → Prop} {w w' : World} {N mm : Nat} {dir prev : Bool} {s : PS} {vs es : Value} (h : Mo w N mm dir prev s vs es) (he : Ext S w w') (h0 : ¬ S mm) (h1 : ∀ c, vs.ownBlock = some c → ¬ S c) (h2 : ∀ c, es.ownBlock = some c → ¬ S c) : Mo w' N mm dir prev s vs es :=
  ⟨he.obj h.row h0, ownsRow_ext h.V he h1, ownsRow_ext h.E he h2⟩
theorem Mo.no {w w' : World} {N mm : Nat} {dir prev : Bool} {s : PS} {vs es : Value} (h : Mo w N mm dir prev s vs es) (he : Ext No w w') : Mo w' N mm dir prev s vs es := h.ext he id (fun _ _ h => h) (fun _ _ h => h)

def HR' (V : List Int) (v : Int) (k : Nat) (x : Value) (w0 wr : World) : Prop := ∃ i : Nat, x = .int .i64 i ∧ i + k = V.length ∧ (∀ j, ∀ h : j < V.length, j < i → V[j] ≠ v) ∧ wr = w0

set_option maxRecDepth 100000 in
set_option maxHeartbeats 400000 in
theorem has_run {w : World} {N mm : Nat} {dir prev : Bool} {s : PS} {vs es : Value} {v : Int} (h : Mo w N mm dir prev s vs es) (hl : s.V.length < 1000000) :
    Calls Tryz.prog 26 #[.pointer (some ⟨mm, 0, none⟩), kI v] w fun r w' => r = .returned (.bool (decide (v ∈ s.V))) ∧ w' = w := by
  obtain ⟨x0, x1, x2, x3, -⟩ := cells4 h.row
  have l0 := World.block_lt_of_cell? _ _ x0
  obtain ⟨q, cap, rfl, -⟩ := own_read (f := oneC) (fun _ => rfl) h.V
  have HV := Lib.hid h.V
  have HL := Lib.hid hl
  clear h hl
  go_enter Tryz.func26, Tryz.ntmps26
  go_wp2_with fail
  go_loopg [12] s.V.length (fun k x wr => HR' s.V v k x w wr)
  case atStart => exact ⟨0, rfl, by simp, fun j _ h => by omega, rfl⟩
  case round =>
    obtain ⟨i, rfl, hk, hn, rfl⟩ := hrel
    by_cases hlt : i < s.V.length
    · obtain ⟨g, rfl, hg, hc⟩ := own_at (f := oneC) (fun _ => rfl) HV.out hlt
      have hx : wr.cell? ⟨g, i, none⟩ = some (kI (s.V[i]'hlt)) := by have := hc 0 (by decide); simpa using this
      have hlt' : (i : Int) < (s.V.length : Int) := by omega
      have HK := Lib.hid (And.intro hk hn)
      clear hk hn hc
      by_cases hv : s.V[i]'hlt = v
      · have HM : RowKit.Hid (decide (v ∈ s.V) = true) := Lib.hid (by simp; rw [← hv]; exact List.getElem_mem hlt)
        rw [hv] at hx
        go_wp2
        go_ret
        rw [HM.out]
        exact ⟨rfl, rfl⟩
      · have hvb : ((s.V[i]'hlt) == v) = false := by simpa using hv
        go_wp2
        go_roundg (s.V.length - (i + 1))
        case measure => have := HK.out.1; omega
        case rel =>
          refine ⟨i + 1, by rw [w64 (by have := HL.out; omega)], by omega, fun j hj hji => ?_, rfl⟩
          by_cases e : j = i
          · subst e; exact hv
          · exact HK.out.2 j hj (by omega)
    · have hnlt : ¬ (i : Int) < (s.V.length : Int) := by omega
      have HM : RowKit.Hid (decide (v ∈ s.V) = false) := by
        refine Lib.hid ?_
        simp only [decide_eq_false_iff_not]
        intro hm
        obtain ⟨j, hj, he⟩ := List.mem_iff_getElem.1 hm
        exact hn j hj (by omega) he
      clear hk hn
      go_wp2
      go_ret
      rw [HM.out]
      exact ⟨rfl, rfl⟩

/-- the edge e joins a and b -/
def joins (dir : Bool) (e : Tri) (a b : Int) : Bool := (e.1 == a && e.2.1 == b) || (!dir && (e.1 == b) && (e.2.1 == a))

theorem hasE_any {dir : Bool} {E : List Tri} {a b : Int} : hasE dir E a b ↔ ∃ e ∈ E, joins dir e a b = true := by
  unfold hasE joins
  cases dir <;> simp

def AR (dir : Bool) (E : List Tri) (a b : Int) (k : Nat) (x : Value) (w0 wr : World) : Prop := ∃ i : Nat, x = .int .i64 i ∧ i + k = E.length ∧ (∀ j, ∀ h : j < E.length, j < i → joins dir E[j] a b = false) ∧ Ext No w0 wr

/-- where 'at' finds an edge -/
def AtR (dir : Bool) (E : List Tri) (a b : Int) (n : Int) : Prop :=
  (n = -1 ∧ ∀ e ∈ E, joins dir e a b = false) ∨ ∃ i : Nat, n = i ∧ ∃ h : i < E.length, joins dir E[i] a b = true ∧ ∀ j, ∀ h : j < E.length, j < i → joins dir E[j] a b = false

theorem AR.next {dir : Bool} {E : List Tri} {a b : Int} {i k : Nat} {w0 wr wn : World} (hl : E.length < 1000000) (hlt : i < E.length) (h : i + k = E.length ∧ (∀ j, ∀ h : j < E.length, j < i → joins dir E[j] a b = false) ∧ Ext No w0 wr) (hj : joins dir E[i] a b = false) (he : Ext No wr wn) :
    AR dir E a b (E.length - (i + 1)) (.int .i64 (RowKit.wrap64 ((i : Int) + 1))) w0 wn := by
  refine ⟨i + 1, by rw [w64 (by omega)], by omega, fun j hj2 hji => ?_, h.2.2.trans he⟩
  by_cases e : j = i
  · subst e; exact hj
  · exact h.2.1 j hj2 (by omega)

set_option maxRecDepth 100000 in
set_option maxHeartbeats 1000000 in
theorem at_run {w : World} {N mm : Nat} {dir prev : Bool} {s : PS} {vs es : Value} {a b : Int} (h : Mo w N mm dir prev s vs es) (hl : s.E.length < 1000000) :
    Calls Tryz.prog 25 #[.pointer (some ⟨mm, 0, none⟩), kI a, kI b] w fun r w' => ∃ n, r = .returned (.int .i64 n) ∧ AtR dir s.E a b n ∧ Ext No w w' := by
  obtain ⟨x0, x1, x2, x3, -⟩ := cells4 h.row
  have l0 := World.block_lt_of_cell? _ _ x0
  obtain ⟨q, cap, rfl, -⟩ := own_read (f := triC) (fun _ => rfl) h.E
  have HV := Lib.hid h
  have HL := Lib.hid hl
  clear h hl
  go_enter Tryz.func25, Tryz.ntmps25
  go_wp2_with fail
  clear x0 x1 x2 x3 l0
  go_loopg [14] s.E.length (fun k x wr => AR dir s.E a b k x w wr)
  case atStart => exact ⟨0, rfl, by simp, fun j _ h => by omega, Ext.refl _ _⟩
  case round =>
    obtain ⟨i, rfl, hk, hn, he⟩ := hrel
    by_cases hlt : i < s.E.length
    · have hM := HV.out.no he
      obtain ⟨x0, x1, x2, x3, -⟩ := cells4 hM.row
      have l0 := World.block_lt_of_cell? _ _ x0
      obtain ⟨g, rfl, hg, hc⟩ := own_at (f := triC) (fun _ => rfl) hM.E hlt
      have c0 : wr.cell? ⟨g, i * 3, none⟩ = some (kI (s.E[i]'hlt).1) := hc 0 (by decide)
      have c1 : wr.cell? ⟨g, i * 3 + 1, none⟩ = some (kI (s.E[i]'hlt).2.1) := hc 1 (by decide)
      have c2 : wr.cell? ⟨g, i * 3 + 2, none⟩ = some (.int .i64 (s.E[i]'hlt).2.2) := hc 2 (by decide)
      have hlt' : (i : Int) < (s.E.length : Int) := by omega
      have HK := Lib.hid (And.intro hk (And.intro hn he))
      clear hk hn hc hM he
      have hcs : ((s.E[i]'hlt).1 == a) = true ∧ ((s.E[i]'hlt).2.1 == b) = true ∨ ((s.E[i]'hlt).1 == a) = false ∨ ((s.E[i]'hlt).1 == a) = true ∧ ((s.E[i]'hlt).2.1 == b) = false := by
        cases ((s.E[i]'hlt).1 == a) <;> cases ((s.E[i]'hlt).2.1 == b) <;> simp
      have hcs2 : ((s.E[i]'hlt).1 == b) = true ∧ ((s.E[i]'hlt).2.1 == a) = true ∨ ((s.E[i]'hlt).1 == b) = false ∨ ((s.E[i]'hlt).1 == b) = true ∧ ((s.E[i]'hlt).2.1 == a) = false := by
        cases ((s.E[i]'hlt).1 == b) <;> cases ((s.E[i]'hlt).2.1 == a) <;> simp
      have HC2 := Lib.hid hcs2
      clear hcs2
      rcases hcs with ⟨h1, h2⟩ | h1 | ⟨h1, h2⟩
      · go_wp2
        go_ret
        exact ⟨i, rfl, Or.inr ⟨i, rfl, hlt, by simp [joins, *], HK.out.2.1⟩, HK.out.2.2.alloc _⟩
      · cases dir with
        | true =>
          go_wp2
          go_roundg (s.E.length - (i + 1))
          case measure => have := HK.out.1; omega
          case rel => exact AR.next (HL.out) hlt HK.out (by simp [joins, *]) ((Ext.refl _ _).alloc _)
        | false =>
          rcases HC2.out with ⟨h3, h4⟩ | h3 | ⟨h3, h4⟩
          · go_wp2
            go_ret
            exact ⟨i, rfl, Or.inr ⟨i, rfl, hlt, by simp [joins, *], HK.out.2.1⟩, HK.out.2.2.alloc _⟩
          · go_wp2
            go_roundg (s.E.length - (i + 1))
            case measure => have := HK.out.1; omega
            case rel => exact AR.next (HL.out) hlt HK.out (by simp [joins, *]) ((Ext.refl _ _).alloc _)
          · go_wp2
            go_roundg (s.E.length - (i + 1))
            case measure => have := HK.out.1; omega
            case rel => exact AR.next (HL.out) hlt HK.out (by simp [joins, *]) ((Ext.refl _ _).alloc _)
      · cases dir with
        | true =>
          go_wp2
          go_roundg (s.E.length - (i + 1))
          case measure => have := HK.out.1; omega
          case rel => exact AR.next (HL.out) hlt HK.out (by simp [joins, *]) ((Ext.refl _ _).alloc _)
        | false =>
          rcases HC2.out with ⟨h3, h4⟩ | h3 | ⟨h3, h4⟩
          · go_wp2
            go_ret
            exact ⟨i, rfl, Or.inr ⟨i, rfl, hlt, by simp [joins, *], HK.out.2.1⟩, HK.out.2.2.alloc _⟩
          · go_wp2
            go_roundg (s.E.length - (i + 1))
            case measure => have := HK.out.1; omega
            case rel => exact AR.next (HL.out) hlt HK.out (by simp [joins, *]) ((Ext.refl _ _).alloc _)
          · go_wp2
            go_roundg (s.E.length - (i + 1))
            case measure => have := HK.out.1; omega
            case rel => exact AR.next (HL.out) hlt HK.out (by simp [joins, *]) ((Ext.refl _ _).alloc _)
    · have hnlt : ¬ (i : Int) < (s.E.length : Int) := by omega
      have HK := Lib.hid (And.intro hk (And.intro hn he))
      clear hk hn he
      go_wp2
      go_ret
      refine ⟨-1, rfl, Or.inl ⟨rfl, fun e hm => ?_⟩, HK.out.2.2⟩
      obtain ⟨j, hj, rfl⟩ := List.mem_iff_getElem.1 hm
      exact HK.out.2.1 j hj (by omega)
end Go.Proofs.YtcenebjdhbdejaaGreatDoor
