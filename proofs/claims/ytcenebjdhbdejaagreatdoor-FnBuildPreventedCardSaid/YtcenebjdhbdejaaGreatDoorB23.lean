/- The graph as lists, in the program: has, at, walked. The graph as lists, in the program: Do, AddVertex: walked. Sorting by insertion: plain. No program in sight. The graph as lists, in the program: Risen, walked. A slice of elements of three cells: one element stored anew. The graph as lists, in the program: ByEnds, walked. The graph as lists, in the program: Both, walked. The graph as lists, in the program: Do, the two maps: walked. -/
import Derived.Test.YtcenebjdhbdejaaGreatDoorB18
import Derived.Test.YtcenebjdhbdejaaGreatDoorB22
import Derived.Test.YtcenebjdhbdejaaGreatDoorB06
import Derived.Test.YtcenebjdhbdejaaGreatDoorB17
import Derived.Sort.Statements
import Derived.Deep.RegionHeld3
namespace Go.Proofs.YtcenebjdhbdejaaGreatDoor
open Go.MapKept

/-- A graph as lists, in memory. -/
structure Mo (w : World) (N mm : Nat) (dir prev : Bool) (s : PS) (vs es : Value) : Prop where
  row : w.heap[mm]? = some (.cells #[.bool dir, .bool prev, vs, es] 29 (0, 0))
  V : w.ownsRow N 2 1 vs s.V.length (s.V.flatMap oneC)
  E : w.ownsRow N 48 3 es s.E.length (s.E.flatMap triC)

theorem cells4 {w : World} {b : Nat} {c0 c1 c2 c3 : Value} {T : TypeId} (h : w.heap[b]? = some (.cells #[c0, c1, c2, c3] T (0, 0))) :
    w.cell? ⟨b, 0, none⟩ = some c0 ∧ w.cell? ⟨b, 1, none⟩ = some c1 ∧ w.cell? ⟨b, 2, none⟩ = some c2 ∧ w.cell? ⟨b, 3, none⟩ = some c3 ∧
    w.frozen? ⟨b, 0, none⟩ = false ∧ w.frozen? ⟨b, 1, none⟩ = false ∧ w.frozen? ⟨b, 2, none⟩ = false ∧ w.frozen? ⟨b, 3, none⟩ = false := by
  simp [World.cell?, World.frozen?, h]

theorem Mo.ext {S : Nat → Prop} {w w' : World} {N mm : Nat} {dir prev : Bool} {s : PS} {vs es : Value} (h : Mo w N mm dir prev s vs es) (he : Ext S w w') (h0 : ¬ S mm) (h1 : ∀ c, vs.ownBlock = some c → ¬ S c) (h2 : ∀ c, es.ownBlock = some c → ¬ S c) : Mo w' N mm dir prev s vs es :=
  ⟨he.obj h.row h0, ownsRow_ext h.V he h1, ownsRow_ext h.E he h2⟩
theorem Mo.no {w w' : World} {N mm : Nat} {dir prev : Bool} {s : PS} {vs es : Value} (h : Mo w N mm dir prev s vs es) (he : Ext No w w') : Mo w' N mm dir prev s vs es := h.ext he id (fun _ _ h => h) (fun _ _ h => h)

def HR' (V : List Int) (v : Int) (k : Nat) (x : Value) (w0 wr : World) : Prop := ∃ i : Nat, x = .int .i64 i ∧ i + k = V.length ∧ (∀ j, ∀ h : j < V.length, j < i → V[j] ≠ v) ∧ wr = w0

set_option maxRecDepth 100000 in
set_option maxHeartbeats 400000 in
theorem has_run {w : World} {N mm : Nat} {dir prev : Bool} {s : PS} {vs es : Value} {v : Int} (h : Mo w N mm dir prev s vs es) (hl : s.V.length < 1000000) :
    Calls Tryz.prog 26 #[.pointer (some ⟨mm, 0, none⟩), kI v] w fun r w' => r = .returned (.bool (decide (v ∈ s.V))) ∧ w' = w := by
  obtain ⟨x0, x1, x2, x3, -⟩ := cells4 h.row
  have l0 := World.block_lt_of_cell? _ _ x0
  obtain ⟨q, cap, rfl, -⟩ := own_read (f := oneC) (fun _ => rfl) h.V
  have HV := Lib.hid h.V
  have HL := Lib.hid hl
  clear h hl
  go_enter Tryz.func26, Tryz.ntmps26
  go_wp2_with fail
  go_loopg [12] s.V.length (fun k x wr => HR' s.V v k x w wr)
  case atStart => exact ⟨0, rfl, by simp, fun j _ h => by omega, rfl⟩
  case round =>
    obtain ⟨i, rfl, hk, hn, rfl⟩ := hrel
    by_cases hlt : i < s.V.length
    · obtain ⟨g, rfl, hg, hc⟩ := own_at (f := oneC) (fun _ => rfl) HV.out hlt
      have hx : wr.cell? ⟨g, i, none⟩ = some (kI (s.V[i]'hlt)) := by have := hc 0 (by decide); simpa using this
      have hlt' : (i : Int) < (s.V.length : Int) := by omega
      have HK := Lib.hid (And.intro hk hn)
      clear hk hn hc
      by_cases hv : s.V[i]'hlt = v
      · have HM : RowKit.Hid (decide (v ∈ s.V) = true) := Lib.hid (by simp; rw [← hv]; exact List.getElem_mem hlt)
        rw [hv] at hx
        go_wp2
        go_ret
        rw [HM.out]
        exact ⟨rfl, rfl⟩
      · have hvb : ((s.V[i]'hlt) == v) = false := by simpa using hv
        go_wp2
        go_roundg (s.V.length - (i + 1))
        case measure => have := HK.out.1; omega
        case rel =>
          refine ⟨i + 1, by rw [w64 (by have := HL.out; omega)], by omega, fun j hj hji => ?_, rfl⟩
          by_cases e : j = i
          · subst e; exact hv
          · exact HK.out.2 j hj (by omega)
    · have hnlt : ¬ (i : Int) < (s.V.length : Int) := by omega
      have HM : RowKit.Hid (decide (v ∈ s.V) = false) := by
        refine Lib.hid ?_
        simp only [decide_eq_false_iff_not]
        intro hm
        obtain ⟨j, hj, he⟩ := List.mem_iff_getElem.1 hm
        exact hn j hj (by omega) he
      clear hk hn
      go_wp2
      go_ret
      rw [HM.out]
      exact ⟨rfl, rfl⟩

/-- the edge e joins a and b -/
def joins (dir : Bool) (e : Tri) (a b : Int) : Bool := (e.1 == a && e.2.1 == b) || (!dir && (e.1 == b) && (e.2.1 == a))

theorem hasE_any {dir : Bool} {E : List Tri} {a b : Int} : hasE dir E a b ↔ ∃ e ∈ E, joins dir e a b = true := by
  unfold hasE joins
  cases dir <;> simp

def AR (dir : Bool) (E : List Tri) (a b : Int) (k : Nat) (x : Value) (w0 wr : World) : Prop := ∃ i : Nat, x = .int .i64 i ∧ i + k = E.length ∧ (∀ j, ∀ h : j < E.length, j < i → joins dir E[j] a b = false) ∧ Ext No w0 wr

/-- where 'at' finds an edge -/
def AtR (dir : Bool) (E : List Tri) (a b : Int) (n : Int) : Prop :=
  (n = -1 ∧ ∀ e ∈ E, joins dir e a b = false) ∨ ∃ i : Nat, n = i ∧ ∃ h : i < E.length, joins dir E[i] a b = true ∧ ∀ j, ∀ h : j < E.length, j < i → joins dir E[j] a b = false

theorem AR.next {dir : Bool} {E : List Tri} {a b : Int} {i k : Nat} {w0 wr wn : World} (hl : E.length < 1000000) (hlt : i < E.length) (h : i + k = E.length ∧ (∀ j, ∀ h : j < E.length, j < i → joins dir E[j] a b = false) ∧ Ext No w0 wr) (hj : joins dir E[i] a b = false) (he : Ext No wr wn) :
    AR dir E a b (E.length - (i + 1)) (.int .i64 (RowKit.wrap64 ((i : Int) + 1))) w0 wn := by
  refine ⟨i + 1, by rw [w64 (by omega)], by omega, fun j hj2 hji => ?_, h.2.2.trans he⟩
  by_cases e : j = i
  · subst e; exact hj
  · exact h.2.1 j hj2 (by omega)

set_option maxRecDepth 100000 in
set_option maxHeartbeats 1000000 in
theorem at_run {w : World} {N mm : Nat} {dir prev : Bool} {s : PS} {vs es : Value} {a b : Int} (h : Mo w N mm dir prev s vs es) (hl : s.E.length < 1000000) :
    Calls Tryz.prog 25 #[.pointer (some ⟨mm, 0, none⟩), kI a, kI b] w fun r w' => ∃ n, r = .returned (.int .i64 n) ∧ AtR dir s.E a b n ∧ Ext No w w' := by
  obtain ⟨x0, x1, x2, x3, -⟩ := cells4 h.row
  have l0 := World.block_lt_of_cell? _ _ x0
  obtain ⟨q, cap, rfl, -⟩ := own_read (f := triC) (fun _ => rfl) h.E
  have HV := Lib.hid h
  have HL := Lib.hid hl
  clear h hl
  go_enter Tryz.func25, Tryz.ntmps25
  go_wp2_with fail
  clear x0 x1 x2 x3 l0
  go_loopg [14] s.E.length (fun k x wr => AR dir s.E a b k x w wr)
  case atStart => exact ⟨0, rfl, by simp, fun j _ h => by omega, Ext.refl _ _⟩
  case round =>
    obtain ⟨i, rfl, hk, hn, he⟩ := hrel
    by_cases hlt : i < s.E.length
    · have hM := HV.out.no he
      obtain ⟨x0, x1, x2, x3, -⟩ := cells4 hM.row
      have l0 := World.block_lt_of_cell? _ _ x0
      obtain ⟨g, rfl, hg, hc⟩ := own_at (f := triC) (fun _ => rfl) hM.E hlt
      have c0 : wr.cell? ⟨g, i * 3, none⟩ = some (kI (s.E[i]'hlt).1) := hc 0 (by decide)
      have c1 : wr.cell? ⟨g, i * 3 + 1, none⟩ = some (kI (s.E[i]'hlt).2.1) := hc 1 (by decide)
      have c2 : wr.cell? ⟨g, i * 3 + 2, none⟩ = some (.int .i64 (s.E[i]'hlt).2.2) := hc 2 (by decide)
      have hlt' : (i : Int) < (s.E.length : Int) := by omega
      have HK := Lib.hid (And.intro hk (And.intro hn he))
      clear hk hn hc hM he
      have hcs : ((s.E[i]'hlt).1 == a) = true ∧ ((s.E[i]'hlt).2.1 == b) = true ∨ ((s.E[i]'hlt).1 == a) = false ∨ ((s.E[i]'hlt).1 == a) = true ∧ ((s.E[i]'hlt).2.1 == b) = false := by
        cases ((s.E[i]'hlt).1 == a) <;> cases ((s.E[i]'hlt).2.1 == b) <;> simp
      have hcs2 : ((s.E[i]'hlt).1 == b) = true ∧ ((s.E[i]'hlt).2.1 == a) = true ∨ ((s.E[i]'hlt).1 == b) = false ∨ ((s.E[i]'hlt).1 == b) = true ∧ ((s.E[i]'hlt).2.1 == a) = false := by
        cases ((s.E[i]'hlt).1 == b) <;> cases ((s.E[i]'hlt).2.1 == a) <;> simp
      have HC2 := Lib.hid hcs2
      clear hcs2
      rcases hcs with ⟨h1, h2⟩ | h1 | ⟨h1, h2⟩
      · go_wp2
        go_ret
        exact ⟨i, rfl, Or.inr ⟨i, rfl, hlt, by simp [joins, *], HK.out.2.1⟩, HK.out.2.2.alloc _⟩
      · cases dir with
        | true =>
          go_wp2
          go_roundg (s.E.length - (i + 1))
          case measure => have := HK.out.1; omega
          case rel => exact AR.next (HL.out) hlt HK.out (by simp [joins, *]) ((Ext.refl _ _).alloc _)
        | false =>
          rcases HC2.out with ⟨h3, h4⟩ | h3 | ⟨h3, h4⟩
          · go_wp2
            go_ret
            exact ⟨i, rfl, Or.inr ⟨i, rfl, hlt, by simp [joins, *], HK.out.2.1⟩, HK.out.2.2.alloc _⟩
          · go_wp2
            go_roundg (s.E.length - (i + 1))
            case measure => have := HK.out.1; omega
            case rel => exact AR.next (HL.out) hlt HK.out (by simp [joins, *]) ((Ext.refl _ _).alloc _)
          · go_wp2
            go_roundg (s.E.length - (i + 1))
            case measure => have := HK.out.1; omega
            case rel => exact AR.next (HL.out) hlt HK.out (by simp [joins, *]) ((Ext.refl _ _).alloc _)
      · cases dir with
        | true =>
          go_wp2
          go_roundg (s.E.length - (i + 1))
          case measure => have := HK.out.1; omega
          case rel => exact AR.next (HL.out) hlt HK.out (by simp [joins, *]) ((Ext.refl _ _).alloc _)
        | false =>
          rcases HC2.out with ⟨h3, h4⟩ | h3 | ⟨h3, h4⟩
          · go_wp2
            go_ret
            exact ⟨i, rfl, Or.inr ⟨i, rfl, hlt, by simp [joins, *], HK.out.2.1⟩, HK.out.2.2.alloc _⟩
          · go_wp2
            go_roundg (s.E.length - (i + 1))
            case measure => have := HK.out.1; omega
            case rel => exact AR.next (HL.out) hlt HK.out (by simp [joins, *]) ((Ext.refl _ _).alloc _)
          · go_wp2
            go_roundg (s.E.length - (i + 1))
            case measure => have := HK.out.1; omega
            case rel => exact AR.next (HL.out) hlt HK.out (by simp [joins, *]) ((Ext.refl _ _).alloc _)
    · have hnlt : ¬ (i : Int) < (s.E.length : Int) := by omega
      have HK := Lib.hid (And.intro hk (And.intro hn he))
      clear hk hn he
      go_wp2
      go_ret
      refine ⟨-1, rfl, Or.inl ⟨rfl, fun e hm => ?_⟩, HK.out.2.2⟩
      obtain ⟨j, hj, rfl⟩ := List.mem_iff_getElem.1 hm
      exact HK.out.2.1 j hj (by omega)
end Go.Proofs.YtcenebjdhbdejaaGreatDoor

namespace Go.Proofs.YtcenebjdhbdejaaGreatDoor
open Go.MapKept

/-- results: a variable in memory, alone -/
theorem results_cell1 {P : Program} {fn : Func} {p : Tmp} {ty : TypeId} (h : fn.results = #[.cell p ty]) {tmps : Array Value} {w : World} {g : Nat} {t : TypeId} {cs : Array Value} {fr : Nat × Nat} {d : TypeDesc}
    (hp : tmps.getD p undef = .pointer (some ⟨g, 0, none⟩)) (hg : w.heap[g]? = some (.cells cs t fr))
    (hu : P.underlying ty = some d) (hd : (match d with | .struct _ | .array _ _ => true | _ => false) = true) (hi : (P.info? ty).map (·.size) = some cs.size) :
    (results fn tmps).run P w = .ok (.agg cs) w := by
  have hp' : tmps[p]?.getD undef = .pointer (some ⟨g, 0, none⟩) := by simpa using hp
  simp [results, h, hp', asAddr, run_loadVar_row w g t ty cs fr d hg hu hd hi]

abbrev said0s : Obj := .cells #[.int .u8 0, .int .i64 0, .int .i64 0, .int .i64 0, nilS, nilS] 41 (0, 0)
theorem sz41 : (Tryz.prog.info? 41).map (·.size) = some 6 := by kernel_rfl

/-- what Do leaves -/
def DoPost (dir prev : Bool) (N mm : Nat) (D : PS → SP → Prop) (w : World) (r : Ending) (w' : World) : Prop :=
  ∃ (s' : PS) (sp : SP) (vs es ks xs : Value), r = .returned (saidV sp.er sp.a sp.b sp.w ks xs) ∧ D s' sp ∧ Mo w' N mm dir prev s' vs es ∧
    w'.ownsRow w.heap.size 2 1 ks sp.ks.length (sp.ks.flatMap oneC) ∧ w'.ownsRow w.heap.size 48 3 xs sp.es.length (sp.es.flatMap triC) ∧ Ext (fun c => c = mm) w w'

/-- Do's world as the switch begins -/
abbrev dw (w : World) (op a b wt : Int) : World := ((w.alloc (.cells #[.int .u8 op, kI a, kI b, .int .i64 wt] 35)).alloc said0s).alloc said0s
theorem dw_ext (w : World) (op a b wt : Int) : Ext No w (dw w op a b wt) := (((Ext.refl No w).alloc _).alloc _).alloc _

structure DW (w : World) (op a b wt : Int) (w2 : World) : Prop where
  step : w2.heap[w.heap.size]? = some (.cells #[.int .u8 op, kI a, kI b, .int .i64 wt] 35 (0, 0))
  res : w2.heap[w.heap.size + 1]? = some said0s
  said : w2.heap[w.heap.size + 2]? = some said0s
  he : Ext No w w2

theorem DW.of {w w2 : World} {op a b wt : Int} (h : Ext No (dw w op a b wt) w2) : DW w op a b wt w2 where
  step := h.obj (alloc_heap (alloc_heap (heap_alloc w _).1 _) _) id
  res := h.obj (alloc_heap (two_new w _ _) _) id
  said := h.obj (by
    have := (heap_alloc ((w.alloc (.cells #[.int .u8 op, kI a, kI b, .int .i64 wt] 35)).alloc said0s) said0s).1
    simpa using this) id
  he := (dw_ext w op a b wt).trans h

theorem Mo.lt' {w : World} {N mm : Nat} {dir prev : Bool} {s : PS} {vs es : Value} (h : Mo w N mm dir prev s vs es) (_ : N ≤ w.heap.size) : mm < w.heap.size := (Array.getElem?_eq_some_iff.1 h.row).1

/-- the world that a refused step leaves -/
abbrev errW (w w3 : World) (k : Int) : World := ((((((w3.setCell ⟨w.heap.size + 2, 0, none⟩ (.int .u8 k)).setCell ⟨w.heap.size + 1, 0, none⟩ (.int .u8 k)).setCell ⟨w.heap.size + 1, 1, none⟩ (.int .i64 0)).setCell ⟨w.heap.size + 1, 2, none⟩ (.int .i64 0)).setCell ⟨w.heap.size + 1, 3, none⟩ (.int .i64 0)).setCell ⟨w.heap.size + 1, 4, none⟩ nilS).setCell ⟨w.heap.size + 1, 5, none⟩ nilS

theorem doErr_row {w w3 : World} {op a b wt : Int} (h : DW w op a b wt w3) (k : Int) : (errW w w3 k).heap[w.heap.size + 1]? = some (.cells #[.int .u8 k, .int .i64 0, .int .i64 0, .int .i64 0, nilS, nilS] 41 (0, 0)) :=
  set6 (((Ext.refl (fun c => c = w.heap.size + 2) w3).setCell ⟨w.heap.size + 2, 0, none⟩ (.int .u8 k) (fun _ => rfl)).obj h.res (by omega)) _ _ _ _ _ _

theorem errW_ext (w w3 : World) (k : Int) : Ext (fun c => c = w.heap.size + 2 ∨ c = w.heap.size + 1) w3 (errW w w3 k) :=
  Ext.set6 ((Ext.refl _ w3).setCell _ _ (fun _ => Or.inl rfl)) (Or.inr rfl) _ _ _ _ _ _

theorem doErr {w w3 : World} {op a b wt : Int} {N mm : Nat} {dir prev : Bool} {s : PS} {vs es : Value} {D : PS → SP → Prop} (h : DW w op a b wt w3) (hm : Mo w3 N mm dir prev s vs es) (k : Int) (hD : D s (.err k)) (hmm : mm < w.heap.size) :
    DoPost dir prev N mm D w (.returned (saidV k 0 0 0 nilS nilS)) (errW w w3 k) := by
  have e := errW_ext w w3 k
  have hr : ∀ {B ee size n : Nat} {v : Value} {xs : List Value}, w3.ownsRow B ee size v n xs → ee ≠ 41 → ∀ c, v.ownBlock = some c → ¬ (c = w.heap.size + 2 ∨ c = w.heap.size + 1) := by
    intro B ee size n v xs ho hne c hc hh
    rcases hh with rfl | rfl
    · exact row_ne h.said ho (Ne.symm hne) hc
    · exact row_ne h.res ho (Ne.symm hne) hc
  exact ⟨s, .err k, vs, es, nilS, nilS, rfl, hD, hm.ext e (by omega) (hr hm.V (by decide)) (hr hm.E (by decide)), nil_own, nil_own, (h.he.then e (fun c hc hh => by omega)).no⟩

theorem Ext.app {w3 W w1 : World} {g n c : Nat} (h : Ext No w3 W) (he : Ext (fun c' => some c' = (Value.slice (some ⟨g, 0, none⟩) n c).ownBlock) W w1) (hg : w3.heap.size ≤ g) : Ext No w3 w1 :=
  h.then he (fun x hx e => by simp only [Value.ownBlock, Option.some.injEq] at e; omega)

theorem Ext.app2 {w3 W Wo w1 : World} {e size n : Nat} {v : Value} {xs : List Value} (h : Ext No w3 W) (he : Ext (fun c' => some c' = v.ownBlock) W w1) (ho : Wo.ownsRow w3.heap.size e size v n xs) : Ext No w3 w1 :=
  h.then he (fun x hx e => by have := (ho.lt x e.symm).1; omega)
theorem rd1 {w : World} {g : Nat} {a : Int} {e : TypeId} (h : w.heap[g]? = some (.cells #[kI a] e (0, 0))) : RdS w (.slice (some ⟨g, 0, none⟩) 1 1) [a] oneC :=
  ⟨_, _, rfl, Or.inr ⟨g, rfl, (Array.getElem?_eq_some_iff.1 h).1, fun j x hx => by
    rw [cell_of_row _ _ _ _ _ _ h]
    simpa using hx⟩⟩

/-- behind the store of the new vertices -/
structure AvEnd (w : World) (N mm : Nat) (dir prev : Bool) (s' : PS) (vs es : Value) (W : World) : Prop where
  said : W.heap[w.heap.size + 2]? = some said0s
  res : W.heap[w.heap.size + 1]? = some said0s
  M : Mo W N mm dir prev s' vs es
  he : Ext (fun c => c = mm) w W

theorem AvEnd.of {w w3 w4 : World} {op a b wt : Int} {N mm : Nat} {dir prev : Bool} {s : PS} {vs es v2 : Value} {l : List Int} (h : DW w op a b wt w3) (hm : Mo w3 N mm dir prev s vs es) (hN : N ≤ w.heap.size) (hmm : mm < w.heap.size) (hx : Ext No w3 w4) (ho : w4.ownsRow w3.heap.size 2 1 v2 l.length (l.flatMap oneC)) :
    AvEnd w N mm dir prev ⟨l, s.E⟩ v2 es (w4.setCell ⟨mm, 2, none⟩ v2) := by
  have e5 : Ext (fun c => c = mm) w4 (w4.setCell ⟨mm, 2, none⟩ v2) := (Ext.refl _ w4).setCell _ _ (fun _ => rfl)
  have hrow := hx.obj hm.row id
  refine ⟨e5.obj (hx.obj h.said id) (by omega), e5.obj (hx.obj h.res id) (by omega), ⟨set_heap hrow v2, ?_, ?_⟩, (h.he.trans hx).no.trans e5⟩
  · exact ownsRow_low (ownsRow_ext ho e5 (fun c hc e => row_ne hrow ho (by decide) (by rw [hc, e]))) (Nat.le_trans hN h.he.size)
  · have hE := ownsRow_ext hm.E hx (fun _ _ h => h)
    exact ownsRow_ext hE e5 (fun c hc e => row_ne hrow hE (by decide) (by rw [hc, e]))

theorem own0 {w : World} {g B : Nat} {e : TypeId} (h : w.heap[g]? = some (.cells #[] e (0, 0))) (hB : B ≤ g) : w.ownsRow B e 1 (.slice (some ⟨g, 0, none⟩) 0 0) ([] : List Int).length (([] : List Int).flatMap oneC) :=
  ⟨by simp, Or.inr ⟨g, 0, #[], rfl, hB, h, Nat.le_refl _, Nat.zero_le _, by simp, by simp⟩⟩

set_option maxRecDepth 100000 in
set_option maxHeartbeats 2000000 in
theorem do_av {w : World} {N mm : Nat} {dir prev : Bool} {s : PS} {vs es : Value} {a b wt : Int} (h : Mo w N mm dir prev s vs es) (hN : N ≤ w.heap.size) (hl : s.V.length + s.E.length < 900000) :
    Calls Tryz.prog 14 #[.pointer (some ⟨mm, 0, none⟩), stepV 0 a b wt] w (DoPost dir prev N mm (DoAV s a) w) := by
  have HM := Lib.hid (And.intro h (And.intro hN hl))
  clear h hN hl
  go_enter Tryz.func14, Tryz.ntmps14
  go_wp2_with fail
  have e0 : Ext No w (dw w 0 a b wt) := dw_ext w 0 a b wt
  refine (at_run (HM.out.1.no e0) (by have := HM.out.2.2; omega)).mono ?_
  rintro r1 w2 ⟨n, rfl, hat, he⟩
  have HE := Lib.hid (DW.of he (w := w) (op := 0) (a := a) (b := b) (wt := wt))
  have HM2 := Lib.hid (HM.out.1.no (e0.trans he))
  clear he e0 hat
  obtain ⟨x0, x1, x2, x3, -⟩ := cells4 HE.out.step
  obtain ⟨y0, y1, y2, y3, y4, y5, g0, g1, g2, g3, g4, g5⟩ := cells6 HE.out.said
  obtain ⟨z0, z1, z2, z3, z4, z5, q0, q1, q2, q3, q4, q5⟩ := cells6 HE.out.res
  have lx := World.block_lt_of_cell? _ _ x0
  have ly := World.block_lt_of_cell? _ _ y0
  have lz := World.block_lt_of_cell? _ _ z0
  by_cases ha : a ∈ s.V
  · have hd : decide (a ∈ s.V) = true := by simpa using ha
    go_wp2_with (go_at_call 26; (refine (has_run HM2.out (by have := HM.out.2.2; omega)).mono ?_); rintro r3 w3 ⟨rfl, rfl⟩; rw [hd])
    refine bodyPost_ret (v := saidV 1 0 0 0 nilS nilS) ?hr rfl ?hR
    case hR => exact doErr HE.out HM2.out 1 (by unfold DoAV; rw [if_pos ha]; exact ⟨rfl, rfl⟩) (HM.out.1.lt' HM.out.2.1)
    case hr => exact results_cell1 (fn := Tryz.f14) (g := w.heap.size + 1) (p := 4) (ty := 41) rfl rfl (doErr_row HE.out 1) Tryz.underlying41 rfl sz41
  · have hd : decide (a ∈ s.V) = false := by simpa using ha
    obtain ⟨q, cap, rfl, -⟩ := own_read (f := oneC) (fun _ => rfl) HM.out.1.V
    go_wp2_with (go_at_call 26; (refine (has_run HM2.out (by have := HM.out.2.2; omega)).mono ?_); rintro r3 w3 ⟨rfl, rfl⟩; rw [hd])
    have m2 := (cells4 HM2.out.row).2.2.1
    have fm := (cells4 HM2.out.row).2.2.2.2.2.2.1
    have lm := World.block_lt_of_cell? _ _ m2
    clear x0 x2 x3 y0 y1 y2 y3 y4 y5 g0 g1 g2 g3 g4 g5 z0 z1 z2 z3 z4 z5 q0 q1 q2 q3 q4 q5 ly lz hd
    have HX := Lib.hid (And.intro (RdS.of_own HM2.out.V) (show s.V.length < 900000 by have := HM.out.2.2; omega))
    have hX0 : Ext No w3 w3 := Ext.refl _ _
    have hne : ¬ w.heap.size = mm := by have := HM.out.1.lt' HM.out.2.1; omega
    go_region_law
      (first
        | ((refine step_appendN (s := .tmp 33) (x := .tmp 37) (xs := ([] : List Int)) (ys := s.V) (f := oneC) (B := w3.heap.size) rfl (by rfl) U26 I2 rfl (by decide) (by decide) (fun _ => rfl) oneC_one (by rfl) (own0 (by first | exact (heap_alloc w3 _).1 | exact alloc_heap (heap_alloc w3 _).1 _ | exact two_new w3 _ _) (by omega)) (by rfl) (HX.out.1.ext (S := No) (by first | exact (hX0.alloc _).drew | exact ((hX0.alloc _).alloc _).drew) (fun _ _ h => h)) (by have := HX.out.2; simp; omega) (by first | (simp; done) | (simp; omega)) ?_; intro v1 w1 ho1 he1 hb1; have hx1 : Ext No w3 w1 := (by first | exact Ext.app (hX0.alloc _).drew he1 (by omega) | exact Ext.app ((hX0.alloc _).alloc _).drew he1 (by omega)); have k2 := hx1.cellv x1 id; have k3 := (hx1.frz _ lm id).trans fm; have kz := hx1.size; have km := Nat.lt_of_lt_of_le lm kz; have kx := Nat.lt_of_lt_of_le lx kz))
        | ((refine step_appendN (s := .tmp 38) (x := .tmp 41) (xs := s.V) (ys := [a]) (f := oneC) (B := w3.heap.size) (v := v1) rfl (by rfl) U26 I2 rfl (by decide) (by decide) (fun _ => rfl) oneC_one (by rfl) (by first | exact ho1 | exact ho1.alloc _) (by rfl) (rd1 (by first | exact (heap_alloc w1 _).1 | exact he1.obj (two_new w3 _ _) (by simp [Value.ownBlock]) | exact he1.obj (alloc_heap (heap_alloc w3 _).1 _) (by simp [Value.ownBlock]))) (by have := HX.out.2; simp; omega) (by first | omega | (simp; done) | (simp; omega)) ?_; intro v2 w4 ho2 he2 hb2; have hx2 : Ext No w3 w4 := (by first | exact Ext.app2 (hx1.alloc _) he2 ho1 | exact Ext.app2 hx1 he2 ho1 | exact Ext.app2 (hx1.alloc _).drew he2 ho1 | exact Ext.app2 hx1.drew he2 ho1); have j2 := hx2.cellv x1 id; have j3 := (hx2.frz _ lm id).trans fm; have jz := hx2.size; have jm := Nat.lt_of_lt_of_le lm jz; have jx := Nat.lt_of_lt_of_le lx jz; have j1 := hx2.cellv m2 id; obtain ⟨q2, cap2, hv2, -⟩ := own_read (f := oneC) (fun _ => rfl) ho2; simp only [List.length_append, List.length_cons, List.length_nil, Nat.zero_add] at hv2; subst hv2))
        | fail)
    all_goals
      have HZ : RowKit.Hid (AvEnd w N mm dir prev ⟨s.V ++ [a], s.E⟩ (.slice q2 (s.V.length + 1) cap2) es (w4.setCell ⟨mm, 2, none⟩ (.slice q2 (s.V.length + 1) cap2))) := Lib.hid (AvEnd.of HE.out HM2.out HM.out.2.1 (HM.out.1.lt' HM.out.2.1) hx2 ho2)
      generalize w4.setCell ⟨mm, 2, none⟩ (.slice q2 (s.V.length + 1) cap2) = W5 at HZ ⊢
      clear k2 k3 kz km kx j1 j2 j3 jz jm jx ho1 he1 hb1 hx1 ho2 he2 hb2 hx2 x1 lx m2 fm lm hX0
      obtain ⟨y0, y1, y2, y3, y4, y5, g0, g1, g2, g3, g4, g5⟩ := cells6 HZ.out.said
      obtain ⟨z0, z1, z2, z3, z4, z5, q0, q1, q2', q3, q4, q5⟩ := cells6 HZ.out.res
      have ly := World.block_lt_of_cell? _ _ y0
      have lz := World.block_lt_of_cell? _ _ z0
      go_wp2
      refine bodyPost_ret (v := saidV 0 0 0 0 nilS nilS) ?hr rfl ?hR
      case hR =>
        have h := HZ.out
        have e7 := (Ext.refl (fun c => c = w.heap.size + 1) W5).set6 (b := w.heap.size + 1) rfl (.int .u8 0) (.int .i64 0) (.int .i64 0) (.int .i64 0) nilS nilS
        exact ⟨⟨s.V ++ [a], s.E⟩, .err 0, _, es, nilS, nilS, rfl, by unfold DoAV; rw [if_neg ha]; exact ⟨rfl, rfl⟩, h.M.ext e7 (fun e => by have := HM.out.1.lt' HM.out.2.1; omega) (fun c hc e => row_ne h.res h.M.V (by decide) (by rw [hc, e])) (fun c hc e => row_ne h.res h.M.E (by decide) (by rw [hc, e])), nil_own, nil_own, h.he.then e7 (fun c hc e => by omega)⟩
      case hr => exact results_cell1 (fn := Tryz.f14) (g := w.heap.size + 1) (p := 4) (ty := 41) rfl rfl (set6 HZ.out.res (.int .u8 0) (.int .i64 0) (.int .i64 0) (.int .i64 0) nilS nilS) Tryz.underlying41 rfl sz41
end Go.Proofs.YtcenebjdhbdejaaGreatDoor

namespace Go.Proofs.YtcenebjdhbdejaaGreatDoor
open Go.Sort
variable {α : Type}

/-- ascending up to i, but for what stands at k -/
def Ins (lt : α → α → Bool) (xs : List α) (i k : Nat) : Prop := ∀ p q (hp : p < q) (_ : q ≤ i) (hl : q < xs.length), q ≠ k → lt (xs[q]'hl) (xs[p]'(by omega)) = false

/-- the elements at k and k - 1, exchanged -/
def swp1 (xs : List α) (k : Nat) (x y : α) : List α := (xs.set k y).set (k - 1) x

theorem swp1_get {xs : List α} {k : Nat} (hk : 0 < k) (hl : k < xs.length) (j : Nat) (hj : j < (swp1 xs k xs[k] (xs[k - 1]'(by omega))).length) :
    (swp1 xs k xs[k] (xs[k - 1]'(by omega)))[j] = if j = k then xs[k - 1]'(by omega) else if j = k - 1 then xs[k] else xs[j]'(by simp [swp1] at hj; exact hj) := by
  simp only [swp1, List.getElem_set]
  by_cases h1 : j = k
  · have h2 : ¬ (k - 1 = j) := by omega
    have h3 : ¬ (j = k - 1) := by omega
    simp [h1]; omega
  · by_cases h2 : j = k - 1
    · simp [h2]; omega
    · have h3 : ¬ (k - 1 = j) := fun e => h2 e.symm
      have h4 : ¬ (k = j) := fun e => h1 e.symm
      simp [h1, h2, h3, h4]

theorem swp1_len {xs : List α} {k : Nat} {x y : α} : (swp1 xs k x y).length = xs.length := by simp [swp1]

theorem Ins.step {lt : α → α → Bool} (hO : SWO lt) {xs : List α} {i k : Nat} (h : Ins lt xs i k) (hk : 0 < k) (hki : k ≤ i) (hl : k < xs.length) (hlt : lt xs[k] (xs[k - 1]'(by omega)) = true) :
    Ins lt (swp1 xs k xs[k] (xs[k - 1]'(by omega))) i (k - 1) := by
  have asym : ∀ x y, lt x y = true → lt y x = false := fun x y h => by
    cases hh : lt y x with
    | false => rfl
    | true => have := hO.trans _ _ _ h hh; rw [hO.irrefl] at this; cases this
  intro p q hp hq hql hne
  have hql' : q < xs.length := by rw [swp1_len] at hql; exact hql
  rw [swp1_get hk hl q hql, swp1_get hk hl p (by omega)]
  by_cases h1 : q = k
  · rw [if_pos h1, if_neg (by omega : ¬ p = k)]
    by_cases h2 : p = k - 1
    · rw [if_pos h2]; exact asym _ _ hlt
    · rw [if_neg h2]; exact h p (k - 1) (by omega) (by omega) (by omega) (by omega)
  · rw [if_neg h1, if_neg hne]
    by_cases h2 : p = k
    · rw [if_pos h2]; exact h (k - 1) q (by omega) hq hql' h1
    · rw [if_neg h2]
      by_cases h3 : p = k - 1
      · rw [if_pos h3]; exact h k q (by omega) hq hql' h1
      · rw [if_neg h3]; exact h p q hp hq hql' h1

theorem Ins.stop {lt : α → α → Bool} (hO : SWO lt) {xs : List α} {i k : Nat} (h : Ins lt xs i k) (hki : k ≤ i) (hl : k < xs.length) (hlt : k = 0 ∨ ∃ hk : 0 < k, lt xs[k] (xs[k - 1]'(by omega)) = false) : Ins lt xs i xs.length := by
  intro p q hp hq hql hne
  by_cases h1 : q = k
  · subst h1
    rcases hlt with rfl | ⟨hk, hlt⟩
    · omega
    · by_cases h2 : p = q - 1
      · subst h2; exact hlt
      · exact hO.ntrans _ _ _ hlt (h p (q - 1) (by omega) (by omega) (by omega) (by omega))
  · exact h p q hp hq hql h1

theorem Ins.more {lt : α → α → Bool} {xs : List α} {i : Nat} (h : Ins lt xs i xs.length) (_hi : i + 1 < xs.length) : Ins lt xs (i + 1) (i + 1) :=
  fun p q hp hq hl hne => h p q hp (by omega) hl (by omega)

theorem Ins.all {lt : α → α → Bool} {xs : List α} {i : Nat} (h : Ins lt xs i xs.length) (hi : xs.length ≤ i + 1) : xs.Pairwise (fun a b => lt b a = false) := by
  rw [List.pairwise_iff_getElem]
  intro p q hp hq hpq
  exact h p q hpq (by omega) hq (by omega)

theorem swp1_perm {xs : List α} {k : Nat} (hk : 0 < k) (hl : k < xs.length) : (swp1 xs k xs[k] (xs[k - 1]'(by omega))).Perm xs := by
  obtain ⟨k, rfl⟩ : ∃ j, k = j + 1 := ⟨k - 1, by omega⟩
  simp only [Nat.add_sub_cancel] at *
  have h1 : xs = xs.take k ++ xs[k] :: xs[k + 1] :: xs.drop (k + 2) := by
    rw [List.getElem_cons_drop, List.getElem_cons_drop, List.take_append_drop]
  have h2 : swp1 xs (k + 1) xs[k + 1] xs[k] = xs.take k ++ xs[k + 1] :: xs[k] :: xs.drop (k + 2) := by
    apply List.ext_getElem
    · rw [swp1_len]; simp; omega
    · intro j hj1 hj2
      have hg := swp1_get (xs := xs) (k := k + 1) (by omega) hl j hj1
      simp only [Nat.add_sub_cancel] at hg
      rw [hg, List.getElem_append]
      by_cases ha : j < (xs.take k).length
      · rw [dif_pos ha]
        simp at ha
        rw [if_neg (by omega), if_neg (by omega)]
        simp
      · rw [dif_neg ha]
        simp at ha
        have hlen : (xs.take k).length = k := by simp; omega
        simp only [hlen]
        by_cases hb : j = k
        · subst hb; simp
        · by_cases hc : j = k + 1
          · subst hc; simp
          · rw [if_neg hc, if_neg hb]
            obtain ⟨m, rfl⟩ : ∃ m, j = k + 2 + m := ⟨j - (k + 2), by omega⟩
            have : k + 2 + m - k = m + 2 := by omega
            simp [this]
  rw [h2]
  refine List.Perm.trans ?_ (List.Perm.of_eq h1.symm)
  exact List.Perm.append_left _ (List.Perm.swap _ _ _)
end Go.Proofs.YtcenebjdhbdejaaGreatDoor
namespace Go.Proofs.YtcenebjdhbdejaaGreatDoor
open Go.MapKept Go.Sort

theorem Ext.drewN {S : Nat → Prop} {w w' : World} (h : Ext S w w') (n : Nat) : Ext S w (w'.drewN n) := h.trans ⟨Nat.le_refl _, fun _ _ _ => rfl, rfl, rfl⟩

theorem own_frz {w : World} {B e size n : Nat} {g m cap : Nat} {xs : List Value} (h : w.ownsRow B e size (.slice (some ⟨g, 0, none⟩) m cap) n xs) (j : Nat) : w.frozen? ⟨g, j, none⟩ = false := by
  rcases h.2 with ⟨h0, -⟩ | ⟨g', cap', cur, hv, -, hgg, -⟩
  · cases h0
  · cases hv
    simp [World.frozen?, hgg]

theorem own_set1 {w : World} {B e : Nat} {g n cap : Nat} {xs : List Int} (h : w.ownsRow B e 1 (.slice (some ⟨g, 0, none⟩) n cap) xs.length (xs.flatMap oneC)) {k : Nat} (_hk : k < xs.length) (x : Int) :
    (w.setCell ⟨g, k, none⟩ (kI x)).ownsRow B e 1 (.slice (some ⟨g, 0, none⟩) n cap) (xs.set k x).length ((xs.set k x).flatMap oneC) := by
  rcases h.2 with ⟨h0, -⟩ | ⟨g', cap', cur, hv, hB, hgg, hnc, hcm, hsz, htk⟩
  · cases h0
  · simp only [Value.slice.injEq, Option.some.injEq, Addr.mk.injEq, and_true] at hv
    obtain ⟨rfl, hn, rfl⟩ := hv
    refine ⟨by rw [← map_oneC]; simp, Or.inr ⟨g, cap, _, by rw [List.length_set, hn], hB, set_heap hgg (kI x), by rw [List.length_set]; exact hnc, hcm, by simpa using hsz, ?_⟩⟩
    rw [← map_oneC, List.length_set, Nat.mul_one]
    rw [← map_oneC, Nat.mul_one] at htk
    rw [Array.toList_setIfInBounds, List.take_set, htk, List.map_set]

def RO (w : World) (v : Value) (l : List Int) (k : Nat) (x : Value) (wr : World) : Prop :=
  ∃ (i : Nat) (xs : List Int), x = .int .i64 i ∧ i + k = l.length ∧ xs.Perm l ∧ wr.ownsRow w.heap.size 2 1 v xs.length (xs.flatMap oneC) ∧ (∀ j, i = j + 1 → Ins ltK xs j xs.length) ∧ Ext No w wr
def RI (w : World) (v : Value) (l : List Int) (i : Nat) (k : Nat) (x : Value) (wr : World) : Prop :=
  ∃ (m : Nat) (xs : List Int), x = .int .i64 m ∧ m = k ∧ m ≤ i ∧ xs.Perm l ∧ wr.ownsRow w.heap.size 2 1 v xs.length (xs.flatMap oneC) ∧ Ins ltK xs i m ∧ Ext No w wr

theorem wrapm {m : Nat} (h : m < 1000000) : IntKind.i64.wrap (m : Int) = (m : Int) := by
  rw [IntKind.wrap_i64]; omega

/-- what Risen leaves -/
def RisenPost (w : World) (l : List Int) (r : Ending) (w' : World) : Prop :=
  ∃ (v : Value) (xs : List Int), r = .returned v ∧ xs.Perm l ∧ xs.Pairwise (fun a b => ltK b a = false) ∧ w'.ownsRow w.heap.size 2 1 v xs.length (xs.flatMap oneC) ∧ Ext No w w'

theorem own_swap {w : World} {B e : Nat} {g n cap m : Nat} {xs : List Int} (h : w.ownsRow B e 1 (.slice (some ⟨g, 0, none⟩) n cap) xs.length (xs.flatMap oneC)) (hm : m + 1 < xs.length) :
    ((w.setCell ⟨g, m + 1, none⟩ (kI (xs[m]'(by omega)))).setCell ⟨g, m, none⟩ (kI xs[m + 1])).ownsRow B e 1 (.slice (some ⟨g, 0, none⟩) n cap) (swp1 xs (m + 1) xs[m + 1] (xs[m]'(by omega))).length ((swp1 xs (m + 1) xs[m + 1] (xs[m]'(by omega))).flatMap oneC) :=
  own_set1 (own_set1 h hm _) (by simp; omega) _

set_option maxRecDepth 100000 in
set_option maxHeartbeats 2000000 in
theorem risen_run {w : World} {l : List Int} {u : Value} (h : RdS w u l oneC) (hl : l.length < 900000) :
    Calls Tryz.prog 28 #[u] w (RisenPost w l) := by
  obtain ⟨q, c, rfl⟩ := h.form
  have HH := Lib.hid (And.intro h hl)
  clear h hl
  go_enter Tryz.func28, Tryz.ntmps28
  go_wp2_with (first | (at_builtin; (refine wpL_appendN (xs := ([] : List Int)) (ys := l) (f := oneC) (B := w.heap.size) rfl rfl U26 I2 rfl (by decide) (by decide) (fun _ => rfl) oneC_one rfl (own0 (heap_alloc w _).1 (Nat.le_refl _)) rfl (HH.out.1.ext ((Ext.refl No w).alloc _) (fun _ _ h => h)) (by have := HH.out.2; simp; omega) (by simp) ?_); intro v w1 ho he hb; obtain ⟨q1, cap1, hv1, -⟩ := own_read (f := oneC) (fun _ => rfl) ho; simp only [List.nil_append] at hv1 ho; subst hv1; have HE := Lib.hid (And.intro ho (Ext.app ((Ext.refl No w).alloc _) he (Nat.le_refl _))); clear ho he hb))
  go_loopg [11] l.length (fun k x wr => RO w (.slice q1 l.length cap1) l k x wr)
  case atStart => exact ⟨0, l, rfl, by simp, List.Perm.refl _, HE.out.1, fun j hj => by omega, HE.out.2⟩
  case round =>
    obtain ⟨i, xs, rfl, hk, hp, ho, hs, he⟩ := hrel
    by_cases hlt : i < l.length
    · have hlt' : (i : Int) < (l.length : Int) := by omega
      have HR := Lib.hid (And.intro hk (And.intro hp (And.intro ho (And.intro hs he))))
      clear hk hp ho hs he
      go_wp2_with fail
      go_loopg [5] i (fun k x wq => RI w (.slice q1 l.length cap1) l i k x wq)
      case atStart =>
        obtain ⟨hk, hp, ho, hs, he⟩ := HR.out
        refine ⟨i, xs, rfl, rfl, Nat.le_refl _, hp, ho, ?_, he⟩
        cases i with
        | zero => intro p q hp hq hl hne; omega
        | succ i => exact (hs i rfl).more (by rw [hp.length_eq]; exact hlt)
      case round =>
        obtain ⟨m, ys, rfl, hmk, hki, hp, ho, hins, he⟩ := hrel
        have hyl : ys.length = l.length := hp.length_eq
        have HI := Lib.hid (And.intro hmk (And.intro hki (And.intro hp (And.intro ho (And.intro hins he)))))
        rcases Nat.eq_zero_or_pos m with hm0 | hm0
        · subst hm0
          clear hmk hki hp ho hins he
          go_wp2
          go_quiet (fail)
          go_wp2
          go_roundg (l.length - (i + 1))
          case measure => have := HR.out.1; omega
          case rel =>
            obtain ⟨hmk, hki, hp, ho, hins, he⟩ := HI.out
            have hil : i < ys.length := by omega
            exact ⟨i + 1, ys, by rw [w64 (by have := HH.out.2; omega)], by omega, hp, ho, fun j hj => by
              obtain rfl : i = j := by omega
              exact hins.stop swo_ltK (Nat.zero_le _) (by omega) (Or.inl rfl), he.drewN _⟩
        · obtain ⟨m, rfl⟩ : ∃ j, m = j + 1 := ⟨m - 1, by omega⟩
          have hm1 : m + 1 < ys.length := by omega
          have hm2 : m < ys.length := by omega
          have hln := HH.out.2
          obtain ⟨g, rfl, hg, hc⟩ := own_at (k := m + 1) (f := oneC) (fun _ => rfl) ho hm1
          obtain ⟨g', hg', -, hc'⟩ := own_at (k := m) (f := oneC) (fun _ => rfl) ho hm2
          simp only [Option.some.injEq, Addr.mk.injEq, and_true] at hg'
          subst hg'
          have c1 : wr.cell? ⟨g, m + 1, none⟩ = some (kI (ys[m + 1]'hm1)) := by have := hc 0 (by decide); simpa using this
          have c0 : wr.cell? ⟨g, m, none⟩ = some (kI (ys[m]'hm2)) := by have := hc' 0 (by decide); simpa using this
          have hsub : RowKit.wrap64 (m : Int) = (m : Int) := by unfold RowKit.wrap64; omega
          have hwr : IntKind.i64.wrap (m : Int) = (m : Int) := wrapm (by omega)
          have hpos : (0 : Int) < (m : Int) + 1 := by omega
          have hpos' : (0 : Int) ≤ (m : Int) + 1 := by omega
          have hb1 : (m : Int) + 1 < (l.length : Int) := by omega
          have hb0 : (m : Int) < (l.length : Int) := by omega
          have htn : ((m : Int) + 1).toNat = m + 1 := by omega
          clear hmk hki hp ho hins he hc hc' hln hm0
          go_wp2
          go_quiet (fail)
          go_wp2
          · have hfz : ∀ j, (wr.drewN nq).frozen? ⟨g, j, none⟩ = false := fun j => own_frz HI.out.2.2.2.1 j
            have k1 : (wr.drewN nq).cell? ⟨g, m + 1, none⟩ = some (kI (ys[m + 1]'hm1)) := c1
            have k0 : (wr.drewN nq).cell? ⟨g, m, none⟩ = some (kI (ys[m]'hm2)) := c0
            have f1 := hfz (m + 1)
            have f0 := hfz m
            have hEn := Lib.hid ((Ext.refl No wr).drewN nq)
            revert f1 f0 k1 k0 hEn
            generalize wr.drewN nq = W2
            intro f1 f0 k1 k0 hEn
            clear hfz c1 c0
            go_region_law (fail)
            all_goals
              go_wp2
              go_roundg m
              case measure => have := HI.out.1; omega
              case rel =>
                obtain ⟨hmk, hki, hp, ho, hins, he⟩ := HI.out
                have hcmp : ltK (ys[m + 1]'hm1) (ys[m]'hm2) = true := by
                  have hx : (ys[m + 1]'hm1) < (ys[m]'hm2) := by assumption
                  simp only [ltK, decide_eq_true_eq]; exact hx
                have ho2 := own_swap (ownsRow_ext ho hEn.out (fun _ _ h => h)) hm1
                have hB := (ho.lt g rfl).1
                exact ⟨m, _, rfl, rfl, by omega, (swp1_perm (by omega) hm1).trans hp, ho2, hins.step swo_ltK (by omega) hki hm1 hcmp, (((he.trans hEn.out).setN hB _).setN hB _).drew⟩
          · have hlt0 : ltK (ys[m + 1]'hm1) (ys[m]'hm2) = false := by simp [ltK, *]
            go_roundg (l.length - (i + 1))
            case measure => have := HR.out.1; omega
            case rel =>
              obtain ⟨hmk, hki, hp, ho, hins, he⟩ := HI.out
              exact ⟨i + 1, ys, by rw [w64 (by have := HH.out.2; omega)], by omega, hp, ho, fun j hj => by
                obtain rfl : i = j := by omega
                exact hins.stop swo_ltK hki (by omega) (Or.inr ⟨by omega, hlt0⟩), he.drewN _⟩
    · have hnlt : ¬ (i : Int) < (l.length : Int) := by omega
      have hi : i = l.length := by omega
      have HR := Lib.hid (And.intro hp (And.intro ho (And.intro hs he)))
      clear hk hp ho hs he
      go_wp2
      go_ret
      obtain ⟨hp, ho, hs, he⟩ := HR.out
      refine ⟨_, xs, rfl, hp, ?_, ho, he⟩
      cases i with
      | zero => exact pair_small (by rw [hp.length_eq]; omega)
      | succ j => exact (hs j rfl).all (by rw [hp.length_eq]; omega)
end Go.Proofs.YtcenebjdhbdejaaGreatDoor

namespace Go.Proofs.YtcenebjdhbdejaaGreatDoor

theorem own0T {w : World} {g B : Nat} {e : TypeId} (h : w.heap[g]? = some (.cells #[] e (0, 0))) (hB : B ≤ g) : w.ownsRow B e 3 (.slice (some ⟨g, 0, none⟩) 0 0) ([] : List Tri).length (([] : List Tri).flatMap triC) :=
  ⟨by simp, Or.inr ⟨g, 0, #[], rfl, hB, h, Nat.le_refl _, Nat.zero_le _, by simp, by simp⟩⟩

theorem flat_len (l : List Tri) : (l.flatMap triC).length = l.length * 3 := by
  induction l with
  | nil => rfl
  | cons x l ih => simp only [List.flatMap_cons, List.length_append, ih, List.length_cons, List.length_nil, Nat.add_mul]; omega

theorem flat_set (l : List Tri) (k : Nat) (x : Tri) (_hk : k < l.length) : (l.set k x).flatMap triC = (((l.flatMap triC).set (k * 3) (kI x.1)).set (k * 3 + 1) (kI x.2.1)).set (k * 3 + 2) (.int .i64 x.2.2) := by
  apply List.ext_getElem?
  intro t
  by_cases ht : t < l.length * 3
  · obtain ⟨p, j, hj, rfl⟩ : ∃ p j, j < 3 ∧ t = p * 3 + j := ⟨t / 3, t % 3, Nat.mod_lt _ (by decide), by omega⟩
    have hp : p < l.length := by omega
    rw [flat_get (f := triC) (size := 3) (fun _ => rfl) (l.set k x) p j (by simpa using hp) hj, List.getElem_set]
    have h0 := flat_get (f := triC) (size := 3) (fun _ => rfl) l p j hp hj
    have hlen := flat_len l
    by_cases hkp : k = p
    · subst hkp
      simp only [if_pos]
      clear h0
      generalize l.flatMap triC = F at hlen ⊢
      match j, hj with
      | 0, _ => simp [List.getElem?_set, hlen]; omega
      | 1, _ => simp [List.getElem?_set, hlen]; omega
      | 2, _ => simp [List.getElem?_set, hlen]; omega
    · rw [if_neg hkp, List.getElem?_set_ne (by omega), List.getElem?_set_ne (by omega), List.getElem?_set_ne (by omega), h0]
  · rw [List.getElem?_eq_none (by rw [flat_len]; simp; omega), List.getElem?_eq_none (by simp only [List.length_set]; rw [flat_len]; omega)]

theorem own_set3 {w : World} {B e : Nat} {g n cap : Nat} {xs : List Tri} (h : w.ownsRow B e 3 (.slice (some ⟨g, 0, none⟩) n cap) xs.length (xs.flatMap triC)) {k : Nat} (hk : k < xs.length) (x : Tri) :
    (((w.setCell ⟨g, k * 3, none⟩ (kI x.1)).setCell ⟨g, k * 3 + 1, none⟩ (kI x.2.1)).setCell ⟨g, k * 3 + 2, none⟩ (.int .i64 x.2.2)).ownsRow B e 3 (.slice (some ⟨g, 0, none⟩) n cap) (xs.set k x).length ((xs.set k x).flatMap triC) := by
  rcases h.2 with ⟨h0, -⟩ | ⟨g', cap', cur, hv, hB, hgg, hnc, hcm, hsz, htk⟩
  · cases h0
  · simp only [Value.slice.injEq, Option.some.injEq, Addr.mk.injEq, and_true] at hv
    obtain ⟨rfl, hn, rfl⟩ := hv
    refine ⟨by rw [flat_len], Or.inr ⟨g, cap, _, by rw [List.length_set, hn], hB, set_heap (set_heap (set_heap hgg _) _) _, by rw [List.length_set]; exact hnc, hcm, by simpa using hsz, ?_⟩⟩
    rw [flat_set xs k x hk, List.length_set, ← htk]
    simp only [Array.toList_setIfInBounds, List.take_set]
end Go.Proofs.YtcenebjdhbdejaaGreatDoor
namespace Go.Proofs.YtcenebjdhbdejaaGreatDoor
open Go.MapKept Go.Sort

theorem U27 : Tryz.prog.underlying 27 = some (.slice 48) := by kernel_rfl
theorem I48 : (Tryz.prog.info? 48).map (fun i => (i.zero, i.size, i.bytes)) = some (some (.agg #[.int .i64 0, .int .i64 0, .int .i64 0]), 3, 24) := by kernel_rfl

def EO (w : World) (v : Value) (l : List Tri) (k : Nat) (x : Value) (wr : World) : Prop :=
  ∃ (i : Nat) (xs : List Tri), x = .int .i64 i ∧ i + k = l.length ∧ xs.Perm l ∧ wr.ownsRow w.heap.size 48 3 v xs.length (xs.flatMap triC) ∧ (∀ j, i = j + 1 → Ins ltE xs j xs.length) ∧ Ext No w wr
def EI (w : World) (v : Value) (l : List Tri) (i : Nat) (k : Nat) (x : Value) (wr : World) : Prop :=
  ∃ (m : Nat) (xs : List Tri), x = .int .i64 m ∧ m = k ∧ m ≤ i ∧ xs.Perm l ∧ wr.ownsRow w.heap.size 48 3 v xs.length (xs.flatMap triC) ∧ Ins ltE xs i m ∧ Ext No w wr

/-- what ByEnds leaves -/
def EndsPost (w : World) (l : List Tri) (r : Ending) (w' : World) : Prop :=
  ∃ (v : Value) (xs : List Tri), r = .returned v ∧ xs.Perm l ∧ xs.Pairwise (fun a b => ltE b a = false) ∧ w'.ownsRow w.heap.size 48 3 v xs.length (xs.flatMap triC) ∧ Ext No w w'

/-- behind the test of a swap -/
def CR (b : Bool) (w : World) (t : Value) (wq : World) : Prop := t = .bool b ∧ ∃ n, wq = w.drewN n

theorem own_swapT {w : World} {B e : Nat} {g n cap m : Nat} {xs : List Tri} (h : w.ownsRow B e 3 (.slice (some ⟨g, 0, none⟩) n cap) xs.length (xs.flatMap triC)) (hm : m + 1 < xs.length) :
    ((((((w.setCell ⟨g, (m + 1) * 3, none⟩ (kI (xs[m]'(by omega)).1)).setCell ⟨g, (m + 1) * 3 + 1, none⟩ (kI (xs[m]'(by omega)).2.1)).setCell ⟨g, (m + 1) * 3 + 2, none⟩ (.int .i64 (xs[m]'(by omega)).2.2)).setCell ⟨g, m * 3, none⟩ (kI xs[m + 1].1)).setCell ⟨g, m * 3 + 1, none⟩ (kI xs[m + 1].2.1)).setCell ⟨g, m * 3 + 2, none⟩ (.int .i64 xs[m + 1].2.2)).ownsRow B e 3 (.slice (some ⟨g, 0, none⟩) n cap) (swp1 xs (m + 1) xs[m + 1] (xs[m]'(by omega))).length ((swp1 xs (m + 1) xs[m + 1] (xs[m]'(by omega))).flatMap triC) :=
  own_set3 (own_set3 h hm _) (by simp; omega) _

set_option maxRecDepth 100000 in
set_option maxHeartbeats 8000000 in
theorem byEnds_run {w : World} {l : List Tri} {u : Value} (h : RdS w u l triC) (hl : l.length < 900000) :
    Calls Tryz.prog 27 #[u] w (EndsPost w l) := by
  obtain ⟨q, c, rfl⟩ := h.form
  have HH := Lib.hid (And.intro h hl)
  clear h hl
  go_enter Tryz.func27, Tryz.ntmps27
  go_wp2_with (first | (at_builtin; (refine wpL_appendN (xs := ([] : List Tri)) (ys := l) (f := triC) (B := w.heap.size) rfl rfl U27 I48 rfl (by decide) (by decide) (fun _ => rfl) triC_one rfl (own0T (heap_alloc w _).1 (Nat.le_refl _)) rfl (HH.out.1.ext ((Ext.refl No w).alloc _) (fun _ _ h => h)) (by have := HH.out.2; simp; omega) (by simp) ?_); intro v w1 ho he hb; obtain ⟨q1, cap1, hv1, -⟩ := own_read (f := triC) (fun _ => rfl) ho; simp only [List.nil_append] at hv1 ho; subst hv1; have HE := Lib.hid (And.intro ho (Ext.app ((Ext.refl No w).alloc _) he (Nat.le_refl _))); clear ho he hb))
  go_loopg [11] l.length (fun k x wr => EO w (.slice q1 l.length cap1) l k x wr)
  case atStart => exact ⟨0, l, rfl, by simp, List.Perm.refl _, HE.out.1, fun j hj => by omega, HE.out.2⟩
  case round =>
    obtain ⟨i, xs, rfl, hk, hp, ho, hs, he⟩ := hrel
    by_cases hlt : i < l.length
    · have hlt' : (i : Int) < (l.length : Int) := by omega
      have HR := Lib.hid (And.intro hk (And.intro hp (And.intro ho (And.intro hs he))))
      clear hk hp ho hs he
      go_wp2_with fail
      go_loopg [5] i (fun k x wq => EI w (.slice q1 l.length cap1) l i k x wq)
      case atStart =>
        obtain ⟨hk, hp, ho, hs, he⟩ := HR.out
        refine ⟨i, xs, rfl, rfl, Nat.le_refl _, hp, ho, ?_, he⟩
        cases i with
        | zero => intro p q hp hq hl hne; omega
        | succ i => exact (hs i rfl).more (by rw [hp.length_eq]; exact hlt)
      case round =>
        obtain ⟨m, ys, rfl, hmk, hki, hp, ho, hins, he⟩ := hrel
        have hyl : ys.length = l.length := hp.length_eq
        have HI := Lib.hid (And.intro hmk (And.intro hki (And.intro hp (And.intro ho (And.intro hins he)))))
        rcases Nat.eq_zero_or_pos m with hm0 | hm0
        · subst hm0
          clear hmk hki hp ho hins he
          go_wp2
          go_quiet (fail)
          go_wp2
          go_roundg (l.length - (i + 1))
          case measure => have := HR.out.1; omega
          case rel =>
            obtain ⟨hmk, hki, hp, ho, hins, he⟩ := HI.out
            have hil : i < ys.length := by omega
            exact ⟨i + 1, ys, by rw [w64 (by have := HH.out.2; omega)], by omega, hp, ho, fun j hj => by
              obtain rfl : i = j := by omega
              exact hins.stop swo_ltE (Nat.zero_le _) (by omega) (Or.inl rfl), he.drewN _⟩
        · obtain ⟨m, rfl⟩ : ∃ j, m = j + 1 := ⟨m - 1, by omega⟩
          have hm1 : m + 1 < ys.length := by omega
          have hm2 : m < ys.length := by omega
          have hln := HH.out.2
          obtain ⟨g, rfl, hg, hc⟩ := own_at (k := m + 1) (f := triC) (fun _ => rfl) ho hm1
          obtain ⟨g', hg', -, hc'⟩ := own_at (k := m) (f := triC) (fun _ => rfl) ho hm2
          simp only [Option.some.injEq, Addr.mk.injEq, and_true] at hg'
          subst hg'
          have c1 : wr.cell? ⟨g, (m + 1) * 3, none⟩ = some (kI (ys[m + 1]'hm1).1) := hc 0 (by decide)
          have c1a : wr.cell? ⟨g, (m + 1) * 3 + 1, none⟩ = some (kI (ys[m + 1]'hm1).2.1) := hc 1 (by decide)
          have c1b : wr.cell? ⟨g, (m + 1) * 3 + 2, none⟩ = some (.int .i64 (ys[m + 1]'hm1).2.2) := hc 2 (by decide)
          have c0 : wr.cell? ⟨g, m * 3, none⟩ = some (kI (ys[m]'hm2).1) := hc' 0 (by decide)
          have c0a : wr.cell? ⟨g, m * 3 + 1, none⟩ = some (kI (ys[m]'hm2).2.1) := hc' 1 (by decide)
          have c0b : wr.cell? ⟨g, m * 3 + 2, none⟩ = some (.int .i64 (ys[m]'hm2).2.2) := hc' 2 (by decide)
          have hsub : RowKit.wrap64 (m : Int) = (m : Int) := by unfold RowKit.wrap64; omega
          have hwr : IntKind.i64.wrap (m : Int) = (m : Int) := wrapm (by omega)
          have hpos : (0 : Int) < (m : Int) + 1 := by omega
          have hpos' : (0 : Int) ≤ (m : Int) + 1 := by omega
          have hb1 : (m : Int) + 1 < (l.length : Int) := by omega
          have hb0 : (m : Int) < (l.length : Int) := by omega
          have htn : ((m : Int) + 1).toNat = m + 1 := by omega
          have h4 : (ys[m + 1]'hm1).1 < (ys[m]'hm2).1 ∨ (¬ (ys[m + 1]'hm1).1 < (ys[m]'hm2).1 ∧ ((ys[m + 1]'hm1).1 == (ys[m]'hm2).1) = true ∧ (ys[m + 1]'hm1).2.1 < (ys[m]'hm2).2.1) ∨ (¬ (ys[m + 1]'hm1).1 < (ys[m]'hm2).1 ∧ ((ys[m + 1]'hm1).1 == (ys[m]'hm2).1) = false) ∨ (¬ (ys[m + 1]'hm1).1 < (ys[m]'hm2).1 ∧ ((ys[m + 1]'hm1).1 == (ys[m]'hm2).1) = true ∧ ¬ (ys[m + 1]'hm1).2.1 < (ys[m]'hm2).2.1) := by
            by_cases a1 : (ys[m + 1]'hm1).1 < (ys[m]'hm2).1
            · exact Or.inl a1
            · by_cases a3 : (ys[m + 1]'hm1).2.1 < (ys[m]'hm2).2.1 <;> cases a2 : ((ys[m + 1]'hm1).1 == (ys[m]'hm2).1) <;> simp [a1, a3]
          clear hmk hki hp ho hins he hc hc' hln hm0
          go_upto_region 6 with (fail)
          go_cut [58] (fun t wq => CR (ltE (ys[m + 1]'hm1) (ys[m]'hm2)) wr t wq)
          case first =>
            rcases h4 with h4 | ⟨h4, h5, h6⟩ | ⟨h4, h5⟩ | ⟨h4, h5, h6⟩
            · have HB : RowKit.Hid (ltE (ys[m + 1]'hm1) (ys[m]'hm2) = true) := Lib.hid (by simp only [ltE, decide_eq_true_eq]; exact Or.inl h4)
              go_quiet (fail)
              go_wp2
              go_meet
              case rel => rw [HB.out]; exact ⟨rfl, _, rfl⟩
            · have HB : RowKit.Hid (ltE (ys[m + 1]'hm1) (ys[m]'hm2) = true) := Lib.hid (by simp only [ltE, decide_eq_true_eq]; exact Or.inr ⟨by simpa using h5, h6⟩)
              go_quiet (fail)
              go_wp2
              go_meet
              case rel => rw [HB.out]; exact ⟨rfl, _, rfl⟩
            · have HB : RowKit.Hid (ltE (ys[m + 1]'hm1) (ys[m]'hm2) = false) := Lib.hid (by simp only [ltE, decide_eq_false_iff_not]; rintro (h | ⟨h, -⟩) <;> first | exact h4 h | (rw [h] at h5; simp at h5))
              go_quiet (fail)
              go_wp2
              go_meet
              case rel => rw [HB.out]; exact ⟨rfl, _, rfl⟩
            · have HB : RowKit.Hid (ltE (ys[m + 1]'hm1) (ys[m]'hm2) = false) := Lib.hid (by simp only [ltE, decide_eq_false_iff_not]; rintro (h | ⟨-, h⟩) <;> first | exact h4 h | exact h6 h)
              go_quiet (fail)
              go_wp2
              go_meet
              case rel => rw [HB.out]; exact ⟨rfl, _, rfl⟩
          case rest =>
            obtain ⟨rfl, nq, rfl⟩ := hcut
            clear h4
            cases hb : ltE (ys[m + 1]'hm1) (ys[m]'hm2) with
            | true =>
              have HB := Lib.hid hb
              clear hb
              have hfz : ∀ j, (wr.drewN nq).frozen? ⟨g, j, none⟩ = false := fun j => own_frz HI.out.2.2.2.1 j
              have k1 : (wr.drewN nq).cell? ⟨g, (m + 1) * 3, none⟩ = some (kI (ys[m + 1]'hm1).1) := c1
              have k1a : (wr.drewN nq).cell? ⟨g, (m + 1) * 3 + 1, none⟩ = some (kI (ys[m + 1]'hm1).2.1) := c1a
              have k1b : (wr.drewN nq).cell? ⟨g, (m + 1) * 3 + 2, none⟩ = some (.int .i64 (ys[m + 1]'hm1).2.2) := c1b
              have k0 : (wr.drewN nq).cell? ⟨g, m * 3, none⟩ = some (kI (ys[m]'hm2).1) := c0
              have k0a : (wr.drewN nq).cell? ⟨g, m * 3 + 1, none⟩ = some (kI (ys[m]'hm2).2.1) := c0a
              have k0b : (wr.drewN nq).cell? ⟨g, m * 3 + 2, none⟩ = some (.int .i64 (ys[m]'hm2).2.2) := c0b
              have f1 := hfz ((m + 1) * 3)
              have f1a := hfz ((m + 1) * 3 + 1)
              have f1b := hfz ((m + 1) * 3 + 2)
              have f0 := hfz (m * 3)
              have f0a := hfz (m * 3 + 1)
              have f0b := hfz (m * 3 + 2)
              have hEn := Lib.hid ((Ext.refl No wr).drewN nq)
              revert k1 k1a k1b k0 k0a k0b f1 f1a f1b f0 f0a f0b hEn
              generalize wr.drewN nq = W2
              intro k1 k1a k1b k0 k0a k0b f1 f1a f1b f0 f0a f0b hEn
              clear hfz c1 c0 c1a c1b c0a c0b
              go_wp2
              go_region_law (fail)
              all_goals
                have hB := (HI.out.2.2.2.1.lt g rfl).1
                have HW := Lib.hid (And.intro (own_swapT (ownsRow_ext HI.out.2.2.2.1 hEn.out (fun _ _ h => h)) hm1) (((((((HI.out.2.2.2.2.2.trans hEn.out).setN (o := (m + 1) * 3) hB (.int .i64 (ys[m]'hm2).1)).setN (o := (m + 1) * 3 + 1) hB (.int .i64 (ys[m]'hm2).2.1)).setN (o := (m + 1) * 3 + 2) hB (.int .i64 (ys[m]'hm2).2.2)).setN (o := m * 3) hB (.int .i64 (ys[m + 1]'hm1).1)).setN (o := m * 3 + 1) hB (.int .i64 (ys[m + 1]'hm1).2.1)).setN (o := m * 3 + 2) hB (.int .i64 (ys[m + 1]'hm1).2.2)))
                clear k1 k1a k1b k0 k0a k0b f1 f1a f1b f0 f0a f0b hB
                generalize (((((W2.setCell ⟨g, (m + 1) * 3, none⟩ (.int .i64 (ys[m]'hm2).1)).setCell ⟨g, (m + 1) * 3 + 1, none⟩ (.int .i64 (ys[m]'hm2).2.1)).setCell ⟨g, (m + 1) * 3 + 2, none⟩ (.int .i64 (ys[m]'hm2).2.2)).setCell ⟨g, m * 3, none⟩ (.int .i64 (ys[m + 1]'hm1).1)).setCell ⟨g, m * 3 + 1, none⟩ (.int .i64 (ys[m + 1]'hm1).2.1)).setCell ⟨g, m * 3 + 2, none⟩ (.int .i64 (ys[m + 1]'hm1).2.2) = W3 at HW ⊢
                go_wp2
                go_roundg m
                case measure => have := HI.out.1; omega
                case rel =>
                  obtain ⟨hmk, hki, hp, ho, hins, he⟩ := HI.out
                  exact ⟨m, _, rfl, rfl, by omega, (swp1_perm (by omega) hm1).trans hp, HW.out.1, hins.step swo_ltE (by omega) hki hm1 HB.out, HW.out.2.drew⟩
            | false =>
              have HB := Lib.hid hb
              clear hb
              go_wp2
              go_roundg (l.length - (i + 1))
              case measure => have := HR.out.1; omega
              case rel =>
                obtain ⟨hmk, hki, hp, ho, hins, he⟩ := HI.out
                exact ⟨i + 1, ys, by rw [w64 (by have := HH.out.2; omega)], by omega, hp, ho, fun j hj => by
                  obtain rfl : i = j := by omega
                  exact hins.stop swo_ltE hki (by omega) (Or.inr ⟨by omega, HB.out⟩), he.drewN _⟩
    · have hnlt : ¬ (i : Int) < (l.length : Int) := by omega
      have hi : i = l.length := by omega
      have HR := Lib.hid (And.intro hp (And.intro ho (And.intro hs he)))
      clear hk hp ho hs he
      go_wp2
      go_ret
      obtain ⟨hp, ho, hs, he⟩ := HR.out
      refine ⟨_, xs, rfl, hp, ?_, ho, he⟩
      cases i with
      | zero => exact pair_small (by rw [hp.length_eq]; omega)
      | succ j => exact (hs j rfl).all (by rw [hp.length_eq]; omega)
end Go.Proofs.YtcenebjdhbdejaaGreatDoor

namespace Go.Proofs.YtcenebjdhbdejaaGreatDoor
open Go.MapKept Go.Sort

/-- what Both makes of an edge -/
def bothL (dir back : Bool) (e : Tri) : List Tri := (if !back || !dir then [e] else []) ++ (if (back && dir) || (!dir && e.1 != e.2.1) then [revT e] else [])

theorem bothL_len (dir back : Bool) (e : Tri) : (bothL dir back e).length ≤ 2 := by
  unfold bothL; cases dir <;> cases back <;> simp <;> split <;> simp
theorem bothAll_len (dir back : Bool) : ∀ (E : List Tri), (E.flatMap (bothL dir back)).length ≤ 2 * E.length
  | [] => by simp
  | e :: E => by
    have := bothAll_len dir back E
    have := bothL_len dir back e
    simp only [List.flatMap_cons, List.length_append, List.length_cons]
    omega

/-- a round of Both -/
def BO (w : World) (dir back : Bool) (E : List Tri) (k : Nat) (ov iv : Value) (wr : World) : Prop :=
  ∃ (i : Nat) (xs : List Tri), iv = .int .i64 i ∧ i + k = E.length ∧ xs = (E.take i).flatMap (bothL dir back) ∧ wr.ownsRow w.heap.size 48 3 ov xs.length (xs.flatMap triC) ∧ Ext No w wr

theorem alloc_n {W : World} {n : Nat} (h : W.heap.size = n) (o : Obj) : (W.alloc o).heap[n]? = some o := h ▸ (heap_alloc W o).1
theorem cells3 {w : World} {b : Nat} {e : Tri} {T : TypeId} (h : w.heap[b]? = some (.cells (triC e).toArray T (0, 0))) :
    w.cell? ⟨b, 0, none⟩ = some (kI e.1) ∧ w.cell? ⟨b, 1, none⟩ = some (kI e.2.1) ∧ w.cell? ⟨b, 2, none⟩ = some (.int .i64 e.2.2) := by
  simp [World.cell?, h]

/-- the world of a round behind the two variables -/
abbrev bw (w : World) (e : Tri) : World := (w.alloc (.cells (triC e).toArray 48)).alloc (.cells (triC (revT e)).toArray 48)

/-- behind an append in a round -/
structure BA (w : World) (N mm : Nat) (dir prev : Bool) (s : PS) (vs es : Value) (xs : List Tri) (v : Value) (n : Nat) (e : Tri) (wa : World) : Prop where
  M : Mo wa N mm dir prev s vs es
  r7 : wa.heap[n]? = some (.cells (triC e).toArray 48 (0, 0))
  r8 : wa.heap[n + 1]? = some (.cells (triC (revT e)).toArray 48 (0, 0))
  own : wa.ownsRow w.heap.size 48 3 v xs.length (xs.flatMap triC)
  he : Ext No w wa

theorem BA.start {w wr : World} {N mm : Nat} {dir prev : Bool} {s : PS} {vs es : Value} {xs : List Tri} {v : Value} {e : Tri} (h : Mo w N mm dir prev s vs es) (ho : wr.ownsRow w.heap.size 48 3 v xs.length (xs.flatMap triC)) (he : Ext No w wr) :
    BA w N mm dir prev s vs es xs v wr.heap.size e (bw wr e) := by
  have e1 : Ext No wr (bw wr e) := ((Ext.refl _ wr).alloc _).alloc _
  exact ⟨h.no (he.trans e1), alloc_heap (heap_alloc wr _).1 _, two_new wr _ _, ownsRow_ext ho e1 (fun _ _ h => h), he.trans e1⟩

theorem BA.next {w W wa : World} {N mm n : Nat} {dir prev : Bool} {s : PS} {vs es : Value} {xs ys : List Tri} {v v' : Value} {e : Tri} {o : Obj} (h : BA w N mm dir prev s vs es xs v n e W) (_hn : w.heap.size ≤ n) (hv : ∀ c, v.ownBlock = some c → c < n) (hm : Mo w N mm dir prev s vs es)
    (ho : wa.ownsRow w.heap.size 48 3 v' ys.length (ys.flatMap triC)) (he : Ext (fun c => some c = v.ownBlock) (W.alloc o) wa) : BA w N mm dir prev s vs es ys v' n e wa := by
  have e1 : Ext No W (W.alloc o) := (Ext.refl _ W).alloc _
  have hb : ∀ c, some c = v.ownBlock → w.heap.size ≤ c ∧ c < n := fun c hc => ⟨(h.own.lt c hc.symm).1, hv c hc.symm⟩
  have e2 : Ext No w wa := (h.he.trans e1).then he (fun c hc e => by have := (hb c e).1; omega)
  exact ⟨hm.no e2, he.obj (e1.obj h.r7 id) (fun e => by have := (hb _ e).2; omega), he.obj (e1.obj h.r8 id) (fun e => by have := (hb _ e).2; omega), ho, e2⟩

set_option maxRecDepth 100000 in
set_option maxHeartbeats 2000000 in
theorem both_run {w : World} {N mm : Nat} {dir prev back : Bool} {s : PS} {vs es : Value} (h : Mo w N mm dir prev s vs es) (hl : s.E.length < 400000) :
    Calls Tryz.prog 21 #[.pointer (some ⟨mm, 0, none⟩), .bool back] w (EndsPost w (s.E.flatMap (bothL dir back))) := by
  obtain ⟨x0, x1, x2, x3, -⟩ := cells4 h.row
  have l0 := World.block_lt_of_cell? _ _ x0
  obtain ⟨q, cap, rfl, -⟩ := own_read (f := triC) (fun _ => rfl) h.E
  have HV := Lib.hid h
  have HL := Lib.hid hl
  clear h hl
  go_enter Tryz.func21, Tryz.ntmps21
  go_wp2_with fail
  clear x0 x1 x2 x3 l0
  try go_frame
  go_loopg [5, 14] s.E.length (fun k ov iv wr => BO w dir back s.E k ov iv wr)
  case atStart => exact ⟨0, [], rfl, by simp, by simp, nil_own, Ext.refl _ _⟩
  case round =>
    obtain ⟨i, xs, rfl, hk, hxs, ho, he⟩ := hrel
    by_cases hlt : i < s.E.length
    · have hM := HV.out.no he
      obtain ⟨x0, x1, x2, x3, -⟩ := cells4 hM.row
      have l0 := World.block_lt_of_cell? _ _ x0
      obtain ⟨g, rfl, hg, hc⟩ := own_at (f := triC) (fun _ => rfl) hM.E hlt
      have c0 : wr.cell? ⟨g, i * 3, none⟩ = some (kI (s.E[i]'hlt).1) := hc 0 (by decide)
      have c1 : wr.cell? ⟨g, i * 3 + 1, none⟩ = some (kI (s.E[i]'hlt).2.1) := hc 1 (by decide)
      have c2 : wr.cell? ⟨g, i * 3 + 2, none⟩ = some (.int .i64 (s.E[i]'hlt).2.2) := hc 2 (by decide)
      have hlt' : (i : Int) < (s.E.length : Int) := by omega
      have hxl : xs.length < 900000 := by
        have h1 := bothAll_len dir back (s.E.take i)
        have h2 := HL.out
        rw [← hxs, List.length_take] at h1
        omega
      obtain ⟨q2, cap2, rfl, -⟩ := own_read (f := triC) (fun _ => rfl) ho
      have HK := Lib.hid (And.intro hk (And.intro hxs (And.intro ho (And.intro he hxl))))
      clear hk hxs ho he hc hM hxl
      generalize hx : s.E[i]'hlt = e at c0 c1 c2
      have HX := Lib.hid hx
      clear hx
      have hcs : (e.1 == e.2.1) = true ∨ (e.1 == e.2.1) = false := by cases (e.1 == e.2.1) <;> simp
      have HB : RowKit.Hid (BA w N mm dir prev s vs (.slice (some ⟨g, 0, none⟩) s.E.length cap) xs (.slice q2 xs.length cap2) wr.heap.size e (bw wr e)) := Lib.hid (BA.start HV.out HK.out.2.2.1 HK.out.2.2.2.1)
      cases dir
      · rcases hcs with hcs | hcs
        · have hcn := congrArg not hcs
          cases back
          · go_wp2_with (at_builtin; (refine wpL_append1 (v := .slice q2 xs.length cap2) (xs := xs) (b := wr.heap.size + 2) rfl rfl U27 I48 rfl (by decide) (by decide) (f := triC) (fun _ => rfl) triC_one rfl (HB.out.own.alloc (.cells (triC e).toArray 48)) e rfl ⟨48, (0, 0), alloc_n (by simp) _⟩ (by have := HK.out.2.2.2.2; omega) (HB.out.he.alloc _).size ?_); intro v1 wa hoa hea hba; obtain ⟨q3, cap3, hv, -⟩ := own_read (f := triC) (fun _ => rfl) hoa; simp only [List.length_append, List.length_cons, List.length_nil, Nat.zero_add] at hv; subst hv; have HA := Lib.hid (HB.out.next HK.out.2.2.2.1.size (fun c hc => (HK.out.2.2.1.lt c hc).2) HV.out hoa hea); clear hoa hea hba; obtain ⟨x0, -, -, -, -⟩ := cells4 HA.out.M.row; obtain ⟨s0, s1, s2⟩ := cells3 HA.out.r7; obtain ⟨t0, t1, t2⟩ := cells3 HA.out.r8; have l0 := World.block_lt_of_cell? _ _ x0; have l1 := World.block_lt_of_cell? _ _ s0; have l2 := World.block_lt_of_cell? _ _ t0)
            go_roundg (s.E.length - (i + 1))
            case measure => have := HK.out.1; omega
            case rel =>
              obtain ⟨hk, hxs, ho, he, hxl⟩ := HK.out
              refine ⟨i + 1, xs ++ [e], by rw [w64 (by have := HL.out; omega)], by omega, ?_, HA.out.own, HA.out.he⟩
              rw [List.take_add_one, List.getElem?_eq_getElem hlt, List.flatMap_append, ← hxs, HX.out]
              simp [bothL, by simpa using hcs]
          · go_wp2_with (at_builtin; (refine wpL_append1 (v := .slice q2 xs.length cap2) (xs := xs) (b := wr.heap.size + 2) rfl rfl U27 I48 rfl (by decide) (by decide) (f := triC) (fun _ => rfl) triC_one rfl (HB.out.own.alloc (.cells (triC e).toArray 48)) e rfl ⟨48, (0, 0), alloc_n (by simp) _⟩ (by have := HK.out.2.2.2.2; omega) (HB.out.he.alloc _).size ?_); intro v1 wa hoa hea hba; obtain ⟨q3, cap3, hv, -⟩ := own_read (f := triC) (fun _ => rfl) hoa; simp only [List.length_append, List.length_cons, List.length_nil, Nat.zero_add] at hv; subst hv; have HA := Lib.hid (HB.out.next HK.out.2.2.2.1.size (fun c hc => (HK.out.2.2.1.lt c hc).2) HV.out hoa hea); clear hoa hea hba; obtain ⟨x0, -, -, -, -⟩ := cells4 HA.out.M.row; obtain ⟨s0, s1, s2⟩ := cells3 HA.out.r7; obtain ⟨t0, t1, t2⟩ := cells3 HA.out.r8; have l0 := World.block_lt_of_cell? _ _ x0; have l1 := World.block_lt_of_cell? _ _ s0; have l2 := World.block_lt_of_cell? _ _ t0)
            go_roundg (s.E.length - (i + 1))
            case measure => have := HK.out.1; omega
            case rel =>
              obtain ⟨hk, hxs, ho, he, hxl⟩ := HK.out
              refine ⟨i + 1, xs ++ [e], by rw [w64 (by have := HL.out; omega)], by omega, ?_, HA.out.own, HA.out.he⟩
              rw [List.take_add_one, List.getElem?_eq_getElem hlt, List.flatMap_append, ← hxs, HX.out]
              simp [bothL, by simpa using hcs]
        · have hcn := congrArg not hcs
          cases back
          · go_wp2_with (first | (at_builtin; (refine wpL_append1 (v := .slice q2 xs.length cap2) (xs := xs) (b := wr.heap.size + 2) rfl rfl U27 I48 rfl (by decide) (by decide) (f := triC) (fun _ => rfl) triC_one rfl (HB.out.own.alloc (.cells (triC e).toArray 48)) e rfl ⟨48, (0, 0), alloc_n (by simp) _⟩ (by have := HK.out.2.2.2.2; omega) (HB.out.he.alloc _).size ?_); intro v1 wa hoa hea hba; obtain ⟨q3, cap3, hv, -⟩ := own_read (f := triC) (fun _ => rfl) hoa; simp only [List.length_append, List.length_cons, List.length_nil, Nat.zero_add] at hv; subst hv; have HA := Lib.hid (HB.out.next HK.out.2.2.2.1.size (fun c hc => (HK.out.2.2.1.lt c hc).2) HV.out hoa hea); clear hoa hea hba; obtain ⟨x0, -, -, -, -⟩ := cells4 HA.out.M.row; obtain ⟨s0, s1, s2⟩ := cells3 HA.out.r7; obtain ⟨t0, t1, t2⟩ := cells3 HA.out.r8; have l0 := World.block_lt_of_cell? _ _ x0; have l1 := World.block_lt_of_cell? _ _ s0; have l2 := World.block_lt_of_cell? _ _ t0) | (at_builtin; (refine wpL_append1 (v := .slice q3 (xs.length + 1) cap3) (xs := xs ++ [e]) (b := wa.heap.size) rfl rfl U27 I48 rfl (by decide) (by decide) (f := triC) (fun _ => rfl) triC_one rfl (HA.out.own.alloc (.cells (triC (revT e)).toArray 48)) (revT e) rfl ⟨48, (0, 0), (heap_alloc wa _).1⟩ (by have := HK.out.2.2.2.2; simp; omega) (HA.out.he.alloc _).size ?_); intro v2 wb hob heb hbb; have HC := Lib.hid (And.intro hob (HA.out.he.then (S := No) (T := fun c => some c = (Value.slice q3 (xs.length + 1) cap3).ownBlock) ((Ext.refl _ _).alloc _ |>.no.trans heb) (fun c hc e => by have := (HA.out.own.lt c e.symm).1; omega))); clear hob heb hbb))
            go_roundg (s.E.length - (i + 1))
            case measure => have := HK.out.1; omega
            case rel =>
              obtain ⟨hk, hxs, ho, he, hxl⟩ := HK.out
              refine ⟨i + 1, xs ++ [e] ++ [revT e], by rw [w64 (by have := HL.out; omega)], by omega, ?_, HC.out.1, HC.out.2⟩
              rw [List.take_add_one, List.getElem?_eq_getElem hlt, List.flatMap_append, ← hxs, HX.out]
              simp [bothL, (show ¬ e.1 = e.2.1 by simpa using hcs)]
          · go_wp2_with (first | (at_builtin; (refine wpL_append1 (v := .slice q2 xs.length cap2) (xs := xs) (b := wr.heap.size + 2) rfl rfl U27 I48 rfl (by decide) (by decide) (f := triC) (fun _ => rfl) triC_one rfl (HB.out.own.alloc (.cells (triC e).toArray 48)) e rfl ⟨48, (0, 0), alloc_n (by simp) _⟩ (by have := HK.out.2.2.2.2; omega) (HB.out.he.alloc _).size ?_); intro v1 wa hoa hea hba; obtain ⟨q3, cap3, hv, -⟩ := own_read (f := triC) (fun _ => rfl) hoa; simp only [List.length_append, List.length_cons, List.length_nil, Nat.zero_add] at hv; subst hv; have HA := Lib.hid (HB.out.next HK.out.2.2.2.1.size (fun c hc => (HK.out.2.2.1.lt c hc).2) HV.out hoa hea); clear hoa hea hba; obtain ⟨x0, -, -, -, -⟩ := cells4 HA.out.M.row; obtain ⟨s0, s1, s2⟩ := cells3 HA.out.r7; obtain ⟨t0, t1, t2⟩ := cells3 HA.out.r8; have l0 := World.block_lt_of_cell? _ _ x0; have l1 := World.block_lt_of_cell? _ _ s0; have l2 := World.block_lt_of_cell? _ _ t0) | (at_builtin; (refine wpL_append1 (v := .slice q3 (xs.length + 1) cap3) (xs := xs ++ [e]) (b := wa.heap.size) rfl rfl U27 I48 rfl (by decide) (by decide) (f := triC) (fun _ => rfl) triC_one rfl (HA.out.own.alloc (.cells (triC (revT e)).toArray 48)) (revT e) rfl ⟨48, (0, 0), (heap_alloc wa _).1⟩ (by have := HK.out.2.2.2.2; simp; omega) (HA.out.he.alloc _).size ?_); intro v2 wb hob heb hbb; have HC := Lib.hid (And.intro hob (HA.out.he.then (S := No) (T := fun c => some c = (Value.slice q3 (xs.length + 1) cap3).ownBlock) ((Ext.refl _ _).alloc _ |>.no.trans heb) (fun c hc e => by have := (HA.out.own.lt c e.symm).1; omega))); clear hob heb hbb))
            go_roundg (s.E.length - (i + 1))
            case measure => have := HK.out.1; omega
            case rel =>
              obtain ⟨hk, hxs, ho, he, hxl⟩ := HK.out
              refine ⟨i + 1, xs ++ [e] ++ [revT e], by rw [w64 (by have := HL.out; omega)], by omega, ?_, HC.out.1, HC.out.2⟩
              rw [List.take_add_one, List.getElem?_eq_getElem hlt, List.flatMap_append, ← hxs, HX.out]
              simp [bothL, (show ¬ e.1 = e.2.1 by simpa using hcs)]
      · cases back
        · go_wp2_with (at_builtin; (refine wpL_append1 (v := .slice q2 xs.length cap2) (xs := xs) (b := wr.heap.size + 2) rfl rfl U27 I48 rfl (by decide) (by decide) (f := triC) (fun _ => rfl) triC_one rfl (HB.out.own.alloc (.cells (triC e).toArray 48)) e rfl ⟨48, (0, 0), alloc_n (by simp) _⟩ (by have := HK.out.2.2.2.2; omega) (HB.out.he.alloc _).size ?_); intro v1 wa hoa hea hba; obtain ⟨q3, cap3, hv, -⟩ := own_read (f := triC) (fun _ => rfl) hoa; simp only [List.length_append, List.length_cons, List.length_nil, Nat.zero_add] at hv; subst hv; have HA := Lib.hid (HB.out.next HK.out.2.2.2.1.size (fun c hc => (HK.out.2.2.1.lt c hc).2) HV.out hoa hea); clear hoa hea hba; obtain ⟨x0, -, -, -, -⟩ := cells4 HA.out.M.row; obtain ⟨s0, s1, s2⟩ := cells3 HA.out.r7; obtain ⟨t0, t1, t2⟩ := cells3 HA.out.r8; have l0 := World.block_lt_of_cell? _ _ x0; have l1 := World.block_lt_of_cell? _ _ s0; have l2 := World.block_lt_of_cell? _ _ t0)
          go_roundg (s.E.length - (i + 1))
          case measure => have := HK.out.1; omega
          case rel =>
            obtain ⟨hk, hxs, ho, he, hxl⟩ := HK.out
            refine ⟨i + 1, xs ++ [e], by rw [w64 (by have := HL.out; omega)], by omega, ?_, HA.out.own, HA.out.he⟩
            rw [List.take_add_one, List.getElem?_eq_getElem hlt, List.flatMap_append, ← hxs, HX.out]
            simp [bothL]
        · go_wp2_with (at_builtin; (refine wpL_append1 (v := .slice q2 xs.length cap2) (xs := xs) (b := wr.heap.size + 2) rfl rfl U27 I48 rfl (by decide) (by decide) (f := triC) (fun _ => rfl) triC_one rfl (HB.out.own.alloc (.cells (triC (revT e)).toArray 48)) (revT e) rfl ⟨48, (0, 0), alloc_n (by simp) _⟩ (by have := HK.out.2.2.2.2; omega) (HB.out.he.alloc _).size ?_); intro v1 wa hoa hea hba; obtain ⟨q3, cap3, hv, -⟩ := own_read (f := triC) (fun _ => rfl) hoa; simp only [List.length_append, List.length_cons, List.length_nil, Nat.zero_add] at hv; subst hv; have HA := Lib.hid (HB.out.next HK.out.2.2.2.1.size (fun c hc => (HK.out.2.2.1.lt c hc).2) HV.out hoa hea); clear hoa hea hba; obtain ⟨x0, -, -, -, -⟩ := cells4 HA.out.M.row; obtain ⟨s0, s1, s2⟩ := cells3 HA.out.r7; obtain ⟨t0, t1, t2⟩ := cells3 HA.out.r8; have l0 := World.block_lt_of_cell? _ _ x0; have l1 := World.block_lt_of_cell? _ _ s0; have l2 := World.block_lt_of_cell? _ _ t0)
          go_roundg (s.E.length - (i + 1))
          case measure => have := HK.out.1; omega
          case rel =>
            obtain ⟨hk, hxs, ho, he, hxl⟩ := HK.out
            refine ⟨i + 1, xs ++ [revT e], by rw [w64 (by have := HL.out; omega)], by omega, ?_, HA.out.own, HA.out.he⟩
            rw [List.take_add_one, List.getElem?_eq_getElem hlt, List.flatMap_append, ← hxs, HX.out]
            simp [bothL]
    · have hnlt : ¬ (i : Int) < (s.E.length : Int) := by omega
      have hi : i = s.E.length := by omega
      obtain ⟨q2, cap2, rfl, -⟩ := own_read (f := triC) (fun _ => rfl) ho
      have HK := Lib.hid (And.intro hk (And.intro hxs (And.intro ho he)))
      clear hk hxs ho he
      go_wp2_with fail
      refine (byEnds_run (RdS.of_own HK.out.2.2.1) (by
        have h1 := bothAll_len dir back (s.E.take i)
        have h2 := HL.out
        rw [← HK.out.2.1, List.length_take] at h1
        omega)).mono ?_
      rintro r1 w1 ⟨v, ys, rfl, hp, hs, ho1, he1⟩
      have HQ := Lib.hid (And.intro hp (And.intro hs (And.intro ho1 he1)))
      clear hp hs ho1 he1
      go_wp2
      go_ret
      obtain ⟨hk, hxs, ho, he⟩ := HK.out
      obtain ⟨hp, hs, ho1, he1⟩ := HQ.out
      refine ⟨v, ys, rfl, ?_, hs, ownsRow_low ho1 he.size, he.trans he1⟩
      rw [hi, List.take_length] at hxs
      rw [← hxs]; exact hp
end Go.Proofs.YtcenebjdhbdejaaGreatDoor

namespace Go.Proofs.YtcenebjdhbdejaaGreatDoor
open Go.MapKept

/-- what a graph as lists says of all its vertices and edges -/
def DoBM (dir back : Bool) (s : PS) (s' : PS) (sp : SP) : Prop :=
  s' = s ∧ sp.er = 0 ∧ sp.a = 0 ∧ sp.b = 0 ∧ sp.w = 0 ∧ sp.ks.Perm s.V ∧ sp.ks.Pairwise (fun a b => ltK b a = false) ∧ sp.es.Perm (s.E.flatMap (bothL dir back)) ∧ sp.es.Pairwise (fun a b => ltE b a = false)

/-- behind the two calls -/
structure BmEnd (w : World) (N mm : Nat) (dir prev : Bool) (s : PS) (vs es ks xs : Value) (kl : List Int) (el : List Tri) (W : World) : Prop where
  said : W.heap[w.heap.size + 2]? = some (.cells #[.int .u8 0, .int .i64 0, .int .i64 0, .int .i64 0, ks, xs] 41 (0, 0))
  res : W.heap[w.heap.size + 1]? = some said0s
  M : Mo W N mm dir prev s vs es
  K : W.ownsRow w.heap.size 2 1 ks kl.length (kl.flatMap oneC)
  E : W.ownsRow w.heap.size 48 3 xs el.length (el.flatMap triC)
  he : Ext No w W

theorem BmEnd.of {w w2 w3 w4 : World} {op a b wt : Int} {N mm : Nat} {dir prev : Bool} {s : PS} {vs es ks xs : Value} {kl : List Int} {el : List Tri} (h : DW w op a b wt w2) (hm : Mo w2 N mm dir prev s vs es) (hmm : mm < w.heap.size)
    (h3 : Ext No w2 w3) (hk : w3.ownsRow w2.heap.size 2 1 ks kl.length (kl.flatMap oneC)) (h4 : Ext No w3 w4) (he : w4.ownsRow w3.heap.size 48 3 xs el.length (el.flatMap triC)) :
    BmEnd w N mm dir prev s vs es ks xs kl el ((w4.setCell ⟨w.heap.size + 2, 4, none⟩ ks).setCell ⟨w.heap.size + 2, 5, none⟩ xs) := by
  have e24 := h3.trans h4
  have e5 : Ext (fun c => c = w.heap.size + 2) w4 ((w4.setCell ⟨w.heap.size + 2, 4, none⟩ ks).setCell ⟨w.heap.size + 2, 5, none⟩ xs) := ((Ext.refl (fun c => c = w.heap.size + 2) w4).setCell ⟨w.heap.size + 2, 4, none⟩ ks (fun _ => rfl)).setCell ⟨w.heap.size + 2, 5, none⟩ xs (fun _ => rfl)
  have hsaid := e24.obj h.said id
  have hs0 := h.he.size
  have hs1 := h3.size
  have hr : ∀ {B ee size n : Nat} {v : Value} {xs : List Value}, w4.ownsRow B ee size v n xs → ee ≠ 41 → ∀ c, v.ownBlock = some c → ¬ (c = w.heap.size + 2) := by
    intro B ee size n v xs ho hne c hc hh
    subst hh
    exact row_ne hsaid ho (Ne.symm hne) hc
  have hV := ownsRow_ext hm.V e24 (fun _ _ h => h)
  have hE := ownsRow_ext hm.E e24 (fun _ _ h => h)
  have hk4 := ownsRow_ext hk h4 (fun _ _ h => h)
  refine ⟨set_heap (set_heap hsaid ks) xs, e5.obj (e24.obj h.res id) (by omega), ⟨e5.obj (e24.obj hm.row id) (by omega), ownsRow_ext hV e5 (hr hV (by decide)), ownsRow_ext hE e5 (hr hE (by decide))⟩,
    ownsRow_low (ownsRow_ext hk4 e5 (hr hk4 (by decide))) hs0, ownsRow_low (ownsRow_ext he e5 (hr he (by decide))) (by omega), (h.he.trans e24).then e5 (fun c hc e => by omega)⟩

set_option maxRecDepth 100000 in
set_option maxHeartbeats 2000000 in
theorem do_am {w : World} {N mm : Nat} {dir prev : Bool} {s : PS} {vs es : Value} {a b wt : Int} (h : Mo w N mm dir prev s vs es) (hN : N ≤ w.heap.size) (hl : s.V.length + s.E.length < 300000) :
    Calls Tryz.prog 14 #[.pointer (some ⟨mm, 0, none⟩), stepV 9 a b wt] w (DoPost dir prev N mm (DoBM dir false s) w) := by
  have HM := Lib.hid (And.intro h (And.intro hN hl))
  clear h hN hl
  go_enter Tryz.func14, Tryz.ntmps14
  go_wp2_with fail
  have e0 : Ext No w (dw w 9 a b wt) := dw_ext w 9 a b wt
  refine (at_run (HM.out.1.no e0) (by have := HM.out.2.2; omega)).mono ?_
  rintro r1 w2 ⟨n, rfl, hat, he⟩
  have HE := Lib.hid (DW.of he (w := w) (op := 9) (a := a) (b := b) (wt := wt))
  have HM2 := Lib.hid (HM.out.1.no (e0.trans he))
  clear he e0 hat
  obtain ⟨x0, x1, x2, x3, -⟩ := cells4 HE.out.step
  obtain ⟨m0, m1, m2, m3, -⟩ := cells4 HM2.out.row
  obtain ⟨y0, y1, y2, y3, y4, y5, g0, g1, g2, g3, g4, g5⟩ := cells6 HE.out.said
  have lm := World.block_lt_of_cell? _ _ m0
  have lx := World.block_lt_of_cell? _ _ x0
  have ly := World.block_lt_of_cell? _ _ y0
  have hmm := HM.out.1.lt' HM.out.2.1
  have HMM := Lib.hid hmm
  have hne : ¬ w.heap.size + 1 + 1 = mm := by omega
  clear hmm
  go_wp2_with fail
  clear x1 x2 x3 m0 m1 m3 y0 y1 y2 y3
  go_region_held3 (fun u => u.cell? ⟨mm, 2, none⟩ = some vs ∧ u.cell? ⟨w.heap.size, 0, none⟩ = some (.int .u8 9)) (first | exact ⟨m2, x0⟩ | exact ⟨k2, kx⟩ | exact ⟨j2, jx⟩ | (constructor <;> ((repeat rw [World.cell?_setCell_far _ _ _ _ (by first | exact hne | (show ¬ w.heap.size + 1 + 1 = w.heap.size; omega))]); assumption)))
    (first
      | (go_at_call 28; (refine (risen_run ((RdS.of_own HM2.out.V).ext ((Ext.refl No w2).drew) (fun _ _ h => h)) (by have := HM.out.2.2; omega)).mono ?_); rintro r3 w3 ⟨v3, kl, rfl, hkp, hks, hko, hke⟩; obtain ⟨q3, c3, rfl, -⟩ := own_read (f := oneC) (fun _ => rfl) hko; have HK := Lib.hid (And.intro hkp (And.intro hks (And.intro hko hke))); have k2 := hke.cellv m2 id; have kx := hke.cellv x0 id; clear hkp hks hko hke)
      | (go_at_call 21; (refine (both_run (HM2.out.no (((Ext.refl No w2).drew).trans HK.out.2.2.2)) (by have := HM.out.2.2; omega)).mono ?_); rintro r4 w4 ⟨v4, el, rfl, hep, hes, heo, hee⟩; obtain ⟨q4, c4, rfl, -⟩ := own_read (f := triC) (fun _ => rfl) heo; have HL := Lib.hid (And.intro hep (And.intro hes (And.intro heo hee))); have j2 := hee.cellv k2 id; have jx := hee.cellv kx id; have jf4 := (hee.frz ⟨w.heap.size + 2, 4, none⟩ (Nat.lt_of_lt_of_le ly HK.out.2.2.2.size) id).trans ((HK.out.2.2.2.frz ⟨w.heap.size + 2, 4, none⟩ ly id).trans g4); have jf5 := (hee.frz ⟨w.heap.size + 2, 5, none⟩ (Nat.lt_of_lt_of_le ly HK.out.2.2.2.size) id).trans ((HK.out.2.2.2.frz ⟨w.heap.size + 2, 5, none⟩ ly id).trans g5); have j4 := hee.cellv (HK.out.2.2.2.cellv y4 id) id; have j5 := hee.cellv (HK.out.2.2.2.cellv y5 id) id; have jz := Nat.lt_of_lt_of_le (Nat.lt_of_lt_of_le ly HK.out.2.2.2.size) hee.size; clear hep hes heo hee))
  have HZ : RowKit.Hid (BmEnd w N mm dir prev s vs es (.slice q3 kl.length c3) (.slice q4 el.length c4) kl el ((w4.setCell ⟨w.heap.size + 2, 4, none⟩ (.slice q3 kl.length c3)).setCell ⟨w.heap.size + 2, 5, none⟩ (.slice q4 el.length c4))) := Lib.hid (BmEnd.of HE.out HM2.out HMM.out (((Ext.refl No w2).drew).trans HK.out.2.2.2) HK.out.2.2.1 HL.out.2.2.2 HL.out.2.2.1)
  generalize (w4.setCell ⟨w.heap.size + 2, 4, none⟩ (.slice q3 kl.length c3)).setCell ⟨w.heap.size + 2, 5, none⟩ (.slice q4 el.length c4) = W5 at HZ ⊢
  clear x0 m2 y4 y5 g0 g1 g2 g3 g4 g5 lm lx ly hne k2 kx j2 jx jf4 jf5 j4 j5 jz
  obtain ⟨y0, y1, y2, y3, y4, y5, g0, g1, g2, g3, g4, g5⟩ := cells6 HZ.out.said
  obtain ⟨z0, z1, z2, z3, z4, z5, p0, p1, p2, p3, p4, p5⟩ := cells6 HZ.out.res
  have ly := World.block_lt_of_cell? _ _ y0
  have lz := World.block_lt_of_cell? _ _ z0
  go_wp2
  refine bodyPost_ret (v := saidV 0 0 0 0 (.slice q3 kl.length c3) (.slice q4 el.length c4)) ?hr rfl ?hR
  case hR =>
    have h := HZ.out
    have e7 := (Ext.refl (fun c => c = w.heap.size + 1) W5).set6 (b := w.heap.size + 1) rfl (.int .u8 0) (.int .i64 0) (.int .i64 0) (.int .i64 0) (.slice q3 kl.length c3) (.slice q4 el.length c4)
    exact ⟨s, ⟨0, 0, 0, 0, kl, el⟩, vs, es, _, _, rfl, ⟨rfl, rfl, rfl, rfl, rfl, HK.out.1, HK.out.2.1, HL.out.1, HL.out.2.1⟩, h.M.ext e7 (fun e => by have := HMM.out; omega) (fun c hc e => row_ne h.res h.M.V (by decide) (by rw [hc, e])) (fun c hc e => row_ne h.res h.M.E (by decide) (by rw [hc, e])),
      ownsRow_ext h.K e7 (fun c hc e => row_ne h.res h.K (by decide) (by rw [hc, e])), ownsRow_ext h.E e7 (fun c hc e => row_ne h.res h.E (by decide) (by rw [hc, e])), (h.he.then e7 (fun c hc e => by omega)).no⟩
  case hr => exact results_cell1 (fn := Tryz.f14) (g := w.heap.size + 1) (p := 4) (ty := 41) rfl rfl (set6 HZ.out.res (.int .u8 0) (.int .i64 0) (.int .i64 0) (.int .i64 0) (.slice q3 kl.length c3) (.slice q4 el.length c4)) Tryz.underlying41 rfl sz41

set_option maxRecDepth 100000 in
set_option maxHeartbeats 2000000 in
theorem do_pm {w : World} {N mm : Nat} {dir prev : Bool} {s : PS} {vs es : Value} {a b wt : Int} (h : Mo w N mm dir prev s vs es) (hN : N ≤ w.heap.size) (hl : s.V.length + s.E.length < 300000) :
    Calls Tryz.prog 14 #[.pointer (some ⟨mm, 0, none⟩), stepV 10 a b wt] w (DoPost dir prev N mm (DoBM dir true s) w) := by
  have HM := Lib.hid (And.intro h (And.intro hN hl))
  clear h hN hl
  go_enter Tryz.func14, Tryz.ntmps14
  go_wp2_with fail
  have e0 : Ext No w (dw w 10 a b wt) := dw_ext w 10 a b wt
  refine (at_run (HM.out.1.no e0) (by have := HM.out.2.2; omega)).mono ?_
  rintro r1 w2 ⟨n, rfl, hat, he⟩
  have HE := Lib.hid (DW.of he (w := w) (op := 10) (a := a) (b := b) (wt := wt))
  have HM2 := Lib.hid (HM.out.1.no (e0.trans he))
  clear he e0 hat
  obtain ⟨x0, x1, x2, x3, -⟩ := cells4 HE.out.step
  obtain ⟨m0, m1, m2, m3, -⟩ := cells4 HM2.out.row
  obtain ⟨y0, y1, y2, y3, y4, y5, g0, g1, g2, g3, g4, g5⟩ := cells6 HE.out.said
  have lm := World.block_lt_of_cell? _ _ m0
  have lx := World.block_lt_of_cell? _ _ x0
  have ly := World.block_lt_of_cell? _ _ y0
  have hmm := HM.out.1.lt' HM.out.2.1
  have HMM := Lib.hid hmm
  have hne : ¬ w.heap.size + 1 + 1 = mm := by omega
  clear hmm
  go_wp2_with fail
  clear x1 x2 x3 m0 m1 m3 y0 y1 y2 y3
  go_region_held3 (fun u => u.cell? ⟨mm, 2, none⟩ = some vs ∧ u.cell? ⟨w.heap.size, 0, none⟩ = some (.int .u8 10)) (first | exact ⟨m2, x0⟩ | exact ⟨k2, kx⟩ | exact ⟨j2, jx⟩ | (constructor <;> ((repeat rw [World.cell?_setCell_far _ _ _ _ (by first | exact hne | (show ¬ w.heap.size + 1 + 1 = w.heap.size; omega))]); assumption)))
    (first
      | (go_at_call 28; (refine (risen_run ((RdS.of_own HM2.out.V).ext ((Ext.refl No w2).drew) (fun _ _ h => h)) (by have := HM.out.2.2; omega)).mono ?_); rintro r3 w3 ⟨v3, kl, rfl, hkp, hks, hko, hke⟩; obtain ⟨q3, c3, rfl, -⟩ := own_read (f := oneC) (fun _ => rfl) hko; have HK := Lib.hid (And.intro hkp (And.intro hks (And.intro hko hke))); have k2 := hke.cellv m2 id; have kx := hke.cellv x0 id; clear hkp hks hko hke)
      | (go_at_call 21; (refine (both_run (HM2.out.no (((Ext.refl No w2).drew).trans HK.out.2.2.2)) (by have := HM.out.2.2; omega)).mono ?_); rintro r4 w4 ⟨v4, el, rfl, hep, hes, heo, hee⟩; obtain ⟨q4, c4, rfl, -⟩ := own_read (f := triC) (fun _ => rfl) heo; have HL := Lib.hid (And.intro hep (And.intro hes (And.intro heo hee))); have j2 := hee.cellv k2 id; have jx := hee.cellv kx id; have jf4 := (hee.frz ⟨w.heap.size + 2, 4, none⟩ (Nat.lt_of_lt_of_le ly HK.out.2.2.2.size) id).trans ((HK.out.2.2.2.frz ⟨w.heap.size + 2, 4, none⟩ ly id).trans g4); have jf5 := (hee.frz ⟨w.heap.size + 2, 5, none⟩ (Nat.lt_of_lt_of_le ly HK.out.2.2.2.size) id).trans ((HK.out.2.2.2.frz ⟨w.heap.size + 2, 5, none⟩ ly id).trans g5); have j4 := hee.cellv (HK.out.2.2.2.cellv y4 id) id; have j5 := hee.cellv (HK.out.2.2.2.cellv y5 id) id; have jz := Nat.lt_of_lt_of_le (Nat.lt_of_lt_of_le ly HK.out.2.2.2.size) hee.size; clear hep hes heo hee))
  have HZ : RowKit.Hid (BmEnd w N mm dir prev s vs es (.slice q3 kl.length c3) (.slice q4 el.length c4) kl el ((w4.setCell ⟨w.heap.size + 2, 4, none⟩ (.slice q3 kl.length c3)).setCell ⟨w.heap.size + 2, 5, none⟩ (.slice q4 el.length c4))) := Lib.hid (BmEnd.of HE.out HM2.out HMM.out (((Ext.refl No w2).drew).trans HK.out.2.2.2) HK.out.2.2.1 HL.out.2.2.2 HL.out.2.2.1)
  generalize (w4.setCell ⟨w.heap.size + 2, 4, none⟩ (.slice q3 kl.length c3)).setCell ⟨w.heap.size + 2, 5, none⟩ (.slice q4 el.length c4) = W5 at HZ ⊢
  clear x0 m2 y4 y5 g0 g1 g2 g3 g4 g5 lm lx ly hne k2 kx j2 jx jf4 jf5 j4 j5 jz
  obtain ⟨y0, y1, y2, y3, y4, y5, g0, g1, g2, g3, g4, g5⟩ := cells6 HZ.out.said
  obtain ⟨z0, z1, z2, z3, z4, z5, p0, p1, p2, p3, p4, p5⟩ := cells6 HZ.out.res
  have ly := World.block_lt_of_cell? _ _ y0
  have lz := World.block_lt_of_cell? _ _ z0
  go_wp2
  refine bodyPost_ret (v := saidV 0 0 0 0 (.slice q3 kl.length c3) (.slice q4 el.length c4)) ?hr rfl ?hR
  case hR =>
    have h := HZ.out
    have e7 := (Ext.refl (fun c => c = w.heap.size + 1) W5).set6 (b := w.heap.size + 1) rfl (.int .u8 0) (.int .i64 0) (.int .i64 0) (.int .i64 0) (.slice q3 kl.length c3) (.slice q4 el.length c4)
    exact ⟨s, ⟨0, 0, 0, 0, kl, el⟩, vs, es, _, _, rfl, ⟨rfl, rfl, rfl, rfl, rfl, HK.out.1, HK.out.2.1, HL.out.1, HL.out.2.1⟩, h.M.ext e7 (fun e => by have := HMM.out; omega) (fun c hc e => row_ne h.res h.M.V (by decide) (by rw [hc, e])) (fun c hc e => row_ne h.res h.M.E (by decide) (by rw [hc, e])),
      ownsRow_ext h.K e7 (fun c hc e => row_ne h.res h.K (by decide) (by rw [hc, e])), ownsRow_ext h.E e7 (fun c hc e => row_ne h.res h.E (by decide) (by rw [hc, e])), (h.he.then e7 (fun c hc e => by omega)).no⟩
  case hr => exact results_cell1 (fn := Tryz.f14) (g := w.heap.size + 1) (p := 4) (ty := 41) rfl rfl (set6 HZ.out.res (.int .u8 0) (.int .i64 0) (.int .i64 0) (.int .i64 0) (.slice q3 kl.length c3) (.slice q4 el.length c4)) Tryz.underlying41 rfl sz41

end Go.Proofs.YtcenebjdhbdejaaGreatDoor
