/- What the store of a graph is in memory: the closed facts of the program's types, the six errors, and the store as a list of vertices and a list of edges. -/
import Derived.Test.YtcenebjdhbdejaaGreatDoorChecked
import Derived.Test.YtcenebjdhbdejaaGreatDoorA0
namespace Go.Proofs.YtcenebjdhbdejaaGreatDoor
open Go.MapKept

theorem U2 : Tryz.prog.underlying 2 = some (.int .i64) := by kernel_rfl
theorem U146 : Tryz.prog.underlying 146 = some (.map 2 2) := by kernel_rfl
theorem U147 : Tryz.prog.underlying 147 = some (.map 2 213) := by kernel_rfl
theorem U105 : Tryz.prog.underlying 105 = some (.map 2 107) := by kernel_rfl
theorem U107 : Tryz.prog.underlying 107 = some (.map 2 97) := by kernel_rfl
theorem K2 : KeyT Tryz.prog 2 kI := keyT_i64 U2
theorem Z2 (w : World) : (zeroValue 2).run Tryz.prog w = .ok (.int .i64 0) w := by kernel_rfl
theorem Z213 (w : World) : (zeroValue 213).run Tryz.prog w = .ok (.agg #[.map none, .int .i64 0]) w := by kernel_rfl
theorem Z97 (w : World) : (zeroValue 97).run Tryz.prog w = .ok (.agg #[.int .i64 0, .int .i64 0, .map none, .int .i64 0, .nilIface]) w := by kernel_rfl
theorem Z107 (w : World) : (zeroValue 107).run Tryz.prog w = .ok (.map none) w := by kernel_rfl

/-- An error of the package, by its number. -/
abbrev errv (p : Nat → Addr) (i : Nat) : Value := .iface 185 (.pointer (some (p i)))

/-- The six variables hold six errors, each its own. -/
structure Sent (w : World) (p : Nat → Addr) : Prop where
  c0 : w.cell? ⟨0, 0, none⟩ = some (errv p 0)
  c1 : w.cell? ⟨1, 0, none⟩ = some (errv p 1)
  c2 : w.cell? ⟨2, 0, none⟩ = some (errv p 2)
  c3 : w.cell? ⟨3, 0, none⟩ = some (errv p 3)
  c4 : w.cell? ⟨4, 0, none⟩ = some (errv p 4)
  c5 : w.cell? ⟨5, 0, none⟩ = some (errv p 5)
  row : ∀ i, i < 6 → ∃ cs T, w.heap[(p i).block]? = some (.cells cs T (0, 0))
  inj : ∀ i j, i < 6 → j < 6 → p i = p j → i = j

/-- from block B on lies what the call itself has made: the variables and their errors lie below -/
def Below6 (B : Nat) (p : Nat → Addr) : Prop := 6 ≤ B ∧ ∀ i, i < 6 → (p i).block < B

theorem Sent.ext {S : Nat → Prop} {w w' : World} {p : Nat → Addr} {B : Nat} (h : Sent w p) (hB : Below6 B p) (he : Ext S w w') (hS : ∀ c, S c → B ≤ c) : Sent w' p := by
  have k : ∀ i, i < 6 → ¬ S i := fun i hi hs => by have := hS i hs; have := hB.1; omega
  refine ⟨he.cellv h.c0 (k 0 (by omega)), he.cellv h.c1 (k 1 (by omega)), he.cellv h.c2 (k 2 (by omega)), he.cellv h.c3 (k 3 (by omega)), he.cellv h.c4 (k 4 (by omega)), he.cellv h.c5 (k 5 (by omega)), fun i hi => ?_, h.inj⟩
  obtain ⟨cs, T, hc⟩ := h.row i hi
  exact ⟨cs, T, he.obj hc fun hs => by have := hS _ hs; have := hB.2 i hi; omega⟩

/-- The address of a store: its block, and its four maps. -/
structure Ad where
  s : Nat
  bv : Nat
  bp : Nat
  bo : Nat
  bi : Nat

structure EdgeR where
  src : Int
  dst : Int
  wt : Int
  att : Nat

abbrev EdgeR.val (e : EdgeR) : Value := .agg #[kI e.src, kI e.dst, .map (some e.att), .int .i64 e.wt, .nilIface]
abbrev vp (a : Nat) : Value := .agg #[.map (some a), .int .i64 0]

/-- A store's content: vertices (each with the block of its attributes), edges, and the blocks of the inner maps. -/
structure St where
  V : List (Int × Nat)
  E : List EdgeR
  O : List (Int × Nat)
  I : List (Int × Nat)

def outOf (E : List EdgeR) (a : Int) : List (Int × Value) := (E.filter (fun e => e.src == a)).map (fun e => (e.dst, e.val))
def inOf (E : List EdgeR) (a : Int) : List (Int × Value) := (E.filter (fun e => e.dst == a)).map (fun e => (e.src, e.val))

def St.blocks (σ : St) (A : Ad) : List Nat := A.s :: A.bv :: A.bp :: A.bo :: A.bi :: (σ.O.map (·.2) ++ σ.I.map (·.2))
def St.atts (σ : St) : List Nat := σ.V.map (·.2) ++ σ.E.map (·.att)

structure Store (w : World) (A : Ad) (σ : St) : Prop where
  row : w.heap[A.s]? = some (.cells #[.map (some A.bv), .map (some A.bp), .map (some A.bo), .map (some A.bi)] 149 (0, 0))
  vm : MapI kI w A.bv (σ.V.map fun v => (v.1, kI v.1))
  pm : MapI kI w A.bp (σ.V.map fun v => (v.1, vp v.2))
  om : MapI kI w A.bo (σ.O.map fun o => (o.1, .map (some o.2)))
  im : MapI kI w A.bi (σ.I.map fun o => (o.1, .map (some o.2)))
  outs : ∀ o ∈ σ.O, MapI kI w o.2 (outOf σ.E o.1)
  ins : ∀ o ∈ σ.I, MapI kI w o.2 (inOf σ.E o.1)
  outk : ∀ e ∈ σ.E, ∃ b, (e.src, b) ∈ σ.O
  ink : ∀ e ∈ σ.E, ∃ b, (e.dst, b) ∈ σ.I
  ends : ∀ e ∈ σ.E, (∃ a, (e.src, a) ∈ σ.V) ∧ ∃ a, (e.dst, a) ∈ σ.V
  att : ∀ b ∈ σ.atts, w.heap[b]? = some (.map #[] 0)
  nd : (σ.blocks A).Nodup
  apart : ∀ b ∈ σ.atts, b ∉ σ.blocks A

/-- all blocks of a store -/
def St.foot (σ : St) (A : Ad) (c : Nat) : Prop := c ∈ σ.blocks A ∨ c ∈ σ.atts

section
variable {w w' : World} {A : Ad} {σ : St} {S : Nat → Prop}

theorem Store.ext (h : Store w A σ) (he : Ext S w w') (hS : ∀ c, σ.foot A c → ¬ S c) : Store w' A σ where
  row := he.obj h.row (hS _ (Or.inl (by simp [St.blocks])))
  vm := h.vm.ext he (hS _ (Or.inl (by simp [St.blocks])))
  pm := h.pm.ext he (hS _ (Or.inl (by simp [St.blocks])))
  om := h.om.ext he (hS _ (Or.inl (by simp [St.blocks])))
  im := h.im.ext he (hS _ (Or.inl (by simp [St.blocks])))
  outs := fun o ho => (h.outs o ho).ext he (hS _ (Or.inl (by
    simp only [St.blocks, List.mem_cons, List.mem_append, List.mem_map]; right; right; right; right; right; left; exact ⟨o, ho, rfl⟩)))
  ins := fun o ho => (h.ins o ho).ext he (hS _ (Or.inl (by
    simp only [St.blocks, List.mem_cons, List.mem_append, List.mem_map]; right; right; right; right; right; right; exact ⟨o, ho, rfl⟩)))
  outk := h.outk
  ink := h.ink
  ends := h.ends
  att := fun b hb => he.obj (h.att b hb) (hS _ (Or.inr hb))
  nd := h.nd
  apart := h.apart

theorem Store.c0 (h : Store w A σ) : w.cell? ⟨A.s, 0, none⟩ = some (.map (some A.bv)) := by simp [World.cell?, h.row]
theorem Store.c1 (h : Store w A σ) : w.cell? ⟨A.s, 1, none⟩ = some (.map (some A.bp)) := by simp [World.cell?, h.row]
theorem Store.c2 (h : Store w A σ) : w.cell? ⟨A.s, 2, none⟩ = some (.map (some A.bo)) := by simp [World.cell?, h.row]
theorem Store.c3 (h : Store w A σ) : w.cell? ⟨A.s, 3, none⟩ = some (.map (some A.bi)) := by simp [World.cell?, h.row]
theorem Store.lt (h : Store w A σ) : A.s < w.heap.size := (Array.getElem?_eq_some_iff.1 h.row).1

theorem keys_map {β : Type} (f : Int × β → Value) (l : List (Int × β)) : (l.map fun v => (v.1, f v)).map (·.1) = l.map (·.1) := by
  simp [Function.comp_def]
theorem Store.keys (h : Store w A σ) : (σ.V.map (·.1)).Nodup := by have := h.vm.nodup; rwa [keys_map (fun v => kI v.1)] at this
theorem Store.okeys (h : Store w A σ) : (σ.O.map (·.1)).Nodup := by have := h.om.nodup; rwa [keys_map (fun v => Value.map (some v.2))] at this
theorem Store.ikeys (h : Store w A σ) : (σ.I.map (·.1)).Nodup := by have := h.im.nodup; rwa [keys_map (fun v => Value.map (some v.2))] at this
end

theorem lookup_mem {β : Type} {f : Int × β → Value} {l : List (Int × β)} (hn : (l.map (·.1)).Nodup) {k : Int} {b : β} (hm : (k, b) ∈ l) : (l.map fun v => (v.1, f v)).lookup k = some (f (k, b)) := by
  induction l with
  | nil => simp at hm
  | cons p l ih =>
    simp only [List.map_cons, List.nodup_cons] at hn
    rcases List.mem_cons.1 hm with rfl | hm
    · simp
    · have hne : (k == p.1) = false := by
        simp only [beq_eq_false_iff_ne, ne_eq]
        intro e
        exact hn.1 (List.mem_map.2 ⟨_, hm, e⟩)
      simp [List.lookup, hne, ih hn.2 hm]
theorem lookup_not {β : Type} {f : Int × β → Value} {l : List (Int × β)} {k : Int} (hm : ∀ b, (k, b) ∉ l) : (l.map fun v => (v.1, f v)).lookup k = none := by
  induction l with
  | nil => rfl
  | cons p l ih =>
    have hne : (k == p.1) = false := by
      simp only [beq_eq_false_iff_ne, ne_eq]
      intro e
      exact hm p.2 (by rw [e]; exact List.mem_cons_self)
    simp only [List.map_cons, List.lookup, hne]
    exact ih fun b hb => hm b (List.mem_cons_of_mem _ hb)

end Go.Proofs.YtcenebjdhbdejaaGreatDoor
