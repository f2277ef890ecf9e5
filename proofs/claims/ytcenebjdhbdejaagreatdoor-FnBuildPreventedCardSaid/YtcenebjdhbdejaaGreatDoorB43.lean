/- What the row's words give the walks: the six errors out of what is laid; slices of numbers, of edges, of steps out of what is read; what the row asks behind a call that has turned nothing. -/
import Derived.Test.YtcenebjdhbdejaaGreatDoorB22
import Derived.Test.YtcenebjdhbdejaaGreatDoorB18
import Derived.ProofKit
import Derived.OpenShut
import Derived.LaidMore
import Derived.Lay
import Derived.SevenTiedAt
import Derived.Stop.Joined
import Derived.Lib.SmallJoins
import Derived.Deep.Slices
import Derived.Test.YtcenebjdhbdejaaGreatDoorRows
namespace Go.Proofs.YtcenebjdhbdejaaGreatDoor
open Go.ChangeShapes Go.WideShapes Go.ChangeAt Go.RowKit
set_option maxRecDepth 100000

theorem own : ownKnob Tryz.prog.godebug = none := by kernel_rfl
theorem laidOut : laidOutB Tryz.prog = true := by kernel_rfl
theorem starE : "*" ++ "errors.errorString" = "*errors.errorString" := by decide
theorem rowE (u : TypeId) (h : Tryz.prog.typeName? 3 u = some "*errors.errorString") : u = 185 :=
  typeName_ptr_named (nm := "errors.errorString") (by rw [starE]; kernel_rfl) (by kernel_rfl) (by decide) u (by rw [starE]; exact h)
theorem ce243 : Tryz.prog.cellsOf 243 = 1 := by kernel_rfl
theorem ce9 : Tryz.prog.cellsOf 9 = 1 := by kernel_rfl

/-- one error of the list -/
theorem laid_peel {W : World} {n : String} {text : List UInt8} {r : List (String × DataW Unit)} {ps : List MemPlace} {g : Nat} (h : DataW.LaidVars Tryz.prog W ((n, .iface "*errors.errorString" (.ptr (.agg [.lit (.string text)]))) :: r) ps)
    (hg : Tryz.prog.globalNamed n = some g) (ht : (Tryz.prog.globals[g]?).map (·.type) = some 76)
    (hrows : ∀ b off, MemPlace.cell b off ∈ ps → (∃ c t, W.heap[b]? = some (.cells c t (0, 0))) ∧ ∀ u v, W.cell? ⟨b, off, none⟩ = some (.iface u v) → Value.okWide Tryz.prog W .any 0 u v) :
    ∃ (a : Addr) (q : List MemPlace), W.cell? ⟨g, 0, none⟩ = some (.iface 185 (.pointer (some a))) ∧ ps = .cell g 0 :: .cell a.block a.off :: q ∧ DataW.LaidVars Tryz.prog W r q ∧ ∃ cs T, W.heap[a.block]? = some (.cells cs T (0, 0)) := by
  obtain ⟨g0, t0, cs0, f0, p0, q0, hg0, ht0, hv0, hd0, hq0, e0⟩ := h
  obtain rfl := Option.some.inj (hg.symm.trans hg0)
  obtain rfl := Option.some.inj (ht.symm.trans ht0)
  subst e0
  obtain ⟨l0⟩ := cs0
  have ok0 : ∀ u v, l0 = [.iface u v] → Value.okWide Tryz.prog W .any 0 u v := fun u v e => by
    subst e
    exact (hrows g 0 (by simp [MemPlace.row])).2 u v (by simpa using World.var?_cell hg0 hv0 0)
  obtain ⟨a0, s0, rfl, hc0, hs0, hz0, rfl⟩ := errorString_of_trod Tryz.underlying76 rowE Tryz.underlying185 Tryz.underlying243 rfl rfl Tryz.underlying9 ce243 ce9 hd0 ok0
  obtain ⟨c0, t0, hb0⟩ := (hrows a0.block a0.off (by simp [MemPlace.row])).1
  exact ⟨a0, q0, by simpa using World.var?_cell hg0 hv0 0, by simp [MemPlace.row], hq0, c0, t0, hb0⟩

/-- the addresses of the six -/
def six (a0 a1 a2 a3 a4 a5 : Addr) : Nat → Addr
  | 0 => a0 | 1 => a1 | 2 => a2 | 3 => a3 | 4 => a4 | _ => a5

/-- where the six stand in the list of places -/
def posE : Nat → Nat
  | 0 => 3 | 1 => 1 | 2 => 11 | 3 => 7 | 4 => 5 | _ => 9
theorem posE_lt (i : Nat) : posE i < 12 := by unfold posE; split <;> decide
theorem posE_inj (i j : Nat) (hi : i < 6) (hj : j < 6) (h : posE i = posE j) : i = j := by
  match i, j, hi, hj with
  | 0, j, _, hj | 1, j, _, hj | 2, j, _, hj | 3, j, _, hj | 4, j, _, hj | 5, j, _, hj =>
    match j, hj with
    | 0, _ | 1, _ | 2, _ | 3, _ | 4, _ | 5, _ => simp [posE] at h ⊢

theorem sent_of_laid {W : World} (h : laidMetH Tryz.prog Rows.fnBuildOrderRow.laid W) : ∃ p, Sent W p ∧ Below6 W.heap.size p := by
  rw [MakeChecks.laidMetH_plain _ _ _ (by kernel_rfl)] at h
  obtain ⟨ps, hv, hnd, hrows⟩ := h
  obtain ⟨a1, q1, c1, rfl, hv, k1⟩ := laid_peel (g := 1) hv (by kernel_rfl) (by kernel_rfl) hrows
  obtain ⟨a0, q0, c0, rfl, hv, k0⟩ := laid_peel (g := 0) hv (by kernel_rfl) (by kernel_rfl) (fun b o hm => hrows b o (by simp [hm]))
  obtain ⟨a4, q4, c4, rfl, hv, k4⟩ := laid_peel (g := 4) hv (by kernel_rfl) (by kernel_rfl) (fun b o hm => hrows b o (by simp [hm]))
  obtain ⟨a3, q3, c3, rfl, hv, k3⟩ := laid_peel (g := 3) hv (by kernel_rfl) (by kernel_rfl) (fun b o hm => hrows b o (by simp [hm]))
  obtain ⟨a5, q5, c5, rfl, hv, k5⟩ := laid_peel (g := 5) hv (by kernel_rfl) (by kernel_rfl) (fun b o hm => hrows b o (by simp [hm]))
  obtain ⟨a2, q2, c2, rfl, hv, k2⟩ := laid_peel (g := 2) hv (by kernel_rfl) (by kernel_rfl) (fun b o hm => hrows b o (by simp [hm]))
  have lt : ∀ {a : Addr}, (∃ cs T, W.heap[a.block]? = some (.cells cs T (0, 0))) → a.block < W.heap.size := by
    rintro a ⟨cs, T, h⟩; exact (Array.getElem?_eq_some_iff.1 h).1
  refine ⟨six a0 a1 a2 a3 a4 a5, ⟨c0, c1, c2, c3, c4, c5, fun i hi => ?_, fun i j hi hj he => ?_⟩, ?_, fun i hi => ?_⟩
  · match i, hi with
    | 0, _ => exact k0
    | 1, _ => exact k1
    | 2, _ => exact k2
    | 3, _ => exact k3
    | 4, _ => exact k4
    | 5, _ => exact k5
  · have key : ∀ i, i < 6 → (MemPlace.cell 1 0 :: MemPlace.cell a1.block a1.off :: MemPlace.cell 0 0 :: MemPlace.cell a0.block a0.off :: MemPlace.cell 4 0 :: MemPlace.cell a4.block a4.off :: MemPlace.cell 3 0 :: MemPlace.cell a3.block a3.off :: MemPlace.cell 5 0 :: MemPlace.cell a5.block a5.off :: MemPlace.cell 2 0 :: MemPlace.cell a2.block a2.off :: q2)[posE i]? = some (.cell (six a0 a1 a2 a3 a4 a5 i).block (six a0 a1 a2 a3 a4 a5 i).off) := by
      intro i hi
      match i, hi with
      | 0, _ | 1, _ | 2, _ | 3, _ | 4, _ | 5, _ => rfl
    have h1 := key i hi
    have h2 := key j hj
    rw [he, ← h2] at h1
    have hlt : posE i < (MemPlace.cell 1 0 :: MemPlace.cell a1.block a1.off :: MemPlace.cell 0 0 :: MemPlace.cell a0.block a0.off :: MemPlace.cell 4 0 :: MemPlace.cell a4.block a4.off :: MemPlace.cell 3 0 :: MemPlace.cell a3.block a3.off :: MemPlace.cell 5 0 :: MemPlace.cell a5.block a5.off :: MemPlace.cell 2 0 :: MemPlace.cell a2.block a2.off :: q2).length := by
      have : posE i < 12 := posE_lt i
      simp only [List.length_cons]; omega
    exact posE_inj i j hi hj ((List.getElem?_inj hlt hnd).1 h1)
  · have := World.block_lt_of_cell? _ _ c5; simp at this; omega
  · match i, hi with
    | 0, _ => exact lt k0
    | 1, _ => exact lt k1
    | 2, _ => exact lt k2
    | 3, _ => exact lt k3
    | 4, _ => exact lt k4
    | 5, _ => exact lt k5

theorem keptBut_of_ext {W W' : World} {may : MemPlace → Prop} (h : Ext No W W') : W.keptBut W' may := by
  refine ⟨h.os, h.out, fun i hi => ?_⟩
  rw [h.same i hi id]
  cases W.heap[i]? with
  | none => simp
  | some o => cases o <;> simp

theorem sameAt_of_ext {W W' : World} (h : Ext No W W') {p : MemPlace} (hp : p.block < W.heap.size) : W.sameAt W' p := by
  have := h.same p.block hp id
  cases p <;> simp_all [World.sameAt, World.cell?, MemPlace.block]

/-- an argument reads behind the call as it did before -/
theorem trod_ext {H : Type} {enc : TypeId × Value → H} {t : TypeId} (hr : Tryz.prog.readableRec t = true) (hrow : t < Tryz.prog.types.size) {W W' : World} {v : Value} {d : DataW H} {ps : List MemPlace}
    (h : DataW.Trod enc Tryz.prog W 0 (fun _ => true) true t v d ps) (he : Ext No W W') (hlt : ∀ x ∈ ps, x.block < W.heap.size) : DataW.Trod enc Tryz.prog W' 0 (fun b => decide (b < W.heap.size)) true t v d ps :=
  WideElems.Trod_stays laidOut hr hrow h (fun x hx => sameAt_of_ext he (hlt x hx)) (fun x hx => by simpa using hlt x hx)

/-! slices, opened -/
theorem spot_none {w : World} {a : Addr} {v : Value} (h : w.cell? a = some v) : a = ⟨a.block, a.off, none⟩ := by
  obtain ⟨b, o, s⟩ := a
  cases s with
  | none => rfl
  | some k =>
    unfold World.cell? at h
    simp only [Option.isSome_some, if_true] at h
    split at h <;> simp_all

theorem rdG_of {β : Type} {w : World} {a : Addr} {len cap size : Nat} {f : β → List Value} (hf : ∀ y, (f y).length = size) (hsz : 0 < size) (xs : List β) (hl : xs.length = len)
    (h : ∀ i (hi : i < xs.length) r, r < size → w.cell? (a.add (i * size + r)) = (f (xs[i]'hi))[r]?) : RdG w (.slice (some a) len cap) xs f := by
  refine ⟨some a, cap, by rw [hl], ?_⟩
  cases hx : xs with
  | nil => exact Or.inl rfl
  | cons x0 rest =>
    right
    have h0 : 0 < xs.length := by rw [hx]; simp
    have hc := h 0 h0 0 hsz
    have hlen0 : 0 < (f (xs[0]'h0)).length := by rw [hf]; exact hsz
    rw [List.getElem?_eq_getElem hlen0] at hc
    have e0 : a.add (0 * size + 0) = a := by simp [Addr.add]
    rw [e0] at hc
    have ha := spot_none hc
    refine ⟨a.block, a.off, by rw [← ha], World.block_lt_of_cell? _ _ hc, fun j x hj => ?_⟩
    rw [← hx] at hj
    have hjl : j < xs.length * size := by
      have h1 := (List.getElem?_eq_some_iff.1 hj).1
      have key : ∀ l : List β, (l.flatMap f).length = l.length * size := by
        intro l
        induction l with
        | nil => simp
        | cons y l ih => simp only [List.flatMap_cons, List.length_append, ih, hf, List.length_cons, Nat.add_mul]; omega
      rw [key] at h1; exact h1
    have hi : j / size < xs.length := (Nat.div_lt_iff_lt_mul hsz).2 hjl
    have hr := Nat.mod_lt j hsz
    have hd : j / size * size + j % size = j := by rw [Nat.mul_comm]; exact Nat.div_add_mod j size
    have g := h (j / size) hi (j % size) hr
    have g2 := flat_get hf xs (j / size) (j % size) hi hr
    rw [hd] at g g2
    rw [← g2, hj] at g
    have e : a.add j = ⟨a.block, a.off + j, none⟩ := by
      unfold Addr.add
      split
      · next h => subst h; simpa using ha
      · rfl
    rw [← e]; exact g

variable {H : Type} {enc : TypeId × Value → H} {W : World} {sp : Nat → Bool} {held : Bool}

theorem ce2 : Tryz.prog.cellsOf 2 = 1 := by kernel_rfl
theorem ce3 : Tryz.prog.cellsOf 3 = 1 := by kernel_rfl
theorem ce5 : Tryz.prog.cellsOf 5 = 1 := by kernel_rfl
theorem ce48 : Tryz.prog.cellsOf 48 = 3 := by kernel_rfl
theorem ce35 : Tryz.prog.cellsOf 35 = 4 := by kernel_rfl
theorem ce45 : Tryz.prog.cellsOf 45 = 4 := by kernel_rfl

/-- []int64 -/
theorem open_keys {fuel : Nat} {v : Value} {x : DataW H × List MemPlace} (h : DataW.trod enc Tryz.prog W 0 sp held fuel 26 [v] = some x) : ∃ V, RdG W v V oneC := by
  rcases open_ints Tryz.underlying26 Tryz.underlying2 ce2 h with ⟨h1, -⟩ | ⟨a, len, cap, zs, h1, -, h2, -, h3, -, h4, -⟩
  · simp only [List.cons.injEq, and_true] at h1
    subst h1
    exact ⟨[], none, 0, rfl, Or.inl rfl⟩
  · simp only [List.cons.injEq, and_true] at h1
    subst h1
    have hlen : len ≤ zs.length := by rw [h3]; split <;> omega
    refine ⟨zs.take len, rdG_of (size := 1) (fun _ => rfl) (by decide) _ (by rw [List.length_take]; omega) fun i hi r hr => ?_⟩
    obtain rfl : r = 0 := by omega
    have hi' : i < zs.length := by rw [List.length_take] at hi; omega
    have := h4 i hi'
    rw [List.getD_eq_getElem?_getD, List.getElem?_eq_getElem hi'] at this
    simpa using this

/-- the cells of an edge -/
theorem open_edge {fuel : Nat} {cs : List Value} {x : DataW H × List MemPlace} (h : DataW.trod enc Tryz.prog W 0 sp held fuel 48 cs = some x) : ∃ e : Tri, cs = triC e := by
  obtain ⟨xs, n, -, -, hl, hxl, hf⟩ := DataW.trod_struct Tryz.underlying48 h
  rw [ce48] at hl
  match cs, hl with
  | [c0, c1, c2], _ =>
    have k : ∀ i, i < 3 → ∃ y, xs[i]? = some y := fun i hi => ⟨_, List.getElem?_eq_getElem (by rw [hxl]; simpa using hi)⟩
    obtain ⟨y0, e0⟩ := k 0 (by decide)
    obtain ⟨y1, e1⟩ := k 1 (by decide)
    obtain ⟨y2, e2⟩ := k 2 (by decide)
    have f0 : DataW.trod enc Tryz.prog W 0 sp held n 2 (([c0, c1, c2].drop 0).take (Tryz.prog.cellsOf 2)) = xs[0]? := hf 0 _ rfl
    have f1 : DataW.trod enc Tryz.prog W 0 sp held n 2 (([c0, c1, c2].drop 1).take (Tryz.prog.cellsOf 2)) = xs[1]? := hf 1 _ rfl
    have f2 : DataW.trod enc Tryz.prog W 0 sp held n 2 (([c0, c1, c2].drop 2).take (Tryz.prog.cellsOf 2)) = xs[2]? := hf 2 _ rfl
    rw [ce2] at f0 f1 f2
    obtain ⟨z0, g0, -⟩ := DataW.trod_int Tryz.underlying2 (f0.trans e0)
    obtain ⟨z1, g1, -⟩ := DataW.trod_int Tryz.underlying2 (f1.trans e1)
    obtain ⟨z2, g2, -⟩ := DataW.trod_int Tryz.underlying2 (f2.trans e2)
    simp at g0 g1 g2
    exact ⟨(z0, z1, z2), by rw [g0, g1, g2]⟩

/-- []spec.Edge -/
theorem open_edges {fuel : Nat} {v : Value} {x : DataW H × List MemPlace} (h : DataW.trod enc Tryz.prog W 0 sp held fuel 27 [v] = some x) : ∃ E, RdG W v E triC := by
  rcases Go.Deep.open_slice Tryz.underlying27 h with ⟨h1, -⟩ | ⟨a, len, cap, m, n, D, Pl, h1, -, h2, -, h3, -, h4⟩
  · simp only [List.cons.injEq, and_true] at h1
    subst h1
    exact ⟨[], none, 0, rfl, Or.inl rfl⟩
  · simp only [List.cons.injEq, and_true] at h1
    subst h1
    have hlen : len ≤ m := by rw [h3]; split <;> omega
    have hch : ∀ i, i < m → ∃ e : Tri, ∀ r, r < 3 → W.cell? (a.add (i * 3 + r)) = (triC e)[r]? := by
      intro i hi
      obtain ⟨cs', hc, ht⟩ := h4 i hi
      rw [ce48] at hc
      obtain ⟨e, rfl⟩ := open_edge ht
      obtain ⟨-, -, hat⟩ := World.cells?_some hc
      exact ⟨e, fun r hr => by rw [← Go.Deep.add_add]; exact hat r hr⟩
    obtain ⟨F, hF⟩ := Go.Deep.choose_lt (α := Tri) hch
    refine ⟨(List.range len).map F, rdG_of (size := 3) (fun _ => rfl) (by decide) _ (by simp) fun i hi r hr => ?_⟩
    simp only [List.length_map, List.length_range] at hi
    rw [hF i (by omega) r hr]
    simp
end Go.Proofs.YtcenebjdhbdejaaGreatDoor
