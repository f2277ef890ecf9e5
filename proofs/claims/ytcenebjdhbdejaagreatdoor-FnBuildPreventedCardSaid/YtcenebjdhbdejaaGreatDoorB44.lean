/- What the row's words give the walks: a slice of steps out of what is read. -/
import Derived.Test.YtcenebjdhbdejaaGreatDoorB43
import Derived.Test.YtcenebjdhbdejaaGreatDoorB28
namespace Go.Proofs.YtcenebjdhbdejaaGreatDoor
open Go.ChangeShapes Go.WideShapes Go.ChangeAt Go.RowKit
set_option maxRecDepth 100000

variable {H : Type} {enc : TypeId × Value → H} {W : World} {sp : Nat → Bool} {held : Bool}

theorem u8_nonneg {n : Int} (h : (Lit.int .u8 n).wf = true) : 0 ≤ n := by
  simp [Lit.wf] at h
  have h1 : IntKind.u8.min = 0 := by decide
  rw [h1] at h
  omega

/-- the cells of a step -/
theorem open_step {fuel : Nat} {cs : List Value} {x : DataW H × List MemPlace} (h : DataW.trod enc Tryz.prog W 0 sp held fuel 35 cs = some x) : ∃ e : Stp, cs = e.c ∧ 0 ≤ e.op := by
  obtain ⟨xs, n, -, -, hl, hxl, hf⟩ := DataW.trod_struct Tryz.underlying35 h
  rw [ce35] at hl
  match cs, hl with
  | [c0, c1, c2, c3], _ =>
    have k : ∀ i, i < 4 → ∃ y, xs[i]? = some y := fun i hi => ⟨_, List.getElem?_eq_getElem (by rw [hxl]; simpa using hi)⟩
    obtain ⟨y0, e0⟩ := k 0 (by decide)
    obtain ⟨y1, e1⟩ := k 1 (by decide)
    obtain ⟨y2, e2⟩ := k 2 (by decide)
    obtain ⟨y3, e3⟩ := k 3 (by decide)
    have f0 : DataW.trod enc Tryz.prog W 0 sp held n 5 (([c0, c1, c2, c3].drop 0).take (Tryz.prog.cellsOf 5)) = xs[0]? := hf 0 _ rfl
    have f1 : DataW.trod enc Tryz.prog W 0 sp held n 2 (([c0, c1, c2, c3].drop 1).take (Tryz.prog.cellsOf 2)) = xs[1]? := hf 1 _ rfl
    have f2 : DataW.trod enc Tryz.prog W 0 sp held n 2 (([c0, c1, c2, c3].drop 2).take (Tryz.prog.cellsOf 2)) = xs[2]? := hf 2 _ rfl
    have f3 : DataW.trod enc Tryz.prog W 0 sp held n 3 (([c0, c1, c2, c3].drop 3).take (Tryz.prog.cellsOf 3)) = xs[3]? := hf 3 _ rfl
    rw [ce5] at f0
    rw [ce2] at f1 f2
    rw [ce3] at f3
    obtain ⟨z0, g0, -, w0⟩ := DataW.trod_int Tryz.underlying5 (f0.trans e0)
    obtain ⟨z1, g1, -⟩ := DataW.trod_int Tryz.underlying2 (f1.trans e1)
    obtain ⟨z2, g2, -⟩ := DataW.trod_int Tryz.underlying2 (f2.trans e2)
    obtain ⟨z3, g3, -⟩ := DataW.trod_int Tryz.underlying3 (f3.trans e3)
    simp at g0 g1 g2 g3
    exact ⟨⟨z0, z1, z2, z3⟩, by rw [g0, g1, g2, g3], u8_nonneg w0⟩

/-- []spec.Step -/
theorem open_steps {fuel : Nat} {v : Value} {x : DataW H × List MemPlace} (h : DataW.trod enc Tryz.prog W 0 sp held fuel 22 [v] = some x) : ∃ l : List Stp, RdG W v l Stp.c ∧ ∀ y ∈ l, 0 ≤ y.op := by
  rcases Go.Deep.open_slice Tryz.underlying22 h with ⟨h1, -⟩ | ⟨a, len, cap, m, n, D, Pl, h1, -, h2, -, h3, -, h4⟩
  · simp only [List.cons.injEq, and_true] at h1
    subst h1
    exact ⟨[], ⟨none, 0, rfl, Or.inl rfl⟩, by simp⟩
  · simp only [List.cons.injEq, and_true] at h1
    subst h1
    have hlen : len ≤ m := by rw [h3]; split <;> omega
    have hch : ∀ i, i < m → ∃ e : Stp, 0 ≤ e.op ∧ ∀ r, r < 4 → W.cell? (a.add (i * 4 + r)) = e.c[r]? := by
      intro i hi
      obtain ⟨cs', hc, ht⟩ := h4 i hi
      rw [ce35] at hc
      obtain ⟨e, rfl, h0⟩ := open_step ht
      obtain ⟨-, -, hat⟩ := World.cells?_some hc
      exact ⟨e, h0, fun r hr => by rw [← Go.Deep.add_add]; exact hat r hr⟩
    have : Inhabited Stp := ⟨⟨0, 0, 0, 0⟩⟩
    obtain ⟨F, hF⟩ := Go.Deep.choose_lt (α := Stp) hch
    refine ⟨(List.range len).map F, rdG_of (size := 4) (fun _ => rfl) (by decide) _ (by simp) fun i hi r hr => ?_, fun y hy => ?_⟩
    · simp only [List.length_map, List.length_range] at hi
      rw [(hF i (by omega)).2 r hr]
      simp
    · obtain ⟨i, hi, rfl⟩ := List.mem_map.1 hy
      rw [List.mem_range] at hi
      exact (hF i (by omega)).1
end Go.Proofs.YtcenebjdhbdejaaGreatDoor
