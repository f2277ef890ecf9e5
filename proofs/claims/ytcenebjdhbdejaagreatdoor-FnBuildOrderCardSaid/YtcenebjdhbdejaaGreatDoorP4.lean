/- A slice of elements of three cells: one element stored anew. The graph as lists, in the program: ByEnds, walked. -/
import Derived.Test.YtcenebjdhbdejaaGreatDoorP3
namespace Go.Proofs.YtcenebjdhbdejaaGreatDoor

theorem own0T {w : World} {g B : Nat} {e : TypeId} (h : w.heap[g]? = some (.cells #[] e (0, 0))) (hB : B ≤ g) : w.ownsRow B e 3 (.slice (some ⟨g, 0, none⟩) 0 0) ([] : List Tri).length (([] : List Tri).flatMap triC) :=
  ⟨by simp, Or.inr ⟨g, 0, #[], rfl, hB, h, Nat.le_refl _, Nat.zero_le _, by simp, by simp⟩⟩

theorem flat_len (l : List Tri) : (l.flatMap triC).length = l.length * 3 := by
  induction l with
  | nil => rfl
  | cons x l ih => simp only [List.flatMap_cons, List.length_append, ih, List.length_cons, List.length_nil, Nat.add_mul]; omega

theorem flat_set (l : List Tri) (k : Nat) (x : Tri) (hk : k < l.length) : (l.set k x).flatMap triC = (((l.flatMap triC).set (k * 3) (kI x.1)).set (k * 3 + 1) (kI x.2.1)).set (k * 3 + 2) (.int .i64 x.2.2) := by
  apply List.ext_getElem?
  intro t
  by_cases ht : t < l.length * 3
  · obtain ⟨p, j, hj, rfl⟩ : ∃ p j, j < 3 ∧ t = p * 3 + j := ⟨t / 3, t % 3, Nat.mod_lt _ (by decide), by omega⟩
    have hp : p < l.length := by omega
    rw [flat_get (f := triC) (size := 3) (fun _ => rfl) (l.set k x) p j (by simpa using hp) hj, List.getElem_set]
    have h0 := flat_get (f := triC) (size := 3) (fun _ => rfl) l p j hp hj
    have hlen := flat_len l
    by_cases hkp : k = p
    · subst hkp
      simp only [if_pos]
      clear h0
      generalize l.flatMap triC = F at hlen ⊢
      match j, hj with
      | 0, _ => simp [List.getElem?_set, hlen]; omega
      | 1, _ => simp [List.getElem?_set, hlen]; omega
      | 2, _ => simp [List.getElem?_set, hlen]; omega
    · rw [if_neg hkp, List.getElem?_set_ne (by omega), List.getElem?_set_ne (by omega), List.getElem?_set_ne (by omega), h0]
  · rw [List.getElem?_eq_none (by rw [flat_len]; simp; omega), List.getElem?_eq_none (by simp only [List.length_set]; rw [flat_len]; omega)]

theorem own_set3 {w : World} {B e : Nat} {g n cap : Nat} {xs : List Tri} (h : w.ownsRow B e 3 (.slice (some ⟨g, 0, none⟩) n cap) xs.length (xs.flatMap triC)) {k : Nat} (hk : k < xs.length) (x : Tri) :
    (((w.setCell ⟨g, k * 3, none⟩ (kI x.1)).setCell ⟨g, k * 3 + 1, none⟩ (kI x.2.1)).setCell ⟨g, k * 3 + 2, none⟩ (.int .i64 x.2.2)).ownsRow B e 3 (.slice (some ⟨g, 0, none⟩) n cap) (xs.set k x).length ((xs.set k x).flatMap triC) := by
  rcases h.2 with ⟨h0, -⟩ | ⟨g', cap', cur, hv, hB, hgg, hnc, hcm, hsz, htk⟩
  · cases h0
  · simp only [Value.slice.injEq, Option.some.injEq, Addr.mk.injEq, and_true, true_and] at hv
    obtain ⟨rfl, hn, rfl⟩ := hv
    refine ⟨by rw [flat_len], Or.inr ⟨g, cap, _, by rw [List.length_set, hn], hB, set_heap (set_heap (set_heap hgg _) _) _, by rw [List.length_set]; exact hnc, hcm, by simpa using hsz, ?_⟩⟩
    rw [flat_set xs k x hk, List.length_set, ← htk]
    simp only [Array.toList_setIfInBounds, List.take_set]
end Go.Proofs.YtcenebjdhbdejaaGreatDoor
namespace Go.Proofs.YtcenebjdhbdejaaGreatDoor
open Go.MapKept Go.Sort

theorem U27 : Tryz.prog.underlying 27 = some (.slice 48) := by kernel_rfl
theorem I48 : (Tryz.prog.info? 48).map (fun i => (i.zero, i.size, i.bytes)) = some (some (.agg #[.int .i64 0, .int .i64 0, .int .i64 0]), 3, 24) := by kernel_rfl

def EO (w : World) (v : Value) (l : List Tri) (k : Nat) (x : Value) (wr : World) : Prop :=
  ∃ (i : Nat) (xs : List Tri), x = .int .i64 i ∧ i + k = l.length ∧ xs.Perm l ∧ wr.ownsRow w.heap.size 48 3 v xs.length (xs.flatMap triC) ∧ (∀ j, i = j + 1 → Ins ltE xs j xs.length) ∧ Ext No w wr
def EI (w : World) (v : Value) (l : List Tri) (i : Nat) (k : Nat) (x : Value) (wr : World) : Prop :=
  ∃ (m : Nat) (xs : List Tri), x = .int .i64 m ∧ m = k ∧ m ≤ i ∧ xs.Perm l ∧ wr.ownsRow w.heap.size 48 3 v xs.length (xs.flatMap triC) ∧ Ins ltE xs i m ∧ Ext No w wr

/-- what ByEnds leaves -/
def EndsPost (w : World) (l : List Tri) (r : Ending) (w' : World) : Prop :=
  ∃ (v : Value) (xs : List Tri), r = .returned v ∧ xs.Perm l ∧ xs.Pairwise (fun a b => ltE b a = false) ∧ w'.ownsRow w.heap.size 48 3 v xs.length (xs.flatMap triC) ∧ Ext No w w'

/-- behind the test of a swap -/
def CR (b : Bool) (w : World) (t : Value) (wq : World) : Prop := t = .bool b ∧ ∃ n, wq = w.drewN n

theorem own_swapT {w : World} {B e : Nat} {g n cap m : Nat} {xs : List Tri} (h : w.ownsRow B e 3 (.slice (some ⟨g, 0, none⟩) n cap) xs.length (xs.flatMap triC)) (hm : m + 1 < xs.length) :
    ((((((w.setCell ⟨g, (m + 1) * 3, none⟩ (kI (xs[m]'(by omega)).1)).setCell ⟨g, (m + 1) * 3 + 1, none⟩ (kI (xs[m]'(by omega)).2.1)).setCell ⟨g, (m + 1) * 3 + 2, none⟩ (.int .i64 (xs[m]'(by omega)).2.2)).setCell ⟨g, m * 3, none⟩ (kI xs[m + 1].1)).setCell ⟨g, m * 3 + 1, none⟩ (kI xs[m + 1].2.1)).setCell ⟨g, m * 3 + 2, none⟩ (.int .i64 xs[m + 1].2.2)).ownsRow B e 3 (.slice (some ⟨g, 0, none⟩) n cap) (swp1 xs (m + 1) xs[m + 1] (xs[m]'(by omega))).length ((swp1 xs (m + 1) xs[m + 1] (xs[m]'(by omega))).flatMap triC) :=
  own_set3 (own_set3 h hm _) (by simp; omega) _

set_option maxRecDepth 100000 in
set_option maxHeartbeats 8000000 in
theorem byEnds_run {w : World} {l : List Tri} {u : Value} (h : RdS w u l triC) (hl : l.length < 900000) :
    Calls Tryz.prog 27 #[u] w (EndsPost w l) := by
  obtain ⟨q, c, rfl⟩ := h.form
  have HH := Lib.hid (And.intro h hl)
  clear h hl
  go_enter Tryz.func27, Tryz.ntmps27
  go_wp2_with (first | (at_builtin; (refine wpL_appendN (xs := ([] : List Tri)) (ys := l) (f := triC) (B := w.heap.size) rfl rfl U27 I48 rfl (by decide) (by decide) (fun _ => rfl) triC_one rfl (own0T (heap_alloc w _).1 (Nat.le_refl _)) rfl (HH.out.1.ext ((Ext.refl No w).alloc _) (fun _ _ h => h)) (by have := HH.out.2; simp; omega) (by simp) ?_); intro v w1 ho he hb; obtain ⟨q1, cap1, hv1, -⟩ := own_read (f := triC) (fun _ => rfl) ho; simp only [List.nil_append] at hv1 ho; subst hv1; have HE := Lib.hid (And.intro ho (Ext.app ((Ext.refl No w).alloc _) he (Nat.le_refl _))); clear ho he hb))
  go_loopg [11] l.length (fun k x wr => EO w (.slice q1 l.length cap1) l k x wr)
  case atStart => exact ⟨0, l, rfl, by simp, List.Perm.refl _, HE.out.1, fun j hj => by omega, HE.out.2⟩
  case round =>
    obtain ⟨i, xs, rfl, hk, hp, ho, hs, he⟩ := hrel
    by_cases hlt : i < l.length
    · have hlt' : (i : Int) < (l.length : Int) := by omega
      have HR := Lib.hid (And.intro hk (And.intro hp (And.intro ho (And.intro hs he))))
      clear hk hp ho hs he
      go_wp2_with fail
      go_loopg [5] i (fun k x wq => EI w (.slice q1 l.length cap1) l i k x wq)
      case atStart =>
        obtain ⟨hk, hp, ho, hs, he⟩ := HR.out
        refine ⟨i, xs, rfl, rfl, Nat.le_refl _, hp, ho, ?_, he⟩
        cases i with
        | zero => intro p q hp hq hl hne; omega
        | succ i => exact (hs i rfl).more (by rw [hp.length_eq]; exact hlt)
      case round =>
        obtain ⟨m, ys, rfl, hmk, hki, hp, ho, hins, he⟩ := hrel
        have hyl : ys.length = l.length := hp.length_eq
        have HI := Lib.hid (And.intro hmk (And.intro hki (And.intro hp (And.intro ho (And.intro hins he)))))
        rcases Nat.eq_zero_or_pos m with hm0 | hm0
        · subst hm0
          clear hmk hki hp ho hins he
          go_wp2
          go_quiet (fail)
          go_wp2
          go_roundg (l.length - (i + 1))
          case measure => have := HR.out.1; omega
          case rel =>
            obtain ⟨hmk, hki, hp, ho, hins, he⟩ := HI.out
            have hil : i < ys.length := by omega
            exact ⟨i + 1, ys, by rw [w64 (by have := HH.out.2; omega)], by omega, hp, ho, fun j hj => by
              obtain rfl : i = j := by omega
              exact hins.stop swo_ltE (Nat.zero_le _) (by omega) (Or.inl rfl), he.drewN _⟩
        · obtain ⟨m, rfl⟩ : ∃ j, m = j + 1 := ⟨m - 1, by omega⟩
          have hm1 : m + 1 < ys.length := by omega
          have hm2 : m < ys.length := by omega
          have hln := HH.out.2
          obtain ⟨g, rfl, hg, hc⟩ := own_at (k := m + 1) (f := triC) (fun _ => rfl) ho hm1
          obtain ⟨g', hg', -, hc'⟩ := own_at (k := m) (f := triC) (fun _ => rfl) ho hm2
          simp only [Option.some.injEq, Addr.mk.injEq, and_true] at hg'
          subst hg'
          have c1 : wr.cell? ⟨g, (m + 1) * 3, none⟩ = some (kI (ys[m + 1]'hm1).1) := hc 0 (by decide)
          have c1a : wr.cell? ⟨g, (m + 1) * 3 + 1, none⟩ = some (kI (ys[m + 1]'hm1).2.1) := hc 1 (by decide)
          have c1b : wr.cell? ⟨g, (m + 1) * 3 + 2, none⟩ = some (.int .i64 (ys[m + 1]'hm1).2.2) := hc 2 (by decide)
          have c0 : wr.cell? ⟨g, m * 3, none⟩ = some (kI (ys[m]'hm2).1) := hc' 0 (by decide)
          have c0a : wr.cell? ⟨g, m * 3 + 1, none⟩ = some (kI (ys[m]'hm2).2.1) := hc' 1 (by decide)
          have c0b : wr.cell? ⟨g, m * 3 + 2, none⟩ = some (.int .i64 (ys[m]'hm2).2.2) := hc' 2 (by decide)
          have hsub : RowKit.wrap64 (m : Int) = (m : Int) := by unfold RowKit.wrap64; omega
          have hwr : IntKind.i64.wrap (m : Int) = (m : Int) := wrapm (by omega)
          have hpos : (0 : Int) < (m : Int) + 1 := by omega
          have hpos' : (0 : Int) ≤ (m : Int) + 1 := by omega
          have hb1 : (m : Int) + 1 < (l.length : Int) := by omega
          have hb0 : (m : Int) < (l.length : Int) := by omega
          have htn : ((m : Int) + 1).toNat = m + 1 := by omega
          have h4 : (ys[m + 1]'hm1).1 < (ys[m]'hm2).1 ∨ (¬ (ys[m + 1]'hm1).1 < (ys[m]'hm2).1 ∧ ((ys[m + 1]'hm1).1 == (ys[m]'hm2).1) = true ∧ (ys[m + 1]'hm1).2.1 < (ys[m]'hm2).2.1) ∨ (¬ (ys[m + 1]'hm1).1 < (ys[m]'hm2).1 ∧ ((ys[m + 1]'hm1).1 == (ys[m]'hm2).1) = false) ∨ (¬ (ys[m + 1]'hm1).1 < (ys[m]'hm2).1 ∧ ((ys[m + 1]'hm1).1 == (ys[m]'hm2).1) = true ∧ ¬ (ys[m + 1]'hm1).2.1 < (ys[m]'hm2).2.1) := by
            by_cases a1 : (ys[m + 1]'hm1).1 < (ys[m]'hm2).1
            · exact Or.inl a1
            · by_cases a3 : (ys[m + 1]'hm1).2.1 < (ys[m]'hm2).2.1 <;> cases a2 : ((ys[m + 1]'hm1).1 == (ys[m]'hm2).1) <;> simp [a1, a3]
          clear hmk hki hp ho hins he hc hc' hln hm0
          go_upto_region 6 with (fail)
          go_cut [58] (fun t wq => CR (ltE (ys[m + 1]'hm1) (ys[m]'hm2)) wr t wq)
          case first =>
            rcases h4 with h4 | ⟨h4, h5, h6⟩ | ⟨h4, h5⟩ | ⟨h4, h5, h6⟩
            · have HB : RowKit.Hid (ltE (ys[m + 1]'hm1) (ys[m]'hm2) = true) := Lib.hid (by simp only [ltE, decide_eq_true_eq]; exact Or.inl h4)
              go_quiet (fail)
              go_wp2
              go_meet
              case rel => rw [HB.out]; exact ⟨rfl, _, rfl⟩
            · have HB : RowKit.Hid (ltE (ys[m + 1]'hm1) (ys[m]'hm2) = true) := Lib.hid (by simp only [ltE, decide_eq_true_eq]; exact Or.inr ⟨by simpa using h5, h6⟩)
              go_quiet (fail)
              go_wp2
              go_meet
              case rel => rw [HB.out]; exact ⟨rfl, _, rfl⟩
            · have HB : RowKit.Hid (ltE (ys[m + 1]'hm1) (ys[m]'hm2) = false) := Lib.hid (by simp only [ltE, decide_eq_false_iff_not]; rintro (h | ⟨h, -⟩) <;> first | exact h4 h | (rw [h] at h5; simp at h5))
              go_quiet (fail)
              go_wp2
              go_meet
              case rel => rw [HB.out]; exact ⟨rfl, _, rfl⟩
            · have HB : RowKit.Hid (ltE (ys[m + 1]'hm1) (ys[m]'hm2) = false) := Lib.hid (by simp only [ltE, decide_eq_false_iff_not]; rintro (h | ⟨-, h⟩) <;> first | exact h4 h | exact h6 h)
              go_quiet (fail)
              go_wp2
              go_meet
              case rel => rw [HB.out]; exact ⟨rfl, _, rfl⟩
          case rest =>
            obtain ⟨rfl, nq, rfl⟩ := hcut
            clear h4
            cases hb : ltE (ys[m + 1]'hm1) (ys[m]'hm2) with
            | true =>
              have HB := Lib.hid hb
              clear hb
              have hfz : ∀ j, (wr.drewN nq).frozen? ⟨g, j, none⟩ = false := fun j => own_frz HI.out.2.2.2.1 j
              have k1 : (wr.drewN nq).cell? ⟨g, (m + 1) * 3, none⟩ = some (kI (ys[m + 1]'hm1).1) := c1
              have k1a : (wr.drewN nq).cell? ⟨g, (m + 1) * 3 + 1, none⟩ = some (kI (ys[m + 1]'hm1).2.1) := c1a
              have k1b : (wr.drewN nq).cell? ⟨g, (m + 1) * 3 + 2, none⟩ = some (.int .i64 (ys[m + 1]'hm1).2.2) := c1b
              have k0 : (wr.drewN nq).cell? ⟨g, m * 3, none⟩ = some (kI (ys[m]'hm2).1) := c0
              have k0a : (wr.drewN nq).cell? ⟨g, m * 3 + 1, none⟩ = some (kI (ys[m]'hm2).2.1) := c0a
              have k0b : (wr.drewN nq).cell? ⟨g, m * 3 + 2, none⟩ = some (.int .i64 (ys[m]'hm2).2.2) := c0b
              have f1 := hfz ((m + 1) * 3)
              have f1a := hfz ((m + 1) * 3 + 1)
              have f1b := hfz ((m + 1) * 3 + 2)
              have f0 := hfz (m * 3)
              have f0a := hfz (m * 3 + 1)
              have f0b := hfz (m * 3 + 2)
              have hEn := Lib.hid ((Ext.refl No wr).drewN nq)
              revert k1 k1a k1b k0 k0a k0b f1 f1a f1b f0 f0a f0b hEn
              generalize wr.drewN nq = W2
              intro k1 k1a k1b k0 k0a k0b f1 f1a f1b f0 f0a f0b hEn
              clear hfz c1 c0 c1a c1b c0a c0b
              go_wp2
              go_region_law (fail)
              all_goals
                have hB := (HI.out.2.2.2.1.lt g rfl).1
                have HW := Lib.hid (And.intro (own_swapT (ownsRow_ext HI.out.2.2.2.1 hEn.out (fun _ _ h => h)) hm1) (((((((HI.out.2.2.2.2.2.trans hEn.out).setN (o := (m + 1) * 3) hB (.int .i64 (ys[m]'hm2).1)).setN (o := (m + 1) * 3 + 1) hB (.int .i64 (ys[m]'hm2).2.1)).setN (o := (m + 1) * 3 + 2) hB (.int .i64 (ys[m]'hm2).2.2)).setN (o := m * 3) hB (.int .i64 (ys[m + 1]'hm1).1)).setN (o := m * 3 + 1) hB (.int .i64 (ys[m + 1]'hm1).2.1)).setN (o := m * 3 + 2) hB (.int .i64 (ys[m + 1]'hm1).2.2)))
                clear k1 k1a k1b k0 k0a k0b f1 f1a f1b f0 f0a f0b hB
                generalize (((((W2.setCell ⟨g, (m + 1) * 3, none⟩ (.int .i64 (ys[m]'hm2).1)).setCell ⟨g, (m + 1) * 3 + 1, none⟩ (.int .i64 (ys[m]'hm2).2.1)).setCell ⟨g, (m + 1) * 3 + 2, none⟩ (.int .i64 (ys[m]'hm2).2.2)).setCell ⟨g, m * 3, none⟩ (.int .i64 (ys[m + 1]'hm1).1)).setCell ⟨g, m * 3 + 1, none⟩ (.int .i64 (ys[m + 1]'hm1).2.1)).setCell ⟨g, m * 3 + 2, none⟩ (.int .i64 (ys[m + 1]'hm1).2.2) = W3 at HW ⊢
                go_wp2
                go_roundg m
                case measure => have := HI.out.1; omega
                case rel =>
                  obtain ⟨hmk, hki, hp, ho, hins, he⟩ := HI.out
                  exact ⟨m, _, rfl, rfl, by omega, (swp1_perm (by omega) hm1).trans hp, HW.out.1, hins.step swo_ltE (by omega) hki hm1 HB.out, HW.out.2.drew⟩
            | false =>
              have HB := Lib.hid hb
              clear hb
              go_wp2
              go_roundg (l.length - (i + 1))
              case measure => have := HR.out.1; omega
              case rel =>
                obtain ⟨hmk, hki, hp, ho, hins, he⟩ := HI.out
                exact ⟨i + 1, ys, by rw [w64 (by have := HH.out.2; omega)], by omega, hp, ho, fun j hj => by
                  obtain rfl : i = j := by omega
                  exact hins.stop swo_ltE hki (by omega) (Or.inr ⟨by omega, HB.out⟩), he.drewN _⟩
    · have hnlt : ¬ (i : Int) < (l.length : Int) := by omega
      have hi : i = l.length := by omega
      have HR := Lib.hid (And.intro hp (And.intro ho (And.intro hs he)))
      clear hk hp ho hs he
      go_wp2
      go_ret
      obtain ⟨hp, ho, hs, he⟩ := HR.out
      refine ⟨_, xs, rfl, hp, ?_, ho, he⟩
      cases i with
      | zero => exact pair_small (by rw [hp.length_eq]; omega)
      | succ j => exact (hs j rfl).all (by rw [hp.length_eq]; omega)
end Go.Proofs.YtcenebjdhbdejaaGreatDoor
