/- Sorting by insertion: plain. No program in sight. The graph as lists, in the program: Risen, walked. -/
import Derived.Sort.Statements
import Derived.Test.YtcenebjdhbdejaaGreatDoorP2
import Derived.Test.YtcenebjdhbdejaaGreatDoorQ1
namespace Go.Proofs.YtcenebjdhbdejaaGreatDoor
open Go.Sort
variable {α : Type}

/-- ascending up to i, but for what stands at k -/
def Ins (lt : α → α → Bool) (xs : List α) (i k : Nat) : Prop := ∀ p q (hp : p < q) (_ : q ≤ i) (hl : q < xs.length), q ≠ k → lt (xs[q]'hl) (xs[p]'(by omega)) = false

/-- the elements at k and k - 1, exchanged -/
def swp1 (xs : List α) (k : Nat) (x y : α) : List α := (xs.set k y).set (k - 1) x

theorem swp1_get {xs : List α} {k : Nat} (hk : 0 < k) (hl : k < xs.length) (j : Nat) (hj : j < (swp1 xs k xs[k] (xs[k - 1]'(by omega))).length) :
    (swp1 xs k xs[k] (xs[k - 1]'(by omega)))[j] = if j = k then xs[k - 1]'(by omega) else if j = k - 1 then xs[k] else xs[j]'(by simp [swp1] at hj; exact hj) := by
  simp only [swp1, List.getElem_set]
  by_cases h1 : j = k
  · have h2 : ¬ (k - 1 = j) := by omega
    have h3 : ¬ (j = k - 1) := by omega
    simp [h1]; omega
  · by_cases h2 : j = k - 1
    · simp [h2]; omega
    · have h3 : ¬ (k - 1 = j) := fun e => h2 e.symm
      have h4 : ¬ (k = j) := fun e => h1 e.symm
      simp [h1, h2, h3, h4]

theorem swp1_len {xs : List α} {k : Nat} {x y : α} : (swp1 xs k x y).length = xs.length := by simp [swp1]

theorem Ins.step {lt : α → α → Bool} (hO : SWO lt) {xs : List α} {i k : Nat} (h : Ins lt xs i k) (hk : 0 < k) (hki : k ≤ i) (hl : k < xs.length) (hlt : lt xs[k] (xs[k - 1]'(by omega)) = true) :
    Ins lt (swp1 xs k xs[k] (xs[k - 1]'(by omega))) i (k - 1) := by
  have asym : ∀ x y, lt x y = true → lt y x = false := fun x y h => by
    cases hh : lt y x with
    | false => rfl
    | true => have := hO.trans _ _ _ h hh; rw [hO.irrefl] at this; cases this
  intro p q hp hq hql hne
  have hql' : q < xs.length := by rw [swp1_len] at hql; exact hql
  rw [swp1_get hk hl q hql, swp1_get hk hl p (by omega)]
  by_cases h1 : q = k
  · rw [if_pos h1, if_neg (by omega : ¬ p = k)]
    by_cases h2 : p = k - 1
    · rw [if_pos h2]; exact asym _ _ hlt
    · rw [if_neg h2]; exact h p (k - 1) (by omega) (by omega) (by omega) (by omega)
  · rw [if_neg h1, if_neg hne]
    by_cases h2 : p = k
    · rw [if_pos h2]; exact h (k - 1) q (by omega) hq hql' h1
    · rw [if_neg h2]
      by_cases h3 : p = k - 1
      · rw [if_pos h3]; exact h k q (by omega) hq hql' h1
      · rw [if_neg h3]; exact h p q hp hq hql' h1

theorem Ins.stop {lt : α → α → Bool} (hO : SWO lt) {xs : List α} {i k : Nat} (h : Ins lt xs i k) (hki : k ≤ i) (hl : k < xs.length) (hlt : k = 0 ∨ ∃ hk : 0 < k, lt xs[k] (xs[k - 1]'(by omega)) = false) : Ins lt xs i xs.length := by
  intro p q hp hq hql hne
  by_cases h1 : q = k
  · subst h1
    rcases hlt with rfl | ⟨hk, hlt⟩
    · omega
    · by_cases h2 : p = q - 1
      · subst h2; exact hlt
      · exact hO.ntrans _ _ _ hlt (h p (q - 1) (by omega) (by omega) (by omega) (by omega))
  · exact h p q hp hq hql h1

theorem Ins.more {lt : α → α → Bool} {xs : List α} {i : Nat} (h : Ins lt xs i xs.length) (hi : i + 1 < xs.length) : Ins lt xs (i + 1) (i + 1) :=
  fun p q hp hq hl hne => h p q hp (by omega) hl (by omega)

theorem Ins.all {lt : α → α → Bool} {xs : List α} {i : Nat} (h : Ins lt xs i xs.length) (hi : xs.length ≤ i + 1) : xs.Pairwise (fun a b => lt b a = false) := by
  rw [List.pairwise_iff_getElem]
  intro p q hp hq hpq
  exact h p q hpq (by omega) hq (by omega)

theorem swp1_perm {xs : List α} {k : Nat} (hk : 0 < k) (hl : k < xs.length) : (swp1 xs k xs[k] (xs[k - 1]'(by omega))).Perm xs := by
  obtain ⟨k, rfl⟩ : ∃ j, k = j + 1 := ⟨k - 1, by omega⟩
  simp only [Nat.add_sub_cancel] at *
  have h1 : xs = xs.take k ++ xs[k] :: xs[k + 1] :: xs.drop (k + 2) := by
    rw [List.getElem_cons_drop, List.getElem_cons_drop, List.take_append_drop]
  have h2 : swp1 xs (k + 1) xs[k + 1] xs[k] = xs.take k ++ xs[k + 1] :: xs[k] :: xs.drop (k + 2) := by
    apply List.ext_getElem
    · rw [swp1_len]; simp; omega
    · intro j hj1 hj2
      have hg := swp1_get (xs := xs) (k := k + 1) (by omega) hl j hj1
      simp only [Nat.add_sub_cancel] at hg
      rw [hg, List.getElem_append]
      by_cases ha : j < (xs.take k).length
      · rw [dif_pos ha]
        simp at ha
        rw [if_neg (by omega), if_neg (by omega)]
        simp
      · rw [dif_neg ha]
        simp at ha
        have hlen : (xs.take k).length = k := by simp; omega
        simp only [hlen]
        by_cases hb : j = k
        · subst hb; simp
        · by_cases hc : j = k + 1
          · subst hc; simp
          · rw [if_neg hc, if_neg hb]
            obtain ⟨m, rfl⟩ : ∃ m, j = k + 2 + m := ⟨j - (k + 2), by omega⟩
            have : k + 2 + m - k = m + 2 := by omega
            simp [this]
  rw [h2]
  refine List.Perm.trans ?_ (List.Perm.of_eq h1.symm)
  exact List.Perm.append_left _ (List.Perm.swap _ _ _)
end Go.Proofs.YtcenebjdhbdejaaGreatDoor
namespace Go.Proofs.YtcenebjdhbdejaaGreatDoor
open Go.MapKept Go.Sort

theorem Ext.drewN {S : Nat → Prop} {w w' : World} (h : Ext S w w') (n : Nat) : Ext S w (w'.drewN n) := h.trans ⟨Nat.le_refl _, fun _ _ _ => rfl, rfl, rfl⟩

theorem own_frz {w : World} {B e size n : Nat} {g m cap : Nat} {xs : List Value} (h : w.ownsRow B e size (.slice (some ⟨g, 0, none⟩) m cap) n xs) (j : Nat) : w.frozen? ⟨g, j, none⟩ = false := by
  rcases h.2 with ⟨h0, -⟩ | ⟨g', cap', cur, hv, -, hgg, -⟩
  · cases h0
  · cases hv
    simp [World.frozen?, hgg]

theorem own_set1 {w : World} {B e : Nat} {g n cap : Nat} {xs : List Int} (h : w.ownsRow B e 1 (.slice (some ⟨g, 0, none⟩) n cap) xs.length (xs.flatMap oneC)) {k : Nat} (hk : k < xs.length) (x : Int) :
    (w.setCell ⟨g, k, none⟩ (kI x)).ownsRow B e 1 (.slice (some ⟨g, 0, none⟩) n cap) (xs.set k x).length ((xs.set k x).flatMap oneC) := by
  rcases h.2 with ⟨h0, -⟩ | ⟨g', cap', cur, hv, hB, hgg, hnc, hcm, hsz, htk⟩
  · cases h0
  · simp only [Value.slice.injEq, Option.some.injEq, Addr.mk.injEq, and_true, true_and] at hv
    obtain ⟨rfl, hn, rfl⟩ := hv
    refine ⟨by rw [← map_oneC]; simp, Or.inr ⟨g, cap, _, by rw [List.length_set, hn], hB, set_heap hgg (kI x), by rw [List.length_set]; exact hnc, hcm, by simpa using hsz, ?_⟩⟩
    rw [← map_oneC, List.length_set, Nat.mul_one]
    rw [← map_oneC, Nat.mul_one] at htk
    rw [Array.toList_setIfInBounds, List.take_set, htk, List.map_set]

def RO (w : World) (v : Value) (l : List Int) (k : Nat) (x : Value) (wr : World) : Prop :=
  ∃ (i : Nat) (xs : List Int), x = .int .i64 i ∧ i + k = l.length ∧ xs.Perm l ∧ wr.ownsRow w.heap.size 2 1 v xs.length (xs.flatMap oneC) ∧ (∀ j, i = j + 1 → Ins ltK xs j xs.length) ∧ Ext No w wr
def RI (w : World) (v : Value) (l : List Int) (i : Nat) (k : Nat) (x : Value) (wr : World) : Prop :=
  ∃ (m : Nat) (xs : List Int), x = .int .i64 m ∧ m = k ∧ m ≤ i ∧ xs.Perm l ∧ wr.ownsRow w.heap.size 2 1 v xs.length (xs.flatMap oneC) ∧ Ins ltK xs i m ∧ Ext No w wr

theorem wrapm {m : Nat} (h : m < 1000000) : IntKind.i64.wrap (m : Int) = (m : Int) := by
  rw [IntKind.wrap_i64]; omega

/-- what Risen leaves -/
def RisenPost (w : World) (l : List Int) (r : Ending) (w' : World) : Prop :=
  ∃ (v : Value) (xs : List Int), r = .returned v ∧ xs.Perm l ∧ xs.Pairwise (fun a b => ltK b a = false) ∧ w'.ownsRow w.heap.size 2 1 v xs.length (xs.flatMap oneC) ∧ Ext No w w'

theorem own_swap {w : World} {B e : Nat} {g n cap m : Nat} {xs : List Int} (h : w.ownsRow B e 1 (.slice (some ⟨g, 0, none⟩) n cap) xs.length (xs.flatMap oneC)) (hm : m + 1 < xs.length) :
    ((w.setCell ⟨g, m + 1, none⟩ (kI (xs[m]'(by omega)))).setCell ⟨g, m, none⟩ (kI xs[m + 1])).ownsRow B e 1 (.slice (some ⟨g, 0, none⟩) n cap) (swp1 xs (m + 1) xs[m + 1] (xs[m]'(by omega))).length ((swp1 xs (m + 1) xs[m + 1] (xs[m]'(by omega))).flatMap oneC) :=
  own_set1 (own_set1 h hm _) (by simp; omega) _

set_option maxRecDepth 100000 in
set_option maxHeartbeats 2000000 in
theorem risen_run {w : World} {l : List Int} {u : Value} (h : RdS w u l oneC) (hl : l.length < 900000) :
    Calls Tryz.prog 28 #[u] w (RisenPost w l) := by
  obtain ⟨q, c, rfl⟩ := h.form
  have HH := Lib.hid (And.intro h hl)
  clear h hl
  go_enter Tryz.func28, Tryz.ntmps28
  go_wp2_with (first | (at_builtin; (refine wpL_appendN (xs := ([] : List Int)) (ys := l) (f := oneC) (B := w.heap.size) rfl rfl U26 I2 rfl (by decide) (by decide) (fun _ => rfl) oneC_one rfl (own0 (heap_alloc w _).1 (Nat.le_refl _)) rfl (HH.out.1.ext ((Ext.refl No w).alloc _) (fun _ _ h => h)) (by have := HH.out.2; simp; omega) (by simp) ?_); intro v w1 ho he hb; obtain ⟨q1, cap1, hv1, -⟩ := own_read (f := oneC) (fun _ => rfl) ho; simp only [List.nil_append] at hv1 ho; subst hv1; have HE := Lib.hid (And.intro ho (Ext.app ((Ext.refl No w).alloc _) he (Nat.le_refl _))); clear ho he hb))
  go_loopg [11] l.length (fun k x wr => RO w (.slice q1 l.length cap1) l k x wr)
  case atStart => exact ⟨0, l, rfl, by simp, List.Perm.refl _, HE.out.1, fun j hj => by omega, HE.out.2⟩
  case round =>
    obtain ⟨i, xs, rfl, hk, hp, ho, hs, he⟩ := hrel
    by_cases hlt : i < l.length
    · have hlt' : (i : Int) < (l.length : Int) := by omega
      have HR := Lib.hid (And.intro hk (And.intro hp (And.intro ho (And.intro hs he))))
      clear hk hp ho hs he
      go_wp2_with fail
      go_loopg [5] i (fun k x wq => RI w (.slice q1 l.length cap1) l i k x wq)
      case atStart =>
        obtain ⟨hk, hp, ho, hs, he⟩ := HR.out
        refine ⟨i, xs, rfl, rfl, Nat.le_refl _, hp, ho, ?_, he⟩
        cases i with
        | zero => intro p q hp hq hl hne; omega
        | succ i => exact (hs i rfl).more (by rw [hp.length_eq]; exact hlt)
      case round =>
        obtain ⟨m, ys, rfl, hmk, hki, hp, ho, hins, he⟩ := hrel
        have hyl : ys.length = l.length := hp.length_eq
        have HI := Lib.hid (And.intro hmk (And.intro hki (And.intro hp (And.intro ho (And.intro hins he)))))
        rcases Nat.eq_zero_or_pos m with hm0 | hm0
        · subst hm0
          clear hmk hki hp ho hins he
          go_wp2
          go_quiet (fail)
          go_wp2
          go_roundg (l.length - (i + 1))
          case measure => have := HR.out.1; omega
          case rel =>
            obtain ⟨hmk, hki, hp, ho, hins, he⟩ := HI.out
            have hil : i < ys.length := by omega
            exact ⟨i + 1, ys, by rw [w64 (by have := HH.out.2; omega)], by omega, hp, ho, fun j hj => by
              obtain rfl : i = j := by omega
              exact hins.stop swo_ltK (Nat.zero_le _) (by omega) (Or.inl rfl), he.drewN _⟩
        · obtain ⟨m, rfl⟩ : ∃ j, m = j + 1 := ⟨m - 1, by omega⟩
          have hm1 : m + 1 < ys.length := by omega
          have hm2 : m < ys.length := by omega
          have hln := HH.out.2
          obtain ⟨g, rfl, hg, hc⟩ := own_at (k := m + 1) (f := oneC) (fun _ => rfl) ho hm1
          obtain ⟨g', hg', -, hc'⟩ := own_at (k := m) (f := oneC) (fun _ => rfl) ho hm2
          simp only [Option.some.injEq, Addr.mk.injEq, and_true] at hg'
          subst hg'
          have c1 : wr.cell? ⟨g, m + 1, none⟩ = some (kI (ys[m + 1]'hm1)) := by have := hc 0 (by decide); simpa using this
          have c0 : wr.cell? ⟨g, m, none⟩ = some (kI (ys[m]'hm2)) := by have := hc' 0 (by decide); simpa using this
          have hsub : RowKit.wrap64 (m : Int) = (m : Int) := by unfold RowKit.wrap64; omega
          have hwr : IntKind.i64.wrap (m : Int) = (m : Int) := wrapm (by omega)
          have hpos : (0 : Int) < (m : Int) + 1 := by omega
          have hpos' : (0 : Int) ≤ (m : Int) + 1 := by omega
          have hb1 : (m : Int) + 1 < (l.length : Int) := by omega
          have hb0 : (m : Int) < (l.length : Int) := by omega
          have htn : ((m : Int) + 1).toNat = m + 1 := by omega
          clear hmk hki hp ho hins he hc hc' hln hm0
          go_wp2
          go_quiet (fail)
          go_wp2
          · have hfz : ∀ j, (wr.drewN nq).frozen? ⟨g, j, none⟩ = false := fun j => own_frz HI.out.2.2.2.1 j
            have k1 : (wr.drewN nq).cell? ⟨g, m + 1, none⟩ = some (kI (ys[m + 1]'hm1)) := c1
            have k0 : (wr.drewN nq).cell? ⟨g, m, none⟩ = some (kI (ys[m]'hm2)) := c0
            have f1 := hfz (m + 1)
            have f0 := hfz m
            have hEn := Lib.hid ((Ext.refl No wr).drewN nq)
            revert f1 f0 k1 k0 hEn
            generalize wr.drewN nq = W2
            intro f1 f0 k1 k0 hEn
            clear hfz c1 c0
            go_region_law (fail)
            all_goals
              go_wp2
              go_roundg m
              case measure => have := HI.out.1; omega
              case rel =>
                obtain ⟨hmk, hki, hp, ho, hins, he⟩ := HI.out
                have hcmp : ltK (ys[m + 1]'hm1) (ys[m]'hm2) = true := by
                  have hx : (ys[m + 1]'hm1) < (ys[m]'hm2) := by assumption
                  simp only [ltK, decide_eq_true_eq]; exact hx
                have ho2 := own_swap (ownsRow_ext ho hEn.out (fun _ _ h => h)) hm1
                have hB := (ho.lt g rfl).1
                exact ⟨m, _, rfl, rfl, by omega, (swp1_perm (by omega) hm1).trans hp, ho2, hins.step swo_ltK (by omega) hki hm1 hcmp, (((he.trans hEn.out).setN hB _).setN hB _).drew⟩
          · have hlt0 : ltK (ys[m + 1]'hm1) (ys[m]'hm2) = false := by simp [ltK, *]
            go_roundg (l.length - (i + 1))
            case measure => have := HR.out.1; omega
            case rel =>
              obtain ⟨hmk, hki, hp, ho, hins, he⟩ := HI.out
              exact ⟨i + 1, ys, by rw [w64 (by have := HH.out.2; omega)], by omega, hp, ho, fun j hj => by
                obtain rfl : i = j := by omega
                exact hins.stop swo_ltK hki (by omega) (Or.inr ⟨by omega, hlt0⟩), he.drewN _⟩
    · have hnlt : ¬ (i : Int) < (l.length : Int) := by omega
      have hi : i = l.length := by omega
      have HR := Lib.hid (And.intro hp (And.intro ho (And.intro hs he)))
      clear hk hp ho hs he
      go_wp2
      go_ret
      obtain ⟨hp, ho, hs, he⟩ := HR.out
      refine ⟨_, xs, rfl, hp, ?_, ho, he⟩
      cases i with
      | zero => exact pair_small (by rw [hp.length_eq]; omega)
      | succ j => exact (hs j rfl).all (by rw [hp.length_eq]; omega)
end Go.Proofs.YtcenebjdhbdejaaGreatDoor
