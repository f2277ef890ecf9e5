/- The graph as lists, in the program: Do, AddEdge where cycles are prevented: walked. (Printed out of P6.) -/
import Derived.Test.YtcenebjdhbdejaaGreatDoorB26
import Derived.Test.YtcenebjdhbdejaaGreatDoorB47
import Derived.Test.YtcenebjdhbdejaaGreatDoorB48
namespace Go.Proofs.YtcenebjdhbdejaaGreatDoor
open Go.MapKept

theorem DW.go {w w3 w4 : World} {op a b wt : Int} (h : DW w op a b wt w3) (he : Ext No w3 w4) : DW w op a b wt w4 :=
  ⟨he.obj h.step id, he.obj h.res id, he.obj h.said id, h.he.trans he⟩

set_option maxRecDepth 100000 in
set_option maxHeartbeats 2000000 in
theorem do_ap {w : World} {N mm : Nat} {s : PS} {vs es : Value} {a b wt : Int} (h : Mo w N mm true true s vs es) (hN : N ≤ w.heap.size) (hl : s.V.length + s.E.length ≤ 400) :
    Calls Tryz.prog 14 #[.pointer (some ⟨mm, 0, none⟩), stepV 2 a b wt] w (DoPost true true N mm (DoAP s a b wt) w) := by
  have HM := Lib.hid (And.intro h (And.intro hN hl))
  clear h hN hl
  go_enter Tryz.func14, Tryz.ntmps14
  go_wp2_with fail
  have e0 : Ext No w (dw w 2 a b wt) := dw_ext w 2 a b wt
  refine (at_run (HM.out.1.no e0) (by have := HM.out.2.2; omega)).mono ?_
  rintro r1 w2 ⟨n, rfl, hat, he⟩
  have HE := Lib.hid (DW.of he (w := w) (op := 2) (a := a) (b := b) (wt := wt))
  have HM2 := Lib.hid (HM.out.1.no (e0.trans he))
  have hat' := hasE_at hat
  clear he e0 hat
  obtain ⟨x0, x1, x2, x3, -⟩ := cells4 HE.out.step
  obtain ⟨y0, y1, y2, y3, y4, y5, g0, g1, g2, g3, g4, g5⟩ := cells6 HE.out.said
  obtain ⟨z0, z1, z2, z3, z4, z5, q0, q1, q2, q3, q4, q5⟩ := cells6 HE.out.res
  have lx := World.block_lt_of_cell? _ _ x0
  have ly := World.block_lt_of_cell? _ _ y0
  have lz := World.block_lt_of_cell? _ _ z0
  by_cases hv : a ∉ s.V ∨ b ∉ s.V
  · have HV := Lib.hid hv
    clear hat'
    by_cases ha : a ∈ s.V
    · have hb : decide (b ∈ s.V) = false := by
        rcases hv with hv | hv
        · exact absurd ha hv
        · simpa using hv
      have ha' : decide (a ∈ s.V) = true := by simpa using ha
      clear hv ha
      go_wp2_with (go_at_call 26; (refine (has_run HM2.out (by have := HM.out.2.2; omega)).mono ?_); rintro r3 w3 ⟨rfl, hw⟩; subst w3; first | rw [ha'] | rw [hb])
      refine bodyPost_ret (v := saidV 2 0 0 0 nilS nilS) ?hr rfl ?hR
      case hR => exact doErr HE.out HM2.out 2 (by unfold DoAP; rw [if_pos HV.out]; exact ⟨rfl, rfl⟩) (HM.out.1.lt' HM.out.2.1)
      case hr => exact results_cell1 (fn := Tryz.f14) (g := w.heap.size + 1) (p := 4) (ty := 41) rfl rfl (doErr_row HE.out 2) Tryz.underlying41 rfl sz41
    · have ha' : decide (a ∈ s.V) = false := by simpa using ha
      clear hv ha
      go_wp2_with (go_at_call 26; (refine (has_run HM2.out (by have := HM.out.2.2; omega)).mono ?_); rintro r3 w3 ⟨rfl, hw⟩; subst w3; rw [ha'])
      refine bodyPost_ret (v := saidV 2 0 0 0 nilS nilS) ?hr rfl ?hR
      case hR => exact doErr HE.out HM2.out 2 (by unfold DoAP; rw [if_pos HV.out]; exact ⟨rfl, rfl⟩) (HM.out.1.lt' HM.out.2.1)
      case hr => exact results_cell1 (fn := Tryz.f14) (g := w.heap.size + 1) (p := 4) (ty := 41) rfl rfl (doErr_row HE.out 2) Tryz.underlying41 rfl sz41
  · have HV := Lib.hid hv
    have ha : a ∈ s.V := Classical.byContradiction fun h => hv (Or.inl h)
    have hb : b ∈ s.V := Classical.byContradiction fun h => hv (Or.inr h)
    have ha' : decide (a ∈ s.V) = true := by simpa using ha
    have hb' : decide (b ∈ s.V) = true := by simpa using hb
    clear hv ha hb
    rcases hat' with ⟨he, hn⟩ | ⟨he, rfl⟩
    · have HX := Lib.hid he
      clear he
      go_wp2_with (go_at_call 26; (refine (has_run HM2.out (by have := HM.out.2.2; omega)).mono ?_); rintro r3 w3 ⟨rfl, hw⟩; subst w3; first | rw [ha'] | rw [hb'])
      refine bodyPost_ret (v := saidV 4 0 0 0 nilS nilS) ?hr rfl ?hR
      case hR => exact doErr HE.out HM2.out 4 (by unfold DoAP; rw [if_neg HV.out, if_pos HX.out]; exact ⟨rfl, rfl⟩) (HM.out.1.lt' HM.out.2.1)
      case hr => exact results_cell1 (fn := Tryz.f14) (g := w.heap.size + 1) (p := 4) (ty := 41) rfl rfl (doErr_row HE.out 4) Tryz.underlying41 rfl sz41
    · have HX := Lib.hid he
      clear he
      obtain ⟨m0, m1, m2, m3, fm⟩ := cells4 HM2.out.row
      have lm := World.block_lt_of_cell? _ _ m0
      obtain ⟨q, cap, rfl, -⟩ := own_read (f := triC) (fun _ => rfl) HM.out.1.E
      go_wp2_with (go_at_call 26; (refine (has_run HM2.out (by have := HM.out.2.2; omega)).mono ?_); rintro r3 w3 ⟨rfl, hw⟩; subst w3; first | rw [ha'] | rw [hb'])
      refine (reaches_run HM2.out (by have := HM.out.2.2; omega)).mono ?_
      rintro r3 w3 ⟨c, rfl, hiff, he3⟩
      have HE3 := Lib.hid (DW.go HE.out he3)
      have HM3 := Lib.hid (HM2.out.no he3)
      clear he3 x0 x1 x2 x3 y0 y1 y2 y3 y4 y5 g0 g1 g2 g3 g4 g5 z0 z1 z2 z3 z4 z5 q0 q1 q2 q3 q4 q5 lx ly lz m0 m1 m2 m3 fm lm HE HM2
      obtain ⟨w2, rfl⟩ : ∃ W : World, W = w3 := ⟨_, rfl⟩
      have HE := HE3
      have HM2 := HM3
      clear HE3 HM3
      obtain ⟨x0, x1, x2, x3, -⟩ := cells4 HE.out.step
      obtain ⟨y0, y1, y2, y3, y4, y5, g0, g1, g2, g3, g4, g5⟩ := cells6 HE.out.said
      obtain ⟨z0, z1, z2, z3, z4, z5, q0, q1, q2, q3, q4, q5⟩ := cells6 HE.out.res
      have lx := World.block_lt_of_cell? _ _ x0
      have ly := World.block_lt_of_cell? _ _ y0
      have lz := World.block_lt_of_cell? _ _ z0
      obtain ⟨m0, m1, m2, m3, fm⟩ := cells4 HM2.out.row
      have lm := World.block_lt_of_cell? _ _ m0
      by_cases hc : RE s.E b a
      · have hct := hiff.2 hc
        subst hct
        have HC := Lib.hid hc
        clear hc hiff m0 m1 m2 m3 fm lm
        go_wp2
        refine bodyPost_ret (v := saidV 6 0 0 0 nilS nilS) ?hr rfl ?hR
        case hR => exact doErr HE.out HM2.out 6 (by unfold DoAP; rw [if_neg HV.out, if_neg HX.out, if_pos HC.out]; exact ⟨rfl, rfl⟩) (HM.out.1.lt' HM.out.2.1)
        case hr => exact results_cell1 (fn := Tryz.f14) (g := w.heap.size + 1) (p := 4) (ty := 41) rfl rfl (doErr_row HE.out 6) Tryz.underlying41 rfl sz41
      have hcf : c = false := by
        cases c with
        | false => rfl
        | true => exact absurd (hiff.1 rfl) hc
      subst hcf
      have HC := Lib.hid hc
      clear hc hiff
      go_wp2_with fail
      have f3 := fm.2.2.2
      have hmx : ¬ w.heap.size = mm := by have := HM.out.1.lt' HM.out.2.1; omega
      clear x0 y0 y1 y2 y3 y4 y5 g0 g1 g2 g3 g4 g5 z0 z1 z2 z3 z4 z5 q0 q1 q2 q3 q4 q5 ly lz m0 m1 m2 fm
      refine AnyZ.start (fun u => u.cell? ⟨w.heap.size, 1, none⟩ = some (kI a) ∧ u.cell? ⟨w.heap.size, 2, none⟩ = some (kI b) ∧ u.cell? ⟨w.heap.size, 3, none⟩ = some (.int .i64 wt) ∧ u.cell? ⟨mm, 3, none⟩ = some (.slice q s.E.length cap)) 18 (by kernel_rfl) ⟨x1, x2, x3, m3⟩ (fun hS => ?_)
      refine AnyZ.take (i := 0) (v := (.pointer (some ⟨mm, 0, none⟩))) rfl (by kernel_rfl) (by kernel_rfl) (by kernel_rfl) (by kernel_rfl) (fun _ _ _ h => h) hS (by rfl) (by rintro u ⟨s1, s2, s3, s4⟩; go_simp) ?_
      simp only [Act.put, List.setIfInBounds_toArray]
      refine AnyZ.take (i := 2) (v := (.pointer (some ⟨mm, 0, none⟩))) rfl (by kernel_rfl) (by kernel_rfl) (by kernel_rfl) (by kernel_rfl) (fun _ _ _ h => h) hS (by rfl) (by rintro u ⟨s1, s2, s3, s4⟩; go_simp) ?_
      simp only [Act.put]
      refine AnyZ.take (i := 3) (v := (.pointer (some ⟨mm, 0, none⟩))) rfl (by kernel_rfl) (by kernel_rfl) (by kernel_rfl) (by kernel_rfl) (fun _ _ _ h => h) hS (by rfl) (by rintro u ⟨s1, s2, s3, s4⟩; go_simp) ?_
      simp only [Act.put]
      refine AnyZ.take (i := 4) (v := (.pointer (some ⟨mm, 3, none⟩))) rfl (by kernel_rfl) (by kernel_rfl) (by kernel_rfl) (by kernel_rfl) (fun _ _ _ h => h) hS (by rfl) (by rintro u ⟨s1, s2, s3, s4⟩; go_simp) ?_
      simp only [Act.put]
      refine AnyZ.take (i := 5) (v := (.slice q s.E.length cap)) rfl (by kernel_rfl) (by kernel_rfl) (by kernel_rfl) (by kernel_rfl) (fun _ _ _ h => h) hS (by rfl) (by rintro u ⟨s1, s2, s3, s4⟩; go_simp) ?_
      simp only [Act.put]
      refine AnyZ.take (i := 7) (v := (.pointer (some ⟨w.heap.size, 1, none⟩))) rfl (by kernel_rfl) (by kernel_rfl) (by kernel_rfl) (by kernel_rfl) (fun _ _ _ h => h) hS (by rfl) (by rintro u ⟨s1, s2, s3, s4⟩; go_simp) ?_
      simp only [Act.put]
      refine AnyZ.take (i := 8) (v := (kI a)) rfl (by kernel_rfl) (by kernel_rfl) (by kernel_rfl) (by kernel_rfl) (fun _ _ _ h => h) hS (by rfl) (by rintro u ⟨s1, s2, s3, s4⟩; go_simp) ?_
      simp only [Act.put]
      refine AnyZ.take (i := 9) (v := (.pointer (some ⟨w.heap.size, 2, none⟩))) rfl (by kernel_rfl) (by kernel_rfl) (by kernel_rfl) (by kernel_rfl) (fun _ _ _ h => h) hS (by rfl) (by rintro u ⟨s1, s2, s3, s4⟩; go_simp) ?_
      simp only [Act.put]
      refine AnyZ.take (i := 10) (v := (kI b)) rfl (by kernel_rfl) (by kernel_rfl) (by kernel_rfl) (by kernel_rfl) (fun _ _ _ h => h) hS (by rfl) (by rintro u ⟨s1, s2, s3, s4⟩; go_simp) ?_
      simp only [Act.put]
      refine AnyZ.take (i := 11) (v := (.pointer (some ⟨w.heap.size, 3, none⟩))) rfl (by kernel_rfl) (by kernel_rfl) (by kernel_rfl) (by kernel_rfl) (fun _ _ _ h => h) hS (by rfl) (by rintro u ⟨s1, s2, s3, s4⟩; go_simp) ?_
      simp only [Act.put]
      refine AnyZ.take (i := 12) (v := (.int .i64 wt)) rfl (by kernel_rfl) (by kernel_rfl) (by kernel_rfl) (by kernel_rfl) (fun _ _ _ h => h) hS (by rfl) (by rintro u ⟨s1, s2, s3, s4⟩; go_simp) ?_
      simp only [Act.put]
      refine AnyZ.take (i := 13) (v := (.agg #[kI a, kI b, .int .i64 wt])) rfl (by kernel_rfl) (by kernel_rfl) (by kernel_rfl) (by kernel_rfl) (fun _ _ _ h => h) hS (by rfl) (by rintro u ⟨s1, s2, s3, s4⟩; go_simp) ?_
      simp only [Act.put]
      refine AnyZ.part (rs := [1, 14]) (by kernel_rfl) (by simp) ?_
      refine ReadyZ.cons rfl (fun K hK => ?_) ?_
      · go_simp
        have hX : Ext No w2 (w2.alloc (.cells #[] 48)).drew := ((Ext.refl No w2).alloc _).drew
        have hr : (w2.alloc (.cells #[] 48)).drew.heap[w2.heap.size]? = some (.cells #[] 48 (0, 0)) := at_drew (heap_alloc w2 _).1
        refine hK.out _ _ (fun _ => ⟨hX.cellv x1 id, hX.cellv x2 id, hX.cellv x3 id, hX.cellv m3 id⟩) (fun hS1 => ?_)
        have hS := hS1 (by decide)
        clear hK K hS1
        refine AnyZ.part (rs := [6, 14]) (by kernel_rfl) (by simp) ?_
        refine ReadyZ.cons rfl (fun K hK => ?_) ?_
        · skip
          refine step_appendN (s := .tmp 111) (x := .tmp 115) (xs := ([] : List Tri)) (ys := s.E) (f := triC) (B := w2.heap.size) rfl (by rfl) U27 I48 rfl (by decide) (by decide) (fun _ => rfl) triC_one (by rfl) (own0T hr (by omega)) (by rfl) ((RdS.of_own HM2.out.E).ext hX (fun _ _ h => h)) (by have := HM.out.2.2; simp; omega) hX.size ?_
          intro v1 w1 ho1 he1 hb1
          have hX := Ext.app hX he1 (by omega)
          refine hK.out _ _ (fun _ => ⟨hX.cellv x1 id, hX.cellv x2 id, hX.cellv x3 id, hX.cellv m3 id⟩) (fun hS1 => ?_)
          have hS := hS1 (by decide)
          clear hK K hS1
          simp only [Act.put, List.setIfInBounds_toArray]
          refine AnyZ.part (rs := [14]) (by kernel_rfl) (by simp) ?_
          refine ReadyZ.cons rfl (fun K hK => ?_) ReadyZ.nil
          go_simp
          have hX := hX.alloc (.cells (triC (a, b, wt)).toArray 48)
          have ho1 := ho1.alloc (.cells (triC (a, b, wt)).toArray 48)
          have ht := (heap_alloc w1 (.cells (triC (a, b, wt)).toArray 48)).1
          refine hK.out _ _ (fun _ => ⟨hX.cellv x1 id, hX.cellv x2 id, hX.cellv x3 id, hX.cellv m3 id⟩) (fun hS1 => ?_)
          have hS := hS1 (by decide)
          clear hK K hS1
          refine AnyZ.part (rs := [15]) (by kernel_rfl) (by simp) ?_
          refine ReadyZ.cons rfl (fun K hK => ?_) ReadyZ.nil
          refine step_appendN (s := .tmp 116) (x := .tmp 124) (xs := s.E) (ys := [(a, b, wt)]) (f := triC) (B := w2.heap.size) (v := v1) rfl (by rfl) U27 I48 rfl (by decide) (by decide) (fun _ => rfl) triC_one (by rfl) ho1 (by rfl) (rdT ht) (by have := HM.out.2.2; simp; omega) hX.size ?_
          intro v2 w4 ho2 he2 hb2
          have hX := Ext.app2 hX he2 ho1
          obtain ⟨q2, cap2, hv2, -⟩ := own_read (f := triC) (fun _ => rfl) ho2
          simp only [List.length_append, List.length_cons, List.length_nil, Nat.zero_add] at hv2
          subst hv2
          refine hK.out _ _ (fun _ => ⟨hX.cellv x1 id, hX.cellv x2 id, hX.cellv x3 id, hX.cellv m3 id⟩) (fun hS1 => ?_)
          have hS := hS1 (by decide)
          clear hK K hS1
          simp only [Act.put, List.setIfInBounds_toArray]
          refine AnyZ.part (rs := [16]) (by kernel_rfl) (by simp) ?_
          refine ReadyZ.cons rfl (fun K hK => ?_) ReadyZ.nil
          go_simp
          refine hK.out _ _ (fun _ => ⟨hX.cellv x1 id, hX.cellv x2 id, hX.cellv x3 id, hX.cellv m3 id⟩) (fun hS1 => ?_)
          have hS := hS1 (by decide)
          clear hK K hS1
          refine AnyZ.part (rs := [17]) (by kernel_rfl) (by simp) ?_
          refine ReadyZ.cons rfl (fun K hK => ?_) ReadyZ.nil
          go_simp
          refine hK.out _ _ (fun _ => ⟨hX.cellv x1 id, hX.cellv x2 id, hX.cellv x3 id, hX.cellv m3 id⟩) (fun hS1 => ?_)
          have hS := hS1 (by decide)
          clear hK K hS1
          refine AnyZ.part (rs := [18]) (by kernel_rfl) (by simp) ?_
          refine ReadyZ.cons rfl (fun K hK => ?_) ReadyZ.nil
          have j3 := (hX.frz _ lm id).trans f3
          have k3 := hX.cellv m3 id
          have jm := Nat.lt_of_lt_of_le lm hX.size
          go_simp
          refine hK.out _ _ (fun h => absurd rfl h) (fun _ => ?_)
          refine AnyZ.done (by kernel_rfl) ?_ _
          have HZ : RowKit.Hid (AvEnd w N mm true true ⟨s.V, s.E ++ [(a, b, wt)]⟩ vs (.slice q2 (s.E.length + 1) cap2) (w4.setCell ⟨mm, 3, none⟩ (.slice q2 (s.E.length + 1) cap2))) := Lib.hid (AvEnd.ofE HE.out HM2.out HM.out.2.1 (HM.out.1.lt' HM.out.2.1) hX ho2)
          generalize w4.setCell ⟨mm, 3, none⟩ (.slice q2 (s.E.length + 1) cap2) = W5 at HZ ⊢
          clear hK K j3 k3 jm hX hS ho1 ho2 he1 he2 hb1 hb2 ht x1 x2 x3 lx lm m3 f3
          obtain ⟨y0, y1, y2, y3, y4, y5, g0, g1, g2, g3, g4, g5⟩ := cells6 HZ.out.said
          obtain ⟨z0, z1, z2, z3, z4, z5, p0, p1, p2, p3, p4, p5⟩ := cells6 HZ.out.res
          have ly := World.block_lt_of_cell? _ _ y0
          have lz := World.block_lt_of_cell? _ _ z0
          go_wp2
          refine bodyPost_ret (v := saidV 0 0 0 0 nilS nilS) ?hr rfl ?hR
          case hR =>
            have h := HZ.out
            have e7 := (Ext.refl (fun c => c = w.heap.size + 1) W5).set6 (b := w.heap.size + 1) rfl (.int .u8 0) (.int .i64 0) (.int .i64 0) (.int .i64 0) nilS nilS
            exact ⟨⟨s.V, s.E ++ [(a, b, wt)]⟩, .err 0, vs, _, nilS, nilS, rfl, by unfold DoAP; rw [if_neg HV.out, if_neg HX.out, if_neg HC.out]; exact ⟨rfl, rfl⟩, h.M.ext e7 (fun e => by have := HM.out.1.lt' HM.out.2.1; omega) (fun c hc e => row_ne h.res h.M.V (by decide) (by rw [hc, e])) (fun c hc e => row_ne h.res h.M.E (by decide) (by rw [hc, e])), nil_own, nil_own, h.he.then e7 (fun c hc e => by omega)⟩
          case hr => exact results_cell1 (fn := Tryz.f14) (g := w.heap.size + 1) (p := 4) (ty := 41) rfl rfl (set6 HZ.out.res (.int .u8 0) (.int .i64 0) (.int .i64 0) (.int .i64 0) nilS nilS) Tryz.underlying41 rfl sz41
        · refine ReadyZ.cons rfl (fun K hK => ?_) ReadyZ.nil
          go_simp
          have ht : ((w2.alloc (.cells #[] 48)).alloc (.cells (triC (a, b, wt)).toArray 48)).drew.heap[w2.heap.size + 1]? = some (.cells (triC (a, b, wt)).toArray 48 (0, 0)) := at_drew (two_new w2 _ _)
          have hr : ((w2.alloc (.cells #[] 48)).alloc (.cells (triC (a, b, wt)).toArray 48)).drew.heap[w2.heap.size]? = some (.cells #[] 48 (0, 0)) := at_drew (alloc_heap (heap_alloc w2 _).1 _)
          have hX : Ext No w2 ((w2.alloc (.cells #[] 48)).alloc (.cells (triC (a, b, wt)).toArray 48)).drew := (((Ext.refl No w2).alloc _).alloc _).drew
          refine hK.out _ _ (fun _ => ⟨hX.cellv x1 id, hX.cellv x2 id, hX.cellv x3 id, hX.cellv m3 id⟩) (fun hS1 => ?_)
          have hS := hS1 (by decide)
          clear hK K hS1
          refine AnyZ.part (rs := [6]) (by kernel_rfl) (by simp) ?_
          refine ReadyZ.cons rfl (fun K hK => ?_) ReadyZ.nil
          refine step_appendN (s := .tmp 111) (x := .tmp 115) (xs := ([] : List Tri)) (ys := s.E) (f := triC) (B := w2.heap.size) rfl (by rfl) U27 I48 rfl (by decide) (by decide) (fun _ => rfl) triC_one (by rfl) (own0T hr (by omega)) (by rfl) ((RdS.of_own HM2.out.E).ext hX (fun _ _ h => h)) (by have := HM.out.2.2; simp; omega) hX.size ?_
          intro v1 w1 ho1 he1 hb1
          have hX := Ext.app hX he1 (by omega)
          have ht := he1.obj ht (by simp [Value.ownBlock])
          refine hK.out _ _ (fun _ => ⟨hX.cellv x1 id, hX.cellv x2 id, hX.cellv x3 id, hX.cellv m3 id⟩) (fun hS1 => ?_)
          have hS := hS1 (by decide)
          clear hK K hS1
          simp only [Act.put, List.setIfInBounds_toArray]
          refine AnyZ.part (rs := [15]) (by kernel_rfl) (by simp) ?_
          refine ReadyZ.cons rfl (fun K hK => ?_) ReadyZ.nil
          refine step_appendN (s := .tmp 116) (x := .tmp 124) (xs := s.E) (ys := [(a, b, wt)]) (f := triC) (B := w2.heap.size) (v := v1) rfl (by rfl) U27 I48 rfl (by decide) (by decide) (fun _ => rfl) triC_one (by rfl) ho1 (by rfl) (rdT ht) (by have := HM.out.2.2; simp; omega) hX.size ?_
          intro v2 w4 ho2 he2 hb2
          have hX := Ext.app2 hX he2 ho1
          obtain ⟨q2, cap2, hv2, -⟩ := own_read (f := triC) (fun _ => rfl) ho2
          simp only [List.length_append, List.length_cons, List.length_nil, Nat.zero_add] at hv2
          subst hv2
          refine hK.out _ _ (fun _ => ⟨hX.cellv x1 id, hX.cellv x2 id, hX.cellv x3 id, hX.cellv m3 id⟩) (fun hS1 => ?_)
          have hS := hS1 (by decide)
          clear hK K hS1
          simp only [Act.put]
          refine AnyZ.part (rs := [16]) (by kernel_rfl) (by simp) ?_
          refine ReadyZ.cons rfl (fun K hK => ?_) ReadyZ.nil
          go_simp
          refine hK.out _ _ (fun _ => ⟨hX.cellv x1 id, hX.cellv x2 id, hX.cellv x3 id, hX.cellv m3 id⟩) (fun hS1 => ?_)
          have hS := hS1 (by decide)
          clear hK K hS1
          refine AnyZ.part (rs := [17]) (by kernel_rfl) (by simp) ?_
          refine ReadyZ.cons rfl (fun K hK => ?_) ReadyZ.nil
          go_simp
          refine hK.out _ _ (fun _ => ⟨hX.cellv x1 id, hX.cellv x2 id, hX.cellv x3 id, hX.cellv m3 id⟩) (fun hS1 => ?_)
          have hS := hS1 (by decide)
          clear hK K hS1
          refine AnyZ.part (rs := [18]) (by kernel_rfl) (by simp) ?_
          refine ReadyZ.cons rfl (fun K hK => ?_) ReadyZ.nil
          have j3 := (hX.frz _ lm id).trans f3
          have k3 := hX.cellv m3 id
          have jm := Nat.lt_of_lt_of_le lm hX.size
          go_simp
          refine hK.out _ _ (fun h => absurd rfl h) (fun _ => ?_)
          refine AnyZ.done (by kernel_rfl) ?_ _
          have HZ : RowKit.Hid (AvEnd w N mm true true ⟨s.V, s.E ++ [(a, b, wt)]⟩ vs (.slice q2 (s.E.length + 1) cap2) (w4.setCell ⟨mm, 3, none⟩ (.slice q2 (s.E.length + 1) cap2))) := Lib.hid (AvEnd.ofE HE.out HM2.out HM.out.2.1 (HM.out.1.lt' HM.out.2.1) hX ho2)
          generalize w4.setCell ⟨mm, 3, none⟩ (.slice q2 (s.E.length + 1) cap2) = W5 at HZ ⊢
          clear hK K j3 k3 jm hX hS ho1 ho2 he1 he2 hb1 hb2 ht x1 x2 x3 lx lm m3 f3
          obtain ⟨y0, y1, y2, y3, y4, y5, g0, g1, g2, g3, g4, g5⟩ := cells6 HZ.out.said
          obtain ⟨z0, z1, z2, z3, z4, z5, p0, p1, p2, p3, p4, p5⟩ := cells6 HZ.out.res
          have ly := World.block_lt_of_cell? _ _ y0
          have lz := World.block_lt_of_cell? _ _ z0
          go_wp2
          refine bodyPost_ret (v := saidV 0 0 0 0 nilS nilS) ?hr rfl ?hR
          case hR =>
            have h := HZ.out
            have e7 := (Ext.refl (fun c => c = w.heap.size + 1) W5).set6 (b := w.heap.size + 1) rfl (.int .u8 0) (.int .i64 0) (.int .i64 0) (.int .i64 0) nilS nilS
            exact ⟨⟨s.V, s.E ++ [(a, b, wt)]⟩, .err 0, vs, _, nilS, nilS, rfl, by unfold DoAP; rw [if_neg HV.out, if_neg HX.out, if_neg HC.out]; exact ⟨rfl, rfl⟩, h.M.ext e7 (fun e => by have := HM.out.1.lt' HM.out.2.1; omega) (fun c hc e => row_ne h.res h.M.V (by decide) (by rw [hc, e])) (fun c hc e => row_ne h.res h.M.E (by decide) (by rw [hc, e])), nil_own, nil_own, h.he.then e7 (fun c hc e => by omega)⟩
          case hr => exact results_cell1 (fn := Tryz.f14) (g := w.heap.size + 1) (p := 4) (ty := 41) rfl rfl (set6 HZ.out.res (.int .u8 0) (.int .i64 0) (.int .i64 0) (.int .i64 0) nilS nilS) Tryz.underlying41 rfl sz41
      · refine ReadyZ.cons rfl (fun K hK => ?_) ReadyZ.nil
        go_simp
        have hX : Ext No w2 (w2.alloc (.cells (triC (a, b, wt)).toArray 48)).drew := ((Ext.refl No w2).alloc _).drew
        refine hK.out _ _ (fun _ => ⟨hX.cellv x1 id, hX.cellv x2 id, hX.cellv x3 id, hX.cellv m3 id⟩) (fun hS1 => ?_)
        have hS := hS1 (by decide)
        clear hK K hS1
        refine AnyZ.part (rs := [1]) (by kernel_rfl) (by simp) ?_
        refine ReadyZ.cons rfl (fun K hK => ?_) ReadyZ.nil
        go_simp
        have ht : ((w2.alloc (.cells (triC (a, b, wt)).toArray 48)).alloc (.cells #[] 48)).drew.heap[w2.heap.size]? = some (.cells (triC (a, b, wt)).toArray 48 (0, 0)) := at_drew (alloc_heap (heap_alloc w2 _).1 _)
        have hr : ((w2.alloc (.cells (triC (a, b, wt)).toArray 48)).alloc (.cells #[] 48)).drew.heap[w2.heap.size + 1]? = some (.cells #[] 48 (0, 0)) := at_drew (two_new w2 _ _)
        have hX : Ext No w2 ((w2.alloc (.cells (triC (a, b, wt)).toArray 48)).alloc (.cells #[] 48)).drew := (((Ext.refl No w2).alloc _).alloc _).drew
        refine hK.out _ _ (fun _ => ⟨hX.cellv x1 id, hX.cellv x2 id, hX.cellv x3 id, hX.cellv m3 id⟩) (fun hS1 => ?_)
        have hS := hS1 (by decide)
        clear hK K hS1
        refine AnyZ.part (rs := [6]) (by kernel_rfl) (by simp) ?_
        refine ReadyZ.cons rfl (fun K hK => ?_) ReadyZ.nil
        refine step_appendN (s := .tmp 111) (x := .tmp 115) (xs := ([] : List Tri)) (ys := s.E) (f := triC) (B := w2.heap.size) rfl (by rfl) U27 I48 rfl (by decide) (by decide) (fun _ => rfl) triC_one (by rfl) (own0T hr (by omega)) (by rfl) ((RdS.of_own HM2.out.E).ext hX (fun _ _ h => h)) (by have := HM.out.2.2; simp; omega) hX.size ?_
        intro v1 w1 ho1 he1 hb1
        have hX := Ext.app hX he1 (by omega)
        have ht := he1.obj ht (by simp [Value.ownBlock])
        refine hK.out _ _ (fun _ => ⟨hX.cellv x1 id, hX.cellv x2 id, hX.cellv x3 id, hX.cellv m3 id⟩) (fun hS1 => ?_)
        have hS := hS1 (by decide)
        clear hK K hS1
        simp only [Act.put, List.setIfInBounds_toArray]
        refine AnyZ.part (rs := [15]) (by kernel_rfl) (by simp) ?_
        refine ReadyZ.cons rfl (fun K hK => ?_) ReadyZ.nil
        refine step_appendN (s := .tmp 116) (x := .tmp 124) (xs := s.E) (ys := [(a, b, wt)]) (f := triC) (B := w2.heap.size) (v := v1) rfl (by rfl) U27 I48 rfl (by decide) (by decide) (fun _ => rfl) triC_one (by rfl) ho1 (by rfl) (rdT ht) (by have := HM.out.2.2; simp; omega) hX.size ?_
        intro v2 w4 ho2 he2 hb2
        have hX := Ext.app2 hX he2 ho1
        obtain ⟨q2, cap2, hv2, -⟩ := own_read (f := triC) (fun _ => rfl) ho2
        simp only [List.length_append, List.length_cons, List.length_nil, Nat.zero_add] at hv2
        subst hv2
        refine hK.out _ _ (fun _ => ⟨hX.cellv x1 id, hX.cellv x2 id, hX.cellv x3 id, hX.cellv m3 id⟩) (fun hS1 => ?_)
        have hS := hS1 (by decide)
        clear hK K hS1
        simp only [Act.put]
        refine AnyZ.part (rs := [16]) (by kernel_rfl) (by simp) ?_
        refine ReadyZ.cons rfl (fun K hK => ?_) ReadyZ.nil
        go_simp
        refine hK.out _ _ (fun _ => ⟨hX.cellv x1 id, hX.cellv x2 id, hX.cellv x3 id, hX.cellv m3 id⟩) (fun hS1 => ?_)
        have hS := hS1 (by decide)
        clear hK K hS1
        refine AnyZ.part (rs := [17]) (by kernel_rfl) (by simp) ?_
        refine ReadyZ.cons rfl (fun K hK => ?_) ReadyZ.nil
        go_simp
        refine hK.out _ _ (fun _ => ⟨hX.cellv x1 id, hX.cellv x2 id, hX.cellv x3 id, hX.cellv m3 id⟩) (fun hS1 => ?_)
        have hS := hS1 (by decide)
        clear hK K hS1
        refine AnyZ.part (rs := [18]) (by kernel_rfl) (by simp) ?_
        refine ReadyZ.cons rfl (fun K hK => ?_) ReadyZ.nil
        have j3 := (hX.frz _ lm id).trans f3
        have k3 := hX.cellv m3 id
        have jm := Nat.lt_of_lt_of_le lm hX.size
        go_simp
        refine hK.out _ _ (fun h => absurd rfl h) (fun _ => ?_)
        refine AnyZ.done (by kernel_rfl) ?_ _
        have HZ : RowKit.Hid (AvEnd w N mm true true ⟨s.V, s.E ++ [(a, b, wt)]⟩ vs (.slice q2 (s.E.length + 1) cap2) (w4.setCell ⟨mm, 3, none⟩ (.slice q2 (s.E.length + 1) cap2))) := Lib.hid (AvEnd.ofE HE.out HM2.out HM.out.2.1 (HM.out.1.lt' HM.out.2.1) hX ho2)
        generalize w4.setCell ⟨mm, 3, none⟩ (.slice q2 (s.E.length + 1) cap2) = W5 at HZ ⊢
        clear hK K j3 k3 jm hX hS ho1 ho2 he1 he2 hb1 hb2 ht x1 x2 x3 lx lm m3 f3
        obtain ⟨y0, y1, y2, y3, y4, y5, g0, g1, g2, g3, g4, g5⟩ := cells6 HZ.out.said
        obtain ⟨z0, z1, z2, z3, z4, z5, p0, p1, p2, p3, p4, p5⟩ := cells6 HZ.out.res
        have ly := World.block_lt_of_cell? _ _ y0
        have lz := World.block_lt_of_cell? _ _ z0
        go_wp2
        refine bodyPost_ret (v := saidV 0 0 0 0 nilS nilS) ?hr rfl ?hR
        case hR =>
          have h := HZ.out
          have e7 := (Ext.refl (fun c => c = w.heap.size + 1) W5).set6 (b := w.heap.size + 1) rfl (.int .u8 0) (.int .i64 0) (.int .i64 0) (.int .i64 0) nilS nilS
          exact ⟨⟨s.V, s.E ++ [(a, b, wt)]⟩, .err 0, vs, _, nilS, nilS, rfl, by unfold DoAP; rw [if_neg HV.out, if_neg HX.out, if_neg HC.out]; exact ⟨rfl, rfl⟩, h.M.ext e7 (fun e => by have := HM.out.1.lt' HM.out.2.1; omega) (fun c hc e => row_ne h.res h.M.V (by decide) (by rw [hc, e])) (fun c hc e => row_ne h.res h.M.E (by decide) (by rw [hc, e])), nil_own, nil_own, h.he.then e7 (fun c hc e => by omega)⟩
        case hr => exact results_cell1 (fn := Tryz.f14) (g := w.heap.size + 1) (p := 4) (ty := 41) rfl rfl (set6 HZ.out.res (.int .u8 0) (.int .i64 0) (.int .i64 0) (.int .i64 0) nilS nilS) Tryz.underlying41 rfl sz41
end Go.Proofs.YtcenebjdhbdejaaGreatDoor
