/- The graph as lists, in the program: Do, Edge, UpdateEdge, RemoveEdge: walked. -/
import Derived.Test.YtcenebjdhbdejaaGreatDoorB24
import Derived.Test.YtcenebjdhbdejaaGreatDoorB26
import Derived.Test.YtcenebjdhbdejaaGreatDoorB27
import Derived.Test.YtcenebjdhbdejaaGreatDoorB28
namespace Go.Proofs.YtcenebjdhbdejaaGreatDoor
open Go.MapKept

theorem step_appendG {P : Program} {β : Type} {ops : Array Oper} {o : Oper} {a : Act} {w : World} {K : Act → World → Prop} {Q : Exit → Act → World → Prop} {E : Prop} (hgd : o.guard = none) {s x : Operand} {t : TypeId}
    (ho : o.op = .call { callee := .builtin .append, args := #[s, x], argTypes := #[t, t] })
    {B : Nat} {e : TypeId} {z : Value} {size bytes : Nat} (ht : P.underlying t = some (.slice e)) (hi : (P.info? e).map (fun i => (i.zero, i.size, i.bytes)) = some (some z, size, bytes))
    (hzs : z.cells.size = size) (hsz : 0 < size) (hby : bytes ≤ 10000) {f : β → List Value} (hf : ∀ y, (f y).length = size) (hf1 : ∀ y, ∀ u ∈ f y, u.oneCell' = true)
    {v : Value} {xs ys : List β} (hs : a.eval s = v) (hown : w.ownsRow B e size v xs.length (xs.flatMap f)) {b ob c m : Nat} (hx : a.eval x = .slice (some ⟨b, ob, none⟩) m c) (hm : ys.length = m) (hu : ∀ (j : Nat) (x : Value), (ys.flatMap f)[j]? = some x → w.cell? ⟨b, ob + j, none⟩ = some x)
    (hlen : xs.length + ys.length < 1000000) (hB : B ≤ w.heap.size)
    (h : ∀ v' w', w'.ownsRow B e size v' (xs ++ ys).length ((xs ++ ys).flatMap f) → Ext (fun c => some c = v.ownBlock) w w' → K (a.put o.dst v') w') :
    if Region.wanted o (yielded ops a.tmps) = true then Oper.wp P o a w K Q else E := by
  have hw : Region.wanted o (yielded ops a.tmps) = true := by simp [Region.wanted, hgd]
  rw [if_pos hw]
  subst hm
  obtain ⟨v', w', h1, h2, h3, h4⟩ := run_appendG (P := P) (ty := o.type) (c := c) ht hi hzs hsz hby hf hf1 hown hu hlen hB
  unfold Oper.wp execOp
  simp only [ho, resolve, invoke, builtin, Sem.run_bind, Sem.run_pure, Result.andThen_ok, List.map_toArray, List.map_cons, List.map_nil, hs, hx, h1]
  exact h v' w' h2 ((Ext.refl _ w).grown h3 (fun c hc _ => hc.symm))

theorem own_gt {g' i cap : Nat} {w : World} (h : w.heap.size ≤ g') : ∀ c, c < w.heap.size → some c = (Value.slice (some ⟨g', 0, none⟩) i cap).ownBlock → No c := by
  intro c hc e
  have : c = g' := by simpa [Value.ownBlock] using e
  omega
theorem own_cap {w : World} {B e size n cap : Nat} {q : Option Addr} {xs : List Value} (h : w.ownsRow B e size (.slice q n cap) n xs) : n ≤ cap := by
  rcases h.2 with ⟨h0, -⟩ | ⟨g', cap', cur, hv, hB, hgg, hnc, rest⟩
  · simp only [Value.slice.injEq] at h0; omega
  · simp only [Value.slice.injEq] at hv
    obtain ⟨-, -, rfl⟩ := hv
    exact hnc

theorem DW.no {w w2 w3 : World} {op a b wt : Int} (h : DW w op a b wt w2) (he : Ext No w2 w3) : DW w op a b wt w3 := ⟨he.obj h.step id, he.obj h.res id, he.obj h.said id, h.he.trans he⟩

set_option maxRecDepth 100000 in
set_option maxHeartbeats 4000000 in
theorem do_ed {w : World} {N mm : Nat} {dir prev : Bool} {s : PS} {vs es : Value} {a b wt : Int} (h : Mo w N mm dir prev s vs es) (hN : N ≤ w.heap.size) (hl : s.V.length + s.E.length < 900000) :
    Calls Tryz.prog 14 #[.pointer (some ⟨mm, 0, none⟩), stepV 6 a b wt] w (DoPost dir prev N mm (DoED dir s a b) w) := by
  have HM := Lib.hid (And.intro h (And.intro hN hl))
  clear h hN hl
  go_enter Tryz.func14, Tryz.ntmps14
  go_wp2_with fail
  have e0 : Ext No w (dw w 6 a b wt) := dw_ext w 6 a b wt
  refine (at_run (HM.out.1.no e0) (by have := HM.out.2.2; omega)).mono ?_
  rintro r1 w2 ⟨n, rfl, hat, he⟩
  have HE := Lib.hid (DW.of he (w := w) (op := 6) (a := a) (b := b) (wt := wt))
  have HM2 := Lib.hid (HM.out.1.no (e0.trans he))
  clear he e0
  obtain ⟨x0, x1, x2, x3, -⟩ := cells4 HE.out.step
  obtain ⟨y0, y1, y2, y3, y4, y5, g0, g1, g2, g3, g4, g5⟩ := cells6 HE.out.said
  obtain ⟨z0, z1, z2, z3, z4, z5, q0, q1, q2, q3, q4, q5⟩ := cells6 HE.out.res
  have lx := World.block_lt_of_cell? _ _ x0
  have ly := World.block_lt_of_cell? _ _ y0
  have lz := World.block_lt_of_cell? _ _ z0
  rcases hat with ⟨rfl, hno⟩ | ⟨i, rfl, hlt, hj, -⟩
  · have HN := Lib.hid (show ¬ hasE dir s.E a b from fun h => by
      obtain ⟨e, he, hj⟩ := hasE_any.1 h
      rw [hno e he] at hj; cases hj)
    clear hno
    go_wp2
    refine bodyPost_ret (v := saidV 5 0 0 0 nilS nilS) ?hr rfl ?hR
    case hR => exact doErr HE.out HM2.out 5 (⟨rfl, Or.inl ⟨HN.out, rfl⟩⟩) (HM.out.1.lt' HM.out.2.1)
    case hr => exact results_cell1 (fn := Tryz.f14) (g := w.heap.size + 1) (p := 4) (ty := 41) rfl rfl (doErr_row HE.out 5) Tryz.underlying41 rfl sz41
  · have HJ := Lib.hid hj
    clear hj
    obtain ⟨m0, m1, m2, m3, -⟩ := cells4 HM2.out.row
    have lm := World.block_lt_of_cell? _ _ m0
    have hpos : (0 : Int) ≤ (i : Int) := by omega
    have hlt' : (i : Int) < (s.E.length : Int) := by omega
    have hnn : ¬ (i : Int) < 0 := by omega
    go_upto_region 44 with (at_builtin; (refine wpL_appendN (xs := ([] : List Tri)) (ys := s.E) (f := triC) (B := w2.heap.size) rfl rfl U27 I48 rfl (by decide) (by decide) (fun _ => rfl) triC_one rfl (own0T (heap_alloc w2 _).1 (Nat.le_refl _)) rfl ((RdS.of_own HM2.out.E).ext ((Ext.refl No w2).alloc _) (fun _ _ h => h)) (by have := HM.out.2.2; simp; omega) (by simp) ?_); intro v1 w1 ho1 he1 hb1; obtain ⟨qq1, cap1, hv1, -⟩ := own_read (f := triC) (fun _ => rfl) ho1; simp only [List.nil_append] at hv1 ho1; subst hv1; have HX := Lib.hid (And.intro ho1 (Ext.app ((Ext.refl No w2).alloc _) he1 (Nat.le_refl _))); clear ho1 he1 hb1; obtain ⟨x0, x1, x2, x3, -⟩ := cells4 (HX.out.2.obj HE.out.step id); have lx := World.block_lt_of_cell? _ _ x0)
    clear m0 m1 m2 m3 lm y0 y1 y2 y3 y4 y5 g0 g1 g2 g3 g4 g5 z0 z1 z2 z3 z4 z5 q0 q1 q2 q3 q4 q5 ly lz
    obtain ⟨x0, x1, x2, x3, -⟩ := cells4 (HX.out.2.obj HE.out.step id)
    have HE3 := Lib.hid (HE.out.no HX.out.2)
    have HM3 := Lib.hid (HM2.out.no HX.out.2)
    obtain ⟨g', rfl, hg, hc⟩ := own_at (f := triC) (fun _ => rfl) HX.out.1 hlt
    have c2 : w1.cell? ⟨g', i * 3 + 2, none⟩ = some (.int .i64 (s.E[i]'hlt).2.2) := hc 2 (by decide)
    obtain ⟨y0, y1, y2, y3, y4, y5, g0, g1, g2, g3, g4, g5⟩ := cells6 HE3.out.said
    have lx := World.block_lt_of_cell? _ _ x0
    have ly := World.block_lt_of_cell? _ _ y0
    have hge : w2.heap.size ≤ g' := (HX.out.1.lt g' rfl).1
    have hly2 := (Array.getElem?_eq_some_iff.1 HE.out.said).1
    have hne1 : ¬ w.heap.size + 1 + 1 = w.heap.size := by omega
    have hne2 : ¬ w.heap.size + 1 + 1 = g' := by omega
    have hne3 : ¬ g' = w.heap.size + 1 + 1 := by omega
    clear hc hge hly2 y0 y4 y5 g0 g4 g5 x0 x3
    go_region
    · have hX : Ext (fun c => c = w.heap.size + 2) w1 (((w1.setCell ⟨w.heap.size + 2, 1, none⟩ (kI a)).setCell ⟨w.heap.size + 2, 2, none⟩ (kI b)).setCell ⟨w.heap.size + 2, 3, none⟩ (.int .i64 (s.E[i]'hlt).2.2)).drew := ((((Ext.refl (fun c => c = w.heap.size + 2) w1).setCell ⟨w.heap.size + 2, 1, none⟩ (kI a) (fun _ => rfl)).setCell ⟨w.heap.size + 2, 2, none⟩ (kI b) (fun _ => rfl)).setCell ⟨w.heap.size + 2, 3, none⟩ (.int .i64 (s.E[i]'hlt).2.2) (fun _ => rfl)).drew
      have hS : (((w1.setCell ⟨w.heap.size + 2, 1, none⟩ (kI a)).setCell ⟨w.heap.size + 2, 2, none⟩ (kI b)).setCell ⟨w.heap.size + 2, 3, none⟩ (.int .i64 (s.E[i]'hlt).2.2)).drew.heap[w.heap.size + 2]? = some (.cells #[.int .u8 0, kI a, kI b, .int .i64 (s.E[i]'hlt).2.2, nilS, nilS] 41 (0, 0)) := at_drew (set_heap (o := 3) (set_heap (o := 2) (set_heap (o := 1) HE3.out.said (kI a)) (kI b)) (.int .i64 (s.E[i]'hlt).2.2))
      have HY := Lib.hid (And.intro hX hS)
      clear hX hS x1 x2 y1 y2 y3 g1 g2 g3 lx ly c2 hne1 hne2 hne3
      generalize (((w1.setCell ⟨w.heap.size + 1 + 1, 1, none⟩ (kI a)).setCell ⟨w.heap.size + 1 + 1, 2, none⟩ (kI b)).setCell ⟨w.heap.size + 1 + 1, 3, none⟩ (.int .i64 (s.E[i]'hlt).2.2)).drew = W at HY ⊢
      obtain ⟨y0, y1, y2, y3, y4, y5, g0, g1, g2, g3, g4, g5⟩ := cells6 HY.out.2
      obtain ⟨z0, z1, z2, z3, z4, z5, q0, q1, q2, q3, q4, q5⟩ := cells6 (HY.out.1.obj HE3.out.res (by omega))
      have ly := World.block_lt_of_cell? _ _ y0
      have lz := World.block_lt_of_cell? _ _ z0
      go_wp2
      refine bodyPost_ret (v := saidV 0 a b (s.E[i]'hlt).2.2 nilS nilS) ?hr rfl ?hR
      case hR =>
        refine doSaid HE3.out HM3.out (HM.out.1.lt' HM.out.2.1) ⟨rfl, Or.inr ⟨(s.E[i]'hlt).2.2, ?_, rfl⟩⟩ HY.out.1
        have hj := HJ.out
        have hm := List.getElem_mem hlt
        generalize s.E[i]'hlt = e at hj hm
        obtain ⟨e1, e2, e3⟩ := e
        cases dir with
        | true =>
          simp [joins] at hj
          rw [← hj.1, ← hj.2]; exact hm
        | false =>
          simp [joins] at hj
          rcases hj with ⟨rfl, rfl⟩ | ⟨rfl, rfl⟩
          · exact mem_stored_self hm
          · exact mem_stored_rev hm
      case hr => exact results_cell1 (fn := Tryz.f14) (g := w.heap.size + 1) (p := 4) (ty := 41) rfl rfl (doSaid_row HE3.out HY.out.1 0 a b (s.E[i]'hlt).2.2) Tryz.underlying41 rfl sz41

set_option maxRecDepth 100000 in
set_option maxHeartbeats 4000000 in
theorem do_ue {w : World} {N mm : Nat} {dir prev : Bool} {s : PS} {vs es : Value} {a b wt : Int} (h : Mo w N mm dir prev s vs es) (hN : N ≤ w.heap.size) (hl : s.V.length + s.E.length < 900000) :
    Calls Tryz.prog 14 #[.pointer (some ⟨mm, 0, none⟩), stepV 4 a b wt] w (DoPost dir prev N mm (DoUEs dir s a b wt) w) := by
  have HM := Lib.hid (And.intro h (And.intro hN hl))
  clear h hN hl
  go_enter Tryz.func14, Tryz.ntmps14
  go_wp2_with fail
  have e0 : Ext No w (dw w 4 a b wt) := dw_ext w 4 a b wt
  refine (at_run (HM.out.1.no e0) (by have := HM.out.2.2; omega)).mono ?_
  rintro r1 w2 ⟨n, rfl, hat, he⟩
  have HE := Lib.hid (DW.of he (w := w) (op := 4) (a := a) (b := b) (wt := wt))
  have HM2 := Lib.hid (HM.out.1.no (e0.trans he))
  clear he e0
  obtain ⟨x0, x1, x2, x3, -⟩ := cells4 HE.out.step
  obtain ⟨y0, y1, y2, y3, y4, y5, g0, g1, g2, g3, g4, g5⟩ := cells6 HE.out.said
  obtain ⟨z0, z1, z2, z3, z4, z5, q0, q1, q2, q3, q4, q5⟩ := cells6 HE.out.res
  have lx := World.block_lt_of_cell? _ _ x0
  have ly := World.block_lt_of_cell? _ _ y0
  have lz := World.block_lt_of_cell? _ _ z0
  rcases hat with ⟨rfl, hno⟩ | ⟨i, rfl, hlt, hj, -⟩
  · have HN := Lib.hid (show ¬ hasE dir s.E a b from fun h => by
      obtain ⟨e, he, hj⟩ := hasE_any.1 h
      rw [hno e he] at hj; cases hj)
    clear hno
    go_wp2
    refine bodyPost_ret (v := saidV 5 0 0 0 nilS nilS) ?hr rfl ?hR
    case hR => exact doErr HE.out HM2.out 5 (Or.inl ⟨HN.out, rfl, rfl⟩) (HM.out.1.lt' HM.out.2.1)
    case hr => exact results_cell1 (fn := Tryz.f14) (g := w.heap.size + 1) (p := 4) (ty := 41) rfl rfl (doErr_row HE.out 5) Tryz.underlying41 rfl sz41
  · have HJ := Lib.hid hj
    clear hj
    obtain ⟨m0, m1, m2, m3, -⟩ := cells4 HM2.out.row
    have lm := World.block_lt_of_cell? _ _ m0
    have hpos : (0 : Int) ≤ (i : Int) := by omega
    have hlt' : (i : Int) < (s.E.length : Int) := by omega
    have hnn : ¬ (i : Int) < 0 := by omega
    go_upto_region 48 with (at_builtin; (refine wpL_appendN (xs := ([] : List Tri)) (ys := s.E) (f := triC) (B := w2.heap.size) rfl rfl U27 I48 rfl (by decide) (by decide) (fun _ => rfl) triC_one rfl (own0T (heap_alloc w2 _).1 (Nat.le_refl _)) rfl ((RdS.of_own HM2.out.E).ext ((Ext.refl No w2).alloc _) (fun _ _ h => h)) (by have := HM.out.2.2; simp; omega) (by simp) ?_); intro v1 w1 ho1 he1 hb1; obtain ⟨qq1, cap1, hv1, -⟩ := own_read (f := triC) (fun _ => rfl) ho1; simp only [List.nil_append] at hv1 ho1; subst hv1; have HX := Lib.hid (And.intro ho1 (Ext.app ((Ext.refl No w2).alloc _) he1 (Nat.le_refl _))); clear ho1 he1 hb1; obtain ⟨x0, x1, x2, x3, -⟩ := cells4 (HX.out.2.obj HE.out.step id); have lx := World.block_lt_of_cell? _ _ x0)
    clear m0 m1 m2 m3 lm y0 y1 y2 y3 y4 y5 g0 g1 g2 g3 g4 g5 z0 z1 z2 z3 z4 z5 q0 q1 q2 q3 q4 q5 ly lz
    obtain ⟨x0, x1, x2, x3, -⟩ := cells4 (HX.out.2.obj HE.out.step id)
    obtain ⟨m0, m1, m2, m3, mf0, mf1, mf2, mf3⟩ := cells4 (HX.out.2.obj HM2.out.row id)
    have lm := World.block_lt_of_cell? _ _ m0
    have lx := World.block_lt_of_cell? _ _ x0
    obtain ⟨g', rfl, hg, hc⟩ := own_at (f := triC) (fun _ => rfl) HX.out.1 hlt
    have hge : w2.heap.size ≤ g' := (HX.out.1.lt g' rfl).1
    have hmm := HM.out.1.lt' HM.out.2.1
    have hsz := HE.out.he.size
    have HMM := Lib.hid (And.intro hge (And.intro hmm hsz))
    have hne1 : ¬ g' = mm := by omega
    have hne2 : ¬ mm = g' := by omega
    have c2 : w1.cell? ⟨g', i * 3 + 2, none⟩ = some (.int .i64 (s.E[i]'hlt).2.2) := hc 2 (by decide)
    have f2 : w1.frozen? ⟨g', i * 3 + 2, none⟩ = false := own_frz HX.out.1 _
    clear hc hge hmm hsz x0 x1 x2 m0 m1 m2 mf0 mf1 mf2
    go_upto_region 65 with (fail)
    · have HZ : RowKit.Hid (AvEnd w N mm dir prev ⟨s.V, s.E.set i ((s.E[i]'hlt).1, (s.E[i]'hlt).2.1, wt)⟩ vs (.slice (some ⟨g', 0, none⟩) (s.E.set i ((s.E[i]'hlt).1, (s.E[i]'hlt).2.1, wt)).length cap1) ((w1.setCell ⟨g', i * 3 + 2, none⟩ (.int .i64 wt)).setCell ⟨mm, 3, none⟩ (.slice (some ⟨g', 0, none⟩) (s.E.set i ((s.E[i]'hlt).1, (s.E[i]'hlt).2.1, wt)).length cap1))) := Lib.hid (AvEnd.ofE HE.out HM2.out HM.out.2.1 HMM.out.2.1 (HX.out.2.then ((Ext.refl (fun c => c = g') w1).setCell _ _ (fun _ => rfl)) (fun c hc e => by have := HMM.out.1; omega)) (by rw [List.length_set]; have := own_wt HX.out.1 hlt wt; rw [List.length_set] at this; exact this))
      rw [List.length_set] at HZ
      generalize (w1.setCell ⟨g', i * 3 + 2, none⟩ (.int .i64 wt)).setCell ⟨mm, 3, none⟩ (.slice (some ⟨g', 0, none⟩) s.E.length cap1) = W5 at HZ ⊢
      clear x3 m3 mf3 lm lx c2 f2 hne1 hne2
      obtain ⟨y0, y1, y2, y3, y4, y5, g0, g1, g2, g3, g4, g5⟩ := cells6 HZ.out.said
      obtain ⟨z0, z1, z2, z3, z4, z5, q0, q1, q2, q3, q4, q5⟩ := cells6 HZ.out.res
      have ly := World.block_lt_of_cell? _ _ y0
      have lz := World.block_lt_of_cell? _ _ z0
      go_wp2
      refine bodyPost_ret (v := saidV 0 0 0 0 nilS nilS) ?hr rfl ?hR
      case hR =>
        have h := HZ.out
        have e7 := (Ext.refl (fun c => c = w.heap.size + 1) W5).set6 (b := w.heap.size + 1) rfl (.int .u8 0) (.int .i64 0) (.int .i64 0) (.int .i64 0) nilS nilS
        exact ⟨⟨s.V, _⟩, .err 0, _, _, nilS, nilS, rfl, Or.inr ⟨i, hlt, HJ.out, rfl, rfl⟩, h.M.ext e7 (fun e => by have := HM.out.1.lt' HM.out.2.1; omega) (fun c hc e => row_ne h.res h.M.V (by decide) (by rw [hc, e])) (fun c hc e => row_ne h.res h.M.E (by decide) (by rw [hc, e])), nil_own, nil_own, h.he.then e7 (fun c hc e => by omega)⟩
      case hr => exact results_cell1 (fn := Tryz.f14) (g := w.heap.size + 1) (p := 4) (ty := 41) rfl rfl (set6 HZ.out.res (.int .u8 0) (.int .i64 0) (.int .i64 0) (.int .i64 0) nilS nilS) Tryz.underlying41 rfl sz41

set_option maxRecDepth 100000 in
set_option maxHeartbeats 4000000 in
theorem do_re {w : World} {N mm : Nat} {dir prev : Bool} {s : PS} {vs es : Value} {a b wt : Int} (h : Mo w N mm dir prev s vs es) (hN : N ≤ w.heap.size) (hl : s.V.length + s.E.length < 900000) :
    Calls Tryz.prog 14 #[.pointer (some ⟨mm, 0, none⟩), stepV 3 a b wt] w (DoPost dir prev N mm (DoREs dir s a b) w) := by
  have HM := Lib.hid (And.intro h (And.intro hN hl))
  clear h hN hl
  go_enter Tryz.func14, Tryz.ntmps14
  go_wp2_with fail
  have e0 : Ext No w (dw w 3 a b wt) := dw_ext w 3 a b wt
  refine (at_run (HM.out.1.no e0) (by have := HM.out.2.2; omega)).mono ?_
  rintro r1 w2 ⟨n, rfl, hat, he⟩
  have HE := Lib.hid (DW.of he (w := w) (op := 3) (a := a) (b := b) (wt := wt))
  have HM2 := Lib.hid (HM.out.1.no (e0.trans he))
  clear he e0
  obtain ⟨x0, x1, x2, x3, -⟩ := cells4 HE.out.step
  obtain ⟨y0, y1, y2, y3, y4, y5, g0, g1, g2, g3, g4, g5⟩ := cells6 HE.out.said
  obtain ⟨z0, z1, z2, z3, z4, z5, q0, q1, q2, q3, q4, q5⟩ := cells6 HE.out.res
  have lx := World.block_lt_of_cell? _ _ x0
  have ly := World.block_lt_of_cell? _ _ y0
  have lz := World.block_lt_of_cell? _ _ z0
  rcases hat with ⟨rfl, hno⟩ | ⟨i, rfl, hlt, hj, -⟩
  · have HN := Lib.hid (show ¬ hasE dir s.E a b from fun h => by
      obtain ⟨e, he, hj⟩ := hasE_any.1 h
      rw [hno e he] at hj; cases hj)
    clear hno
    go_wp2
    refine bodyPost_ret (v := saidV 5 0 0 0 nilS nilS) ?hr rfl ?hR
    case hR => exact doErr HE.out HM2.out 5 (Or.inl ⟨HN.out, rfl, rfl⟩) (HM.out.1.lt' HM.out.2.1)
    case hr => exact results_cell1 (fn := Tryz.f14) (g := w.heap.size + 1) (p := 4) (ty := 41) rfl rfl (doErr_row HE.out 5) Tryz.underlying41 rfl sz41
  · have HJ := Lib.hid hj
    clear hj
    obtain ⟨m0, m1, m2, m3, -⟩ := cells4 HM2.out.row
    have lm := World.block_lt_of_cell? _ _ m0
    have hpos : (0 : Int) ≤ (i : Int) := by omega
    have hlt' : (i : Int) < (s.E.length : Int) := by omega
    have hnn : ¬ (i : Int) < 0 := by omega
    go_upto_region 46 with (at_builtin; (refine wpL_appendN (xs := ([] : List Tri)) (ys := s.E) (f := triC) (B := w2.heap.size) rfl rfl U27 I48 rfl (by decide) (by decide) (fun _ => rfl) triC_one rfl (own0T (heap_alloc w2 _).1 (Nat.le_refl _)) rfl ((RdS.of_own HM2.out.E).ext ((Ext.refl No w2).alloc _) (fun _ _ h => h)) (by have := HM.out.2.2; simp; omega) (by simp) ?_); intro v1 w1 ho1 he1 hb1; obtain ⟨qq1, cap1, hv1, -⟩ := own_read (f := triC) (fun _ => rfl) ho1; simp only [List.nil_append] at hv1 ho1; subst hv1; have HX := Lib.hid (And.intro ho1 (Ext.app ((Ext.refl No w2).alloc _) he1 (Nat.le_refl _))); clear ho1 he1 hb1; obtain ⟨x0, x1, x2, x3, -⟩ := cells4 (HX.out.2.obj HE.out.step id); have lx := World.block_lt_of_cell? _ _ x0)
    clear m0 m1 m2 m3 lm y0 y1 y2 y3 y4 y5 g0 g1 g2 g3 g4 g5 z0 z1 z2 z3 z4 z5 q0 q1 q2 q3 q4 q5 ly lz
    obtain ⟨x0, x1, x2, x3, -⟩ := cells4 (HX.out.2.obj HE.out.step id)
    obtain ⟨m0, m1, m2, m3, mf0, mf1, mf2, mf3⟩ := cells4 (HX.out.2.obj HM2.out.row id)
    have lm := World.block_lt_of_cell? _ _ m0
    have lx := World.block_lt_of_cell? _ _ x0
    obtain ⟨g', rfl, hg, hc⟩ := own_at (f := triC) (fun _ => rfl) HX.out.1 hlt
    have hge : w2.heap.size ≤ g' := (HX.out.1.lt g' rfl).1
    have hmm := HM.out.1.lt' HM.out.2.1
    have hsz := HE.out.he.size
    have HMM := Lib.hid (And.intro hge (And.intro hmm hsz))
    have hne1 : ¬ g' = mm := by omega
    have hne2 : ¬ mm = g' := by omega
    have hs1 := sl27_head (some ⟨g', 0, none⟩) (n := s.E.length) (cap := cap1) (k := i) (by have := own_cap HX.out.1; omega)
    have HT := Lib.hid (And.intro (own_take (f := triC) (fun _ => rfl) HX.out.1 hlt) (tail_read HX.out.1 (k := i + 1)))
    clear hc hge hmm hsz x0 x1 x2 x3 m0 m1 m2 mf0 mf1 mf2
    have hwr : IntKind.i64.wrap ((i : Int) + 1) = (i : Int) + 1 := by
      have := HM.out.2.2
      exact IntWalk.i64_in _ (by omega)
    have hb1 : (i : Int) + 1 ≤ (s.E.length : Int) := by omega
    have hb0 : (0 : Int) ≤ (i : Int) + 1 := by omega
    have hb2 : (i : Int) ≤ (i : Int) + 1 := by omega
    have hb3 : (i : Int) ≤ (cap1 : Int) := by have := own_cap HX.out.1; omega
    have hcat : RowKit.Hid (s.E.take i ++ s.E.drop (i + 1) = s.E.eraseIdx i) := Lib.hid (List.eraseIdx_eq_take_drop_succ _ _).symm
    obtain ⟨o7, ho7, hu7⟩ : ∃ o7, (if cap1 = i + 1 then some (⟨g', 0, none⟩ : Addr) else some ⟨g', (i + 1) * 3, none⟩) = some ⟨g', o7, none⟩ ∧ ∀ (j : Nat) (x : Value), ((s.E.drop (i + 1)).flatMap triC)[j]? = some x → w1.cell? ⟨g', o7 + j, none⟩ = some x := by
      by_cases hcp : cap1 = i + 1
      · refine ⟨0, if_pos hcp, fun j x hx => absurd hx ?_⟩
        have := own_cap HX.out.1
        rw [List.drop_eq_nil_of_le (by omega)]; simp
      · exact ⟨(i + 1) * 3, if_neg hcp, HT.out.2⟩
    refine AnyZ.start (fun _ => True) 11 (by kernel_rfl) trivial (fun hS => ?_)
    refine AnyZ.take (i := 0) (v := (.pointer (some ⟨mm, 0, none⟩))) rfl (by kernel_rfl) (by kernel_rfl) (by kernel_rfl) (by kernel_rfl) (fun _ _ _ h => h) hS (by rfl) (by intro u _; go_simp) ?_
    simp only [List.getElem_toArray, List.getElem_cons_zero, Act.put, List.setIfInBounds_toArray, List.set_cons_zero, List.set_cons_succ]
    refine AnyZ.take (i := 1) (v := (.slice (some ⟨g', 0, none⟩) s.E.length cap1)) rfl (by kernel_rfl) (by kernel_rfl) (by kernel_rfl) (by kernel_rfl) (fun _ _ _ h => h) hS (by rfl) (by intro u _; go_simp) ?_
    simp only [List.getElem_toArray, List.getElem_cons_zero, List.getElem_cons_succ, Act.put, List.setIfInBounds_toArray, List.set_cons_zero, List.set_cons_succ]
    refine AnyZ.take (i := 2) (v := (.int .i64 (i : Int))) rfl (by kernel_rfl) (by kernel_rfl) (by kernel_rfl) (by kernel_rfl) (fun _ _ _ h => h) hS (by rfl) (by intro u _; go_simp) ?_
    simp only [List.getElem_toArray, List.getElem_cons_zero, List.getElem_cons_succ, Act.put, List.setIfInBounds_toArray, List.set_cons_zero, List.set_cons_succ]
    refine AnyZ.take (i := 4) (v := (.slice (some ⟨g', 0, none⟩) s.E.length cap1)) rfl (by kernel_rfl) (by kernel_rfl) (by kernel_rfl) (by kernel_rfl) (fun _ _ _ h => h) hS (by rfl) (by intro u _; go_simp) ?_
    simp only [List.getElem_toArray, List.getElem_cons_zero, List.getElem_cons_succ, Act.put, List.setIfInBounds_toArray, List.set_cons_zero, List.set_cons_succ]
    refine AnyZ.take (i := 5) (v := (.int .i64 (i : Int))) rfl (by kernel_rfl) (by kernel_rfl) (by kernel_rfl) (by kernel_rfl) (fun _ _ _ h => h) hS (by rfl) (by intro u _; go_simp) ?_
    simp only [List.getElem_toArray, List.getElem_cons_zero, List.getElem_cons_succ, Act.put, List.setIfInBounds_toArray, List.set_cons_zero, List.set_cons_succ]
    refine AnyZ.take (i := 6) (v := (.int .i64 ((i : Int) + 1))) rfl (by kernel_rfl) (by kernel_rfl) (by kernel_rfl) (by kernel_rfl) (fun _ _ _ h => h) hS (by rfl) (by intro u _; go_simp) ?_
    simp only [List.getElem_toArray, List.getElem_cons_zero, List.getElem_cons_succ, Act.put, List.setIfInBounds_toArray, List.set_cons_zero, List.set_cons_succ]
    refine AnyZ.take (i := 3) (v := (.slice (some ⟨g', 0, none⟩) i cap1)) rfl (by kernel_rfl) (by kernel_rfl) (by kernel_rfl) (by kernel_rfl) (fun _ _ _ h => h) hS (by rfl) (by intro u _; go_simp) ?_
    simp only [List.getElem_toArray, List.getElem_cons_zero, List.getElem_cons_succ, Act.put, List.setIfInBounds_toArray, List.set_cons_zero, List.set_cons_succ]
    refine AnyZ.take (i := 7) (v := (.slice (some ⟨g', o7, none⟩) (s.E.length - (i + 1)) (cap1 - (i + 1)))) rfl (by kernel_rfl) (by kernel_rfl) (by kernel_rfl) (by kernel_rfl) (fun _ _ _ h => h) hS (by rfl) (by intro u _; go_simp) ?_
    simp only [List.getElem_toArray, List.getElem_cons_zero, List.getElem_cons_succ, Act.put, List.setIfInBounds_toArray, List.set_cons_zero, List.set_cons_succ]
    refine AnyZ.part (rs := [8]) (by kernel_rfl) (by simp) ?_
    refine ReadyZ.cons rfl (fun K hK => ?_) ReadyZ.nil
    have hu8 : ∀ (j : Nat) (x : Value), ((s.E.drop (i + 1)).flatMap triC)[j]? = some x → w1.drew.cell? ⟨g', o7 + j, none⟩ = some x := fun j x hx => ((Ext.refl No w1).drew).cellv (hu7 j x hx) id
    have ho8 := ownsRow_ext HT.out.1 (Ext.refl No w1).drew (fun _ _ h => h)
    have hl8 : (s.E.drop (i + 1)).length = s.E.length - (i + 1) := by simp
    refine step_appendG (s := .tmp 192) (x := .tmp 196) (v := .slice (some ⟨g', 0, none⟩) i cap1) (xs := s.E.take i) (ys := s.E.drop (i + 1)) (f := triC) (B := w2.heap.size) (b := g') (ob := o7) (m := s.E.length - (i + 1)) (c := cap1 - (i + 1)) rfl (by rfl) U27 I48 rfl (by decide) (by decide) (fun _ => rfl) triC_one (by rfl) ho8 (by rfl) hl8 hu8 (by have := HM.out.2.2; simp; omega) (by exact HX.out.2.size) ?_
    intro v2 w4 ho2 he2
    have hnb : ¬ (some mm = (Value.slice (some ⟨g', 0, none⟩) i cap1).ownBlock) := (fun e => hne2 (by simpa [Value.ownBlock] using e))
    have k3 := he2.cellv m3 hnb
    have kf := (he2.frz ⟨mm, 3, none⟩ lm hnb).trans mf3
    have km := Nat.lt_of_lt_of_le lm he2.size
    rw [hcat.out] at ho2
    obtain ⟨q2, cap2, hv2, -⟩ := own_read (f := triC) (fun _ => rfl) ho2
    subst hv2
    have HA := Lib.hid (And.intro ho2 (HX.out.2.drew.then he2 (own_gt HMM.out.1)))
    clear ho2 he2 hnb
    refine hK.out _ _ (fun _ => trivial) (fun hS1 => ?_)
    have hS := hS1 (by decide)
    clear hK K hS1
    simp only [List.getElem_toArray, List.getElem_cons_zero, List.getElem_cons_succ, Act.put, List.setIfInBounds_toArray, List.set_cons_zero, List.set_cons_succ]
    refine AnyZ.part (rs := [9]) (by kernel_rfl) (by simp) ?_
    refine ReadyZ.cons rfl (fun K hK => ?_) ReadyZ.nil
    go_simp
    refine hK.out _ _ (fun _ => trivial) (fun hS1 => ?_)
    have hS := hS1 (by decide)
    clear hK K hS1
    refine AnyZ.part (rs := [10]) (by kernel_rfl) (by simp) ?_
    refine ReadyZ.cons rfl (fun K hK => ?_) ReadyZ.nil
    go_simp
    refine hK.out _ _ (fun _ => trivial) (fun hS1 => ?_)
    have hS := hS1 (by decide)
    clear hK K hS1
    refine AnyZ.part (rs := [11]) (by kernel_rfl) (by simp) ?_
    refine ReadyZ.cons rfl (fun K hK => ?_) ReadyZ.nil
    go_simp
    refine hK.out _ _ (fun h => absurd rfl h) (fun _ => ?_)
    refine AnyZ.done (by kernel_rfl) ?_ _
    · have HZ : RowKit.Hid (AvEnd w N mm dir prev ⟨s.V, s.E.eraseIdx i⟩ vs (.slice q2 (s.E.eraseIdx i).length cap2) (w4.setCell ⟨mm, 3, none⟩ (.slice q2 (s.E.eraseIdx i).length cap2))) := Lib.hid (AvEnd.ofE HE.out HM2.out HM.out.2.1 HMM.out.2.1 HA.out.2 HA.out.1)
      generalize w4.setCell ⟨mm, 3, none⟩ (.slice q2 (s.E.eraseIdx i).length cap2) = W5 at HZ ⊢
      clear hK K k3 kf km m3 mf3 lm lx hne1 hne2 hS
      obtain ⟨y0, y1, y2, y3, y4, y5, g0, g1, g2, g3, g4, g5⟩ := cells6 HZ.out.said
      obtain ⟨z0, z1, z2, z3, z4, z5, q0, q1, q2', q3, q4, q5⟩ := cells6 HZ.out.res
      have ly := World.block_lt_of_cell? _ _ y0
      have lz := World.block_lt_of_cell? _ _ z0
      go_wp2
      refine bodyPost_ret (v := saidV 0 0 0 0 nilS nilS) ?hr rfl ?hR
      case hR =>
        have h := HZ.out
        have e7 := (Ext.refl (fun c => c = w.heap.size + 1) W5).set6 (b := w.heap.size + 1) rfl (.int .u8 0) (.int .i64 0) (.int .i64 0) (.int .i64 0) nilS nilS
        exact ⟨⟨s.V, _⟩, .err 0, _, _, nilS, nilS, rfl, Or.inr ⟨i, hlt, HJ.out, rfl, rfl⟩, h.M.ext e7 (fun e => by have := HM.out.1.lt' HM.out.2.1; omega) (fun c hc e => row_ne h.res h.M.V (by decide) (by rw [hc, e])) (fun c hc e => row_ne h.res h.M.E (by decide) (by rw [hc, e])), nil_own, nil_own, h.he.then e7 (fun c hc e => by omega)⟩
      case hr => exact results_cell1 (fn := Tryz.f14) (g := w.heap.size + 1) (p := 4) (ty := 41) rfl rfl (set6 HZ.out.res (.int .u8 0) (.int .i64 0) (.int .i64 0) (.int .i64 0) nilS nilS) Tryz.underlying41 rfl sz41
end Go.Proofs.YtcenebjdhbdejaaGreatDoor
