/- The graph as lists, in the program: Do, AddVertex: walked. -/
import Derived.Test.YtcenebjdhbdejaaGreatDoorP1
import Derived.Test.YtcenebjdhbdejaaGreatDoorS1
namespace Go.Proofs.YtcenebjdhbdejaaGreatDoor
open Go.MapKept

/-- results: a variable in memory, alone -/
theorem results_cell1 {P : Program} {fn : Func} {p : Tmp} {ty : TypeId} (h : fn.results = #[.cell p ty]) {tmps : Array Value} {w : World} {g : Nat} {t : TypeId} {cs : Array Value} {fr : Nat × Nat} {d : TypeDesc}
    (hp : tmps.getD p undef = .pointer (some ⟨g, 0, none⟩)) (hg : w.heap[g]? = some (.cells cs t fr))
    (hu : P.underlying ty = some d) (hd : (match d with | .struct _ | .array _ _ => true | _ => false) = true) (hi : (P.info? ty).map (·.size) = some cs.size) :
    (results fn tmps).run P w = .ok (.agg cs) w := by
  have hp' : tmps[p]?.getD undef = .pointer (some ⟨g, 0, none⟩) := by simpa using hp
  simp [results, h, hp', asAddr, run_loadVar_row w g t ty cs fr d hg hu hd hi]

abbrev said0s : Obj := .cells #[.int .u8 0, .int .i64 0, .int .i64 0, .int .i64 0, nilS, nilS] 41 (0, 0)
theorem sz41 : (Tryz.prog.info? 41).map (·.size) = some 6 := by kernel_rfl

/-- what Do leaves -/
def DoPost (dir prev : Bool) (N mm : Nat) (D : PS → SP → Prop) (w : World) (r : Ending) (w' : World) : Prop :=
  ∃ (s' : PS) (sp : SP) (vs es ks xs : Value), r = .returned (saidV sp.er sp.a sp.b sp.w ks xs) ∧ D s' sp ∧ Mo w' N mm dir prev s' vs es ∧
    w'.ownsRow w.heap.size 2 1 ks sp.ks.length (sp.ks.flatMap oneC) ∧ w'.ownsRow w.heap.size 48 3 xs sp.es.length (sp.es.flatMap triC) ∧ Ext (fun c => c = mm) w w'

/-- Do's world as the switch begins -/
abbrev dw (w : World) (op a b wt : Int) : World := ((w.alloc (.cells #[.int .u8 op, kI a, kI b, .int .i64 wt] 35)).alloc said0s).alloc said0s
theorem dw_ext (w : World) (op a b wt : Int) : Ext No w (dw w op a b wt) := (((Ext.refl No w).alloc _).alloc _).alloc _

structure DW (w : World) (op a b wt : Int) (w2 : World) : Prop where
  step : w2.heap[w.heap.size]? = some (.cells #[.int .u8 op, kI a, kI b, .int .i64 wt] 35 (0, 0))
  res : w2.heap[w.heap.size + 1]? = some said0s
  said : w2.heap[w.heap.size + 2]? = some said0s
  he : Ext No w w2

theorem DW.of {w w2 : World} {op a b wt : Int} (h : Ext No (dw w op a b wt) w2) : DW w op a b wt w2 where
  step := h.obj (alloc_heap (alloc_heap (heap_alloc w _).1 _) _) id
  res := h.obj (alloc_heap (two_new w _ _) _) id
  said := h.obj (by
    have := (heap_alloc ((w.alloc (.cells #[.int .u8 op, kI a, kI b, .int .i64 wt] 35)).alloc said0s) said0s).1
    simpa using this) id
  he := (dw_ext w op a b wt).trans h

theorem Mo.lt' {w : World} {N mm : Nat} {dir prev : Bool} {s : PS} {vs es : Value} (h : Mo w N mm dir prev s vs es) (_ : N ≤ w.heap.size) : mm < w.heap.size := (Array.getElem?_eq_some_iff.1 h.row).1

/-- the world that a refused step leaves -/
abbrev errW (w w3 : World) (k : Int) : World := ((((((w3.setCell ⟨w.heap.size + 2, 0, none⟩ (.int .u8 k)).setCell ⟨w.heap.size + 1, 0, none⟩ (.int .u8 k)).setCell ⟨w.heap.size + 1, 1, none⟩ (.int .i64 0)).setCell ⟨w.heap.size + 1, 2, none⟩ (.int .i64 0)).setCell ⟨w.heap.size + 1, 3, none⟩ (.int .i64 0)).setCell ⟨w.heap.size + 1, 4, none⟩ nilS).setCell ⟨w.heap.size + 1, 5, none⟩ nilS

theorem doErr_row {w w3 : World} {op a b wt : Int} (h : DW w op a b wt w3) (k : Int) : (errW w w3 k).heap[w.heap.size + 1]? = some (.cells #[.int .u8 k, .int .i64 0, .int .i64 0, .int .i64 0, nilS, nilS] 41 (0, 0)) :=
  set6 (((Ext.refl (fun c => c = w.heap.size + 2) w3).setCell ⟨w.heap.size + 2, 0, none⟩ (.int .u8 k) (fun _ => rfl)).obj h.res (by omega)) _ _ _ _ _ _

theorem errW_ext (w w3 : World) (k : Int) : Ext (fun c => c = w.heap.size + 2 ∨ c = w.heap.size + 1) w3 (errW w w3 k) :=
  Ext.set6 ((Ext.refl _ w3).setCell _ _ (fun _ => Or.inl rfl)) (Or.inr rfl) _ _ _ _ _ _

theorem doErr {w w3 : World} {op a b wt : Int} {N mm : Nat} {dir prev : Bool} {s : PS} {vs es : Value} {D : PS → SP → Prop} (h : DW w op a b wt w3) (hm : Mo w3 N mm dir prev s vs es) (k : Int) (hD : D s (.err k)) (hmm : mm < w.heap.size) :
    DoPost dir prev N mm D w (.returned (saidV k 0 0 0 nilS nilS)) (errW w w3 k) := by
  have e := errW_ext w w3 k
  have hr : ∀ {B ee size n : Nat} {v : Value} {xs : List Value}, w3.ownsRow B ee size v n xs → ee ≠ 41 → ∀ c, v.ownBlock = some c → ¬ (c = w.heap.size + 2 ∨ c = w.heap.size + 1) := by
    intro B ee size n v xs ho hne c hc hh
    rcases hh with rfl | rfl
    · exact row_ne h.said ho (Ne.symm hne) hc
    · exact row_ne h.res ho (Ne.symm hne) hc
  exact ⟨s, .err k, vs, es, nilS, nilS, rfl, hD, hm.ext e (by omega) (hr hm.V (by decide)) (hr hm.E (by decide)), nil_own, nil_own, (h.he.then e (fun c hc hh => by omega)).no⟩

theorem Ext.app {w3 W w1 : World} {g n c : Nat} (h : Ext No w3 W) (he : Ext (fun c' => some c' = (Value.slice (some ⟨g, 0, none⟩) n c).ownBlock) W w1) (hg : w3.heap.size ≤ g) : Ext No w3 w1 :=
  h.then he (fun x hx e => by simp only [Value.ownBlock, Option.some.injEq] at e; omega)

theorem Ext.app2 {w3 W Wo w1 : World} {e size n : Nat} {v : Value} {xs : List Value} (h : Ext No w3 W) (he : Ext (fun c' => some c' = v.ownBlock) W w1) (ho : Wo.ownsRow w3.heap.size e size v n xs) : Ext No w3 w1 :=
  h.then he (fun x hx e => by have := (ho.lt x e.symm).1; omega)
theorem rd1 {w : World} {g : Nat} {a : Int} {e : TypeId} (h : w.heap[g]? = some (.cells #[kI a] e (0, 0))) : RdS w (.slice (some ⟨g, 0, none⟩) 1 1) [a] oneC :=
  ⟨_, _, rfl, Or.inr ⟨g, rfl, (Array.getElem?_eq_some_iff.1 h).1, fun j x hx => by
    rw [cell_of_row _ _ _ _ _ _ h]
    simpa using hx⟩⟩

/-- behind the store of the new vertices -/
structure AvEnd (w : World) (N mm : Nat) (dir prev : Bool) (s' : PS) (vs es : Value) (W : World) : Prop where
  said : W.heap[w.heap.size + 2]? = some said0s
  res : W.heap[w.heap.size + 1]? = some said0s
  M : Mo W N mm dir prev s' vs es
  he : Ext (fun c => c = mm) w W

theorem AvEnd.of {w w3 w4 : World} {op a b wt : Int} {N mm : Nat} {dir prev : Bool} {s : PS} {vs es v2 : Value} {l : List Int} (h : DW w op a b wt w3) (hm : Mo w3 N mm dir prev s vs es) (hN : N ≤ w.heap.size) (hmm : mm < w.heap.size) (hx : Ext No w3 w4) (ho : w4.ownsRow w3.heap.size 2 1 v2 l.length (l.flatMap oneC)) :
    AvEnd w N mm dir prev ⟨l, s.E⟩ v2 es (w4.setCell ⟨mm, 2, none⟩ v2) := by
  have e5 : Ext (fun c => c = mm) w4 (w4.setCell ⟨mm, 2, none⟩ v2) := (Ext.refl _ w4).setCell _ _ (fun _ => rfl)
  have hrow := hx.obj hm.row id
  refine ⟨e5.obj (hx.obj h.said id) (by omega), e5.obj (hx.obj h.res id) (by omega), ⟨set_heap hrow v2, ?_, ?_⟩, (h.he.trans hx).no.trans e5⟩
  · exact ownsRow_low (ownsRow_ext ho e5 (fun c hc e => row_ne hrow ho (by decide) (by rw [hc, e]))) (Nat.le_trans hN h.he.size)
  · have hE := ownsRow_ext hm.E hx (fun _ _ h => h)
    exact ownsRow_ext hE e5 (fun c hc e => row_ne hrow hE (by decide) (by rw [hc, e]))

theorem own0 {w : World} {g B : Nat} {e : TypeId} (h : w.heap[g]? = some (.cells #[] e (0, 0))) (hB : B ≤ g) : w.ownsRow B e 1 (.slice (some ⟨g, 0, none⟩) 0 0) ([] : List Int).length (([] : List Int).flatMap oneC) :=
  ⟨by simp, Or.inr ⟨g, 0, #[], rfl, hB, h, Nat.le_refl _, Nat.zero_le _, by simp, by simp⟩⟩

set_option maxRecDepth 100000 in
set_option maxHeartbeats 2000000 in
theorem do_av {w : World} {N mm : Nat} {dir prev : Bool} {s : PS} {vs es : Value} {a b wt : Int} (h : Mo w N mm dir prev s vs es) (hN : N ≤ w.heap.size) (hl : s.V.length + s.E.length < 900000) :
    Calls Tryz.prog 14 #[.pointer (some ⟨mm, 0, none⟩), stepV 0 a b wt] w (DoPost dir prev N mm (DoAV s a) w) := by
  have HM := Lib.hid (And.intro h (And.intro hN hl))
  clear h hN hl
  go_enter Tryz.func14, Tryz.ntmps14
  go_wp2_with fail
  have e0 : Ext No w (dw w 0 a b wt) := dw_ext w 0 a b wt
  refine (at_run (HM.out.1.no e0) (by have := HM.out.2.2; omega)).mono ?_
  rintro r1 w2 ⟨n, rfl, hat, he⟩
  have HE := Lib.hid (DW.of he (w := w) (op := 0) (a := a) (b := b) (wt := wt))
  have HM2 := Lib.hid (HM.out.1.no (e0.trans he))
  clear he e0 hat
  obtain ⟨x0, x1, x2, x3, -⟩ := cells4 HE.out.step
  obtain ⟨y0, y1, y2, y3, y4, y5, g0, g1, g2, g3, g4, g5⟩ := cells6 HE.out.said
  obtain ⟨z0, z1, z2, z3, z4, z5, q0, q1, q2, q3, q4, q5⟩ := cells6 HE.out.res
  have lx := World.block_lt_of_cell? _ _ x0
  have ly := World.block_lt_of_cell? _ _ y0
  have lz := World.block_lt_of_cell? _ _ z0
  by_cases ha : a ∈ s.V
  · have hd : decide (a ∈ s.V) = true := by simpa using ha
    go_wp2_with (go_at_call 26; (refine (has_run HM2.out (by have := HM.out.2.2; omega)).mono ?_); rintro r3 w3 ⟨rfl, rfl⟩; rw [hd])
    refine bodyPost_ret (v := saidV 1 0 0 0 nilS nilS) ?hr rfl ?hR
    case hR => exact doErr HE.out HM2.out 1 (by unfold DoAV; rw [if_pos ha]; exact ⟨rfl, rfl⟩) (HM.out.1.lt' HM.out.2.1)
    case hr => exact results_cell1 (fn := Tryz.f14) (g := w.heap.size + 1) (p := 4) (ty := 41) rfl rfl (doErr_row HE.out 1) Tryz.underlying41 rfl sz41
  · have hd : decide (a ∈ s.V) = false := by simpa using ha
    obtain ⟨q, cap, rfl, -⟩ := own_read (f := oneC) (fun _ => rfl) HM.out.1.V
    go_wp2_with (go_at_call 26; (refine (has_run HM2.out (by have := HM.out.2.2; omega)).mono ?_); rintro r3 w3 ⟨rfl, rfl⟩; rw [hd])
    have m2 := (cells4 HM2.out.row).2.2.1
    have fm := (cells4 HM2.out.row).2.2.2.2.2.2.1
    have lm := World.block_lt_of_cell? _ _ m2
    clear x0 x2 x3 y0 y1 y2 y3 y4 y5 g0 g1 g2 g3 g4 g5 z0 z1 z2 z3 z4 z5 q0 q1 q2 q3 q4 q5 ly lz hd
    have HX := Lib.hid (And.intro (RdS.of_own HM2.out.V) (show s.V.length < 900000 by have := HM.out.2.2; omega))
    have hX0 : Ext No w3 w3 := Ext.refl _ _
    have hne : ¬ w.heap.size = mm := by have := HM.out.1.lt' HM.out.2.1; omega
    go_region_law
      (first
        | ((refine step_appendN (s := .tmp 33) (x := .tmp 37) (xs := ([] : List Int)) (ys := s.V) (f := oneC) (B := w3.heap.size) rfl (by rfl) U26 I2 rfl (by decide) (by decide) (fun _ => rfl) oneC_one (by rfl) (own0 (by first | exact (heap_alloc w3 _).1 | exact alloc_heap (heap_alloc w3 _).1 _ | exact two_new w3 _ _) (by omega)) (by rfl) (HX.out.1.ext (S := No) (by first | exact (hX0.alloc _).drew | exact ((hX0.alloc _).alloc _).drew) (fun _ _ h => h)) (by have := HX.out.2; simp; omega) (by first | (simp; done) | (simp; omega)) ?_; intro v1 w1 ho1 he1 hb1; have hx1 : Ext No w3 w1 := (by first | exact Ext.app (hX0.alloc _).drew he1 (by omega) | exact Ext.app ((hX0.alloc _).alloc _).drew he1 (by omega)); have k2 := hx1.cellv x1 id; have k3 := (hx1.frz _ lm id).trans fm; have kz := hx1.size; have km := Nat.lt_of_lt_of_le lm kz; have kx := Nat.lt_of_lt_of_le lx kz))
        | ((refine step_appendN (s := .tmp 38) (x := .tmp 41) (xs := s.V) (ys := [a]) (f := oneC) (B := w3.heap.size) (v := v1) rfl (by rfl) U26 I2 rfl (by decide) (by decide) (fun _ => rfl) oneC_one (by rfl) (by first | exact ho1 | exact ho1.alloc _) (by rfl) (rd1 (by first | exact (heap_alloc w1 _).1 | exact he1.obj (two_new w3 _ _) (by simp [Value.ownBlock]) | exact he1.obj (alloc_heap (heap_alloc w3 _).1 _) (by simp [Value.ownBlock]))) (by have := HX.out.2; simp; omega) (by first | omega | (simp; done) | (simp; omega)) ?_; intro v2 w4 ho2 he2 hb2; have hx2 : Ext No w3 w4 := (by first | exact Ext.app2 (hx1.alloc _) he2 ho1 | exact Ext.app2 hx1 he2 ho1 | exact Ext.app2 (hx1.alloc _).drew he2 ho1 | exact Ext.app2 hx1.drew he2 ho1); have j2 := hx2.cellv x1 id; have j3 := (hx2.frz _ lm id).trans fm; have jz := hx2.size; have jm := Nat.lt_of_lt_of_le lm jz; have jx := Nat.lt_of_lt_of_le lx jz; have j1 := hx2.cellv m2 id; obtain ⟨q2, cap2, hv2, -⟩ := own_read (f := oneC) (fun _ => rfl) ho2; simp only [List.length_append, List.length_cons, List.length_nil, Nat.zero_add] at hv2; subst hv2))
        | fail)
    all_goals
      have HZ : RowKit.Hid (AvEnd w N mm dir prev ⟨s.V ++ [a], s.E⟩ (.slice q2 (s.V.length + 1) cap2) es (w4.setCell ⟨mm, 2, none⟩ (.slice q2 (s.V.length + 1) cap2))) := Lib.hid (AvEnd.of HE.out HM2.out HM.out.2.1 (HM.out.1.lt' HM.out.2.1) hx2 ho2)
      generalize w4.setCell ⟨mm, 2, none⟩ (.slice q2 (s.V.length + 1) cap2) = W5 at HZ ⊢
      clear k2 k3 kz km kx j1 j2 j3 jz jm jx ho1 he1 hb1 hx1 ho2 he2 hb2 hx2 x1 lx m2 fm lm hX0
      obtain ⟨y0, y1, y2, y3, y4, y5, g0, g1, g2, g3, g4, g5⟩ := cells6 HZ.out.said
      obtain ⟨z0, z1, z2, z3, z4, z5, q0, q1, q2', q3, q4, q5⟩ := cells6 HZ.out.res
      have ly := World.block_lt_of_cell? _ _ y0
      have lz := World.block_lt_of_cell? _ _ z0
      go_wp2
      refine bodyPost_ret (v := saidV 0 0 0 0 nilS nilS) ?hr rfl ?hR
      case hR =>
        have h := HZ.out
        have e7 := (Ext.refl (fun c => c = w.heap.size + 1) W5).set6 (b := w.heap.size + 1) rfl (.int .u8 0) (.int .i64 0) (.int .i64 0) (.int .i64 0) nilS nilS
        exact ⟨⟨s.V ++ [a], s.E⟩, .err 0, _, es, nilS, nilS, rfl, by unfold DoAV; rw [if_neg ha]; exact ⟨rfl, rfl⟩, h.M.ext e7 (fun e => by have := HM.out.1.lt' HM.out.2.1; omega) (fun c hc e => row_ne h.res h.M.V (by decide) (by rw [hc, e])) (fun c hc e => row_ne h.res h.M.E (by decide) (by rw [hc, e])), nil_own, nil_own, h.he.then e7 (fun c hc e => by omega)⟩
      case hr => exact results_cell1 (fn := Tryz.f14) (g := w.heap.size + 1) (p := 4) (ty := 41) rfl rfl (set6 HZ.out.res (.int .u8 0) (.int .i64 0) (.int .i64 0) (.int .i64 0) nilS nilS) Tryz.underlying41 rfl sz41
end Go.Proofs.YtcenebjdhbdejaaGreatDoor
