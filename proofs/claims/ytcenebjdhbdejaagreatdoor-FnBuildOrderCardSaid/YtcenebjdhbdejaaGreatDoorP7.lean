/- The graph as lists, in the program: Do, the two maps: walked. -/
import Derived.Test.YtcenebjdhbdejaaGreatDoorP5
import Derived.Deep.RegionHeld3
namespace Go.Proofs.YtcenebjdhbdejaaGreatDoor
open Go.MapKept

/-- what a graph as lists says of all its vertices and edges -/
def DoBM (dir back : Bool) (s : PS) (s' : PS) (sp : SP) : Prop :=
  s' = s ∧ sp.er = 0 ∧ sp.a = 0 ∧ sp.b = 0 ∧ sp.w = 0 ∧ sp.ks.Perm s.V ∧ sp.ks.Pairwise (fun a b => ltK b a = false) ∧ sp.es.Perm (s.E.flatMap (bothL dir back)) ∧ sp.es.Pairwise (fun a b => ltE b a = false)

/-- behind the two calls -/
structure BmEnd (w : World) (N mm : Nat) (dir prev : Bool) (s : PS) (vs es ks xs : Value) (kl : List Int) (el : List Tri) (W : World) : Prop where
  said : W.heap[w.heap.size + 2]? = some (.cells #[.int .u8 0, .int .i64 0, .int .i64 0, .int .i64 0, ks, xs] 41 (0, 0))
  res : W.heap[w.heap.size + 1]? = some said0s
  M : Mo W N mm dir prev s vs es
  K : W.ownsRow w.heap.size 2 1 ks kl.length (kl.flatMap oneC)
  E : W.ownsRow w.heap.size 48 3 xs el.length (el.flatMap triC)
  he : Ext No w W

theorem BmEnd.of {w w2 w3 w4 : World} {op a b wt : Int} {N mm : Nat} {dir prev : Bool} {s : PS} {vs es ks xs : Value} {kl : List Int} {el : List Tri} (h : DW w op a b wt w2) (hm : Mo w2 N mm dir prev s vs es) (hmm : mm < w.heap.size)
    (h3 : Ext No w2 w3) (hk : w3.ownsRow w2.heap.size 2 1 ks kl.length (kl.flatMap oneC)) (h4 : Ext No w3 w4) (he : w4.ownsRow w3.heap.size 48 3 xs el.length (el.flatMap triC)) :
    BmEnd w N mm dir prev s vs es ks xs kl el ((w4.setCell ⟨w.heap.size + 2, 4, none⟩ ks).setCell ⟨w.heap.size + 2, 5, none⟩ xs) := by
  have e24 := h3.trans h4
  have e5 : Ext (fun c => c = w.heap.size + 2) w4 ((w4.setCell ⟨w.heap.size + 2, 4, none⟩ ks).setCell ⟨w.heap.size + 2, 5, none⟩ xs) := ((Ext.refl (fun c => c = w.heap.size + 2) w4).setCell ⟨w.heap.size + 2, 4, none⟩ ks (fun _ => rfl)).setCell ⟨w.heap.size + 2, 5, none⟩ xs (fun _ => rfl)
  have hsaid := e24.obj h.said id
  have hs0 := h.he.size
  have hs1 := h3.size
  have hr : ∀ {B ee size n : Nat} {v : Value} {xs : List Value}, w4.ownsRow B ee size v n xs → ee ≠ 41 → ∀ c, v.ownBlock = some c → ¬ (c = w.heap.size + 2) := by
    intro B ee size n v xs ho hne c hc hh
    subst hh
    exact row_ne hsaid ho (Ne.symm hne) hc
  have hV := ownsRow_ext hm.V e24 (fun _ _ h => h)
  have hE := ownsRow_ext hm.E e24 (fun _ _ h => h)
  have hk4 := ownsRow_ext hk h4 (fun _ _ h => h)
  refine ⟨set_heap (set_heap hsaid ks) xs, e5.obj (e24.obj h.res id) (by omega), ⟨e5.obj (e24.obj hm.row id) (by omega), ownsRow_ext hV e5 (hr hV (by decide)), ownsRow_ext hE e5 (hr hE (by decide))⟩,
    ownsRow_low (ownsRow_ext hk4 e5 (hr hk4 (by decide))) hs0, ownsRow_low (ownsRow_ext he e5 (hr he (by decide))) (by omega), (h.he.trans e24).then e5 (fun c hc e => by omega)⟩

set_option maxRecDepth 100000 in
set_option maxHeartbeats 2000000 in
theorem do_am {w : World} {N mm : Nat} {dir prev : Bool} {s : PS} {vs es : Value} {a b wt : Int} (h : Mo w N mm dir prev s vs es) (hN : N ≤ w.heap.size) (hl : s.V.length + s.E.length < 300000) :
    Calls Tryz.prog 14 #[.pointer (some ⟨mm, 0, none⟩), stepV 9 a b wt] w (DoPost dir prev N mm (DoBM dir false s) w) := by
  have HM := Lib.hid (And.intro h (And.intro hN hl))
  clear h hN hl
  go_enter Tryz.func14, Tryz.ntmps14
  go_wp2_with fail
  have e0 : Ext No w (dw w 9 a b wt) := dw_ext w 9 a b wt
  refine (at_run (HM.out.1.no e0) (by have := HM.out.2.2; omega)).mono ?_
  rintro r1 w2 ⟨n, rfl, hat, he⟩
  have HE := Lib.hid (DW.of he (w := w) (op := 9) (a := a) (b := b) (wt := wt))
  have HM2 := Lib.hid (HM.out.1.no (e0.trans he))
  clear he e0 hat
  obtain ⟨x0, x1, x2, x3, -⟩ := cells4 HE.out.step
  obtain ⟨m0, m1, m2, m3, -⟩ := cells4 HM2.out.row
  obtain ⟨y0, y1, y2, y3, y4, y5, g0, g1, g2, g3, g4, g5⟩ := cells6 HE.out.said
  have lm := World.block_lt_of_cell? _ _ m0
  have lx := World.block_lt_of_cell? _ _ x0
  have ly := World.block_lt_of_cell? _ _ y0
  have hmm := HM.out.1.lt' HM.out.2.1
  have HMM := Lib.hid hmm
  have hne : ¬ w.heap.size + 1 + 1 = mm := by omega
  clear hmm
  go_wp2_with fail
  clear x1 x2 x3 m0 m1 m3 y0 y1 y2 y3
  go_region_held3 (fun u => u.cell? ⟨mm, 2, none⟩ = some vs ∧ u.cell? ⟨w.heap.size, 0, none⟩ = some (.int .u8 9)) (first | exact ⟨m2, x0⟩ | exact ⟨k2, kx⟩ | exact ⟨j2, jx⟩ | (constructor <;> ((repeat rw [World.cell?_setCell_far _ _ _ _ (by first | exact hne | (show ¬ w.heap.size + 1 + 1 = w.heap.size; omega))]); assumption)))
    (first
      | (go_at_call 28; (refine (risen_run ((RdS.of_own HM2.out.V).ext ((Ext.refl No w2).drew) (fun _ _ h => h)) (by have := HM.out.2.2; omega)).mono ?_); rintro r3 w3 ⟨v3, kl, rfl, hkp, hks, hko, hke⟩; obtain ⟨q3, c3, rfl, -⟩ := own_read (f := oneC) (fun _ => rfl) hko; have HK := Lib.hid (And.intro hkp (And.intro hks (And.intro hko hke))); have k2 := hke.cellv m2 id; have kx := hke.cellv x0 id; clear hkp hks hko hke)
      | (go_at_call 21; (refine (both_run (HM2.out.no (((Ext.refl No w2).drew).trans HK.out.2.2.2)) (by have := HM.out.2.2; omega)).mono ?_); rintro r4 w4 ⟨v4, el, rfl, hep, hes, heo, hee⟩; obtain ⟨q4, c4, rfl, -⟩ := own_read (f := triC) (fun _ => rfl) heo; have HL := Lib.hid (And.intro hep (And.intro hes (And.intro heo hee))); have j2 := hee.cellv k2 id; have jx := hee.cellv kx id; have jf4 := (hee.frz ⟨w.heap.size + 2, 4, none⟩ (Nat.lt_of_lt_of_le ly HK.out.2.2.2.size) id).trans ((HK.out.2.2.2.frz ⟨w.heap.size + 2, 4, none⟩ ly id).trans g4); have jf5 := (hee.frz ⟨w.heap.size + 2, 5, none⟩ (Nat.lt_of_lt_of_le ly HK.out.2.2.2.size) id).trans ((HK.out.2.2.2.frz ⟨w.heap.size + 2, 5, none⟩ ly id).trans g5); have j4 := hee.cellv (HK.out.2.2.2.cellv y4 id) id; have j5 := hee.cellv (HK.out.2.2.2.cellv y5 id) id; have jz := Nat.lt_of_lt_of_le (Nat.lt_of_lt_of_le ly HK.out.2.2.2.size) hee.size; clear hep hes heo hee))
  have HZ : RowKit.Hid (BmEnd w N mm dir prev s vs es (.slice q3 kl.length c3) (.slice q4 el.length c4) kl el ((w4.setCell ⟨w.heap.size + 2, 4, none⟩ (.slice q3 kl.length c3)).setCell ⟨w.heap.size + 2, 5, none⟩ (.slice q4 el.length c4))) := Lib.hid (BmEnd.of HE.out HM2.out HMM.out (((Ext.refl No w2).drew).trans HK.out.2.2.2) HK.out.2.2.1 HL.out.2.2.2 HL.out.2.2.1)
  generalize (w4.setCell ⟨w.heap.size + 2, 4, none⟩ (.slice q3 kl.length c3)).setCell ⟨w.heap.size + 2, 5, none⟩ (.slice q4 el.length c4) = W5 at HZ ⊢
  clear x0 m2 y4 y5 g0 g1 g2 g3 g4 g5 lm lx ly hne k2 kx j2 jx jf4 jf5 j4 j5 jz
  obtain ⟨y0, y1, y2, y3, y4, y5, g0, g1, g2, g3, g4, g5⟩ := cells6 HZ.out.said
  obtain ⟨z0, z1, z2, z3, z4, z5, p0, p1, p2, p3, p4, p5⟩ := cells6 HZ.out.res
  have ly := World.block_lt_of_cell? _ _ y0
  have lz := World.block_lt_of_cell? _ _ z0
  go_wp2
  refine bodyPost_ret (v := saidV 0 0 0 0 (.slice q3 kl.length c3) (.slice q4 el.length c4)) ?hr rfl ?hR
  case hR =>
    have h := HZ.out
    have e7 := (Ext.refl (fun c => c = w.heap.size + 1) W5).set6 (b := w.heap.size + 1) rfl (.int .u8 0) (.int .i64 0) (.int .i64 0) (.int .i64 0) (.slice q3 kl.length c3) (.slice q4 el.length c4)
    exact ⟨s, ⟨0, 0, 0, 0, kl, el⟩, vs, es, _, _, rfl, ⟨rfl, rfl, rfl, rfl, rfl, HK.out.1, HK.out.2.1, HL.out.1, HL.out.2.1⟩, h.M.ext e7 (fun e => by have := HMM.out; omega) (fun c hc e => row_ne h.res h.M.V (by decide) (by rw [hc, e])) (fun c hc e => row_ne h.res h.M.E (by decide) (by rw [hc, e])),
      ownsRow_ext h.K e7 (fun c hc e => row_ne h.res h.K (by decide) (by rw [hc, e])), ownsRow_ext h.E e7 (fun c hc e => row_ne h.res h.E (by decide) (by rw [hc, e])), (h.he.then e7 (fun c hc e => by omega)).no⟩
  case hr => exact results_cell1 (fn := Tryz.f14) (g := w.heap.size + 1) (p := 4) (ty := 41) rfl rfl (set6 HZ.out.res (.int .u8 0) (.int .i64 0) (.int .i64 0) (.int .i64 0) (.slice q3 kl.length c3) (.slice q4 el.length c4)) Tryz.underlying41 rfl sz41

set_option maxRecDepth 100000 in
set_option maxHeartbeats 2000000 in
theorem do_pm {w : World} {N mm : Nat} {dir prev : Bool} {s : PS} {vs es : Value} {a b wt : Int} (h : Mo w N mm dir prev s vs es) (hN : N ≤ w.heap.size) (hl : s.V.length + s.E.length < 300000) :
    Calls Tryz.prog 14 #[.pointer (some ⟨mm, 0, none⟩), stepV 10 a b wt] w (DoPost dir prev N mm (DoBM dir true s) w) := by
  have HM := Lib.hid (And.intro h (And.intro hN hl))
  clear h hN hl
  go_enter Tryz.func14, Tryz.ntmps14
  go_wp2_with fail
  have e0 : Ext No w (dw w 10 a b wt) := dw_ext w 10 a b wt
  refine (at_run (HM.out.1.no e0) (by have := HM.out.2.2; omega)).mono ?_
  rintro r1 w2 ⟨n, rfl, hat, he⟩
  have HE := Lib.hid (DW.of he (w := w) (op := 10) (a := a) (b := b) (wt := wt))
  have HM2 := Lib.hid (HM.out.1.no (e0.trans he))
  clear he e0 hat
  obtain ⟨x0, x1, x2, x3, -⟩ := cells4 HE.out.step
  obtain ⟨m0, m1, m2, m3, -⟩ := cells4 HM2.out.row
  obtain ⟨y0, y1, y2, y3, y4, y5, g0, g1, g2, g3, g4, g5⟩ := cells6 HE.out.said
  have lm := World.block_lt_of_cell? _ _ m0
  have lx := World.block_lt_of_cell? _ _ x0
  have ly := World.block_lt_of_cell? _ _ y0
  have hmm := HM.out.1.lt' HM.out.2.1
  have HMM := Lib.hid hmm
  have hne : ¬ w.heap.size + 1 + 1 = mm := by omega
  clear hmm
  go_wp2_with fail
  clear x1 x2 x3 m0 m1 m3 y0 y1 y2 y3
  go_region_held3 (fun u => u.cell? ⟨mm, 2, none⟩ = some vs ∧ u.cell? ⟨w.heap.size, 0, none⟩ = some (.int .u8 10)) (first | exact ⟨m2, x0⟩ | exact ⟨k2, kx⟩ | exact ⟨j2, jx⟩ | (constructor <;> ((repeat rw [World.cell?_setCell_far _ _ _ _ (by first | exact hne | (show ¬ w.heap.size + 1 + 1 = w.heap.size; omega))]); assumption)))
    (first
      | (go_at_call 28; (refine (risen_run ((RdS.of_own HM2.out.V).ext ((Ext.refl No w2).drew) (fun _ _ h => h)) (by have := HM.out.2.2; omega)).mono ?_); rintro r3 w3 ⟨v3, kl, rfl, hkp, hks, hko, hke⟩; obtain ⟨q3, c3, rfl, -⟩ := own_read (f := oneC) (fun _ => rfl) hko; have HK := Lib.hid (And.intro hkp (And.intro hks (And.intro hko hke))); have k2 := hke.cellv m2 id; have kx := hke.cellv x0 id; clear hkp hks hko hke)
      | (go_at_call 21; (refine (both_run (HM2.out.no (((Ext.refl No w2).drew).trans HK.out.2.2.2)) (by have := HM.out.2.2; omega)).mono ?_); rintro r4 w4 ⟨v4, el, rfl, hep, hes, heo, hee⟩; obtain ⟨q4, c4, rfl, -⟩ := own_read (f := triC) (fun _ => rfl) heo; have HL := Lib.hid (And.intro hep (And.intro hes (And.intro heo hee))); have j2 := hee.cellv k2 id; have jx := hee.cellv kx id; have jf4 := (hee.frz ⟨w.heap.size + 2, 4, none⟩ (Nat.lt_of_lt_of_le ly HK.out.2.2.2.size) id).trans ((HK.out.2.2.2.frz ⟨w.heap.size + 2, 4, none⟩ ly id).trans g4); have jf5 := (hee.frz ⟨w.heap.size + 2, 5, none⟩ (Nat.lt_of_lt_of_le ly HK.out.2.2.2.size) id).trans ((HK.out.2.2.2.frz ⟨w.heap.size + 2, 5, none⟩ ly id).trans g5); have j4 := hee.cellv (HK.out.2.2.2.cellv y4 id) id; have j5 := hee.cellv (HK.out.2.2.2.cellv y5 id) id; have jz := Nat.lt_of_lt_of_le (Nat.lt_of_lt_of_le ly HK.out.2.2.2.size) hee.size; clear hep hes heo hee))
  have HZ : RowKit.Hid (BmEnd w N mm dir prev s vs es (.slice q3 kl.length c3) (.slice q4 el.length c4) kl el ((w4.setCell ⟨w.heap.size + 2, 4, none⟩ (.slice q3 kl.length c3)).setCell ⟨w.heap.size + 2, 5, none⟩ (.slice q4 el.length c4))) := Lib.hid (BmEnd.of HE.out HM2.out HMM.out (((Ext.refl No w2).drew).trans HK.out.2.2.2) HK.out.2.2.1 HL.out.2.2.2 HL.out.2.2.1)
  generalize (w4.setCell ⟨w.heap.size + 2, 4, none⟩ (.slice q3 kl.length c3)).setCell ⟨w.heap.size + 2, 5, none⟩ (.slice q4 el.length c4) = W5 at HZ ⊢
  clear x0 m2 y4 y5 g0 g1 g2 g3 g4 g5 lm lx ly hne k2 kx j2 jx jf4 jf5 j4 j5 jz
  obtain ⟨y0, y1, y2, y3, y4, y5, g0, g1, g2, g3, g4, g5⟩ := cells6 HZ.out.said
  obtain ⟨z0, z1, z2, z3, z4, z5, p0, p1, p2, p3, p4, p5⟩ := cells6 HZ.out.res
  have ly := World.block_lt_of_cell? _ _ y0
  have lz := World.block_lt_of_cell? _ _ z0
  go_wp2
  refine bodyPost_ret (v := saidV 0 0 0 0 (.slice q3 kl.length c3) (.slice q4 el.length c4)) ?hr rfl ?hR
  case hR =>
    have h := HZ.out
    have e7 := (Ext.refl (fun c => c = w.heap.size + 1) W5).set6 (b := w.heap.size + 1) rfl (.int .u8 0) (.int .i64 0) (.int .i64 0) (.int .i64 0) (.slice q3 kl.length c3) (.slice q4 el.length c4)
    exact ⟨s, ⟨0, 0, 0, 0, kl, el⟩, vs, es, _, _, rfl, ⟨rfl, rfl, rfl, rfl, rfl, HK.out.1, HK.out.2.1, HL.out.1, HL.out.2.1⟩, h.M.ext e7 (fun e => by have := HMM.out; omega) (fun c hc e => row_ne h.res h.M.V (by decide) (by rw [hc, e])) (fun c hc e => row_ne h.res h.M.E (by decide) (by rw [hc, e])),
      ownsRow_ext h.K e7 (fun c hc e => row_ne h.res h.K (by decide) (by rw [hc, e])), ownsRow_ext h.E e7 (fun c hc e => row_ne h.res h.E (by decide) (by rw [hc, e])), (h.he.then e7 (fun c hc e => by omega)).no⟩
  case hr => exact results_cell1 (fn := Tryz.f14) (g := w.heap.size + 1) (p := 4) (ty := 41) rfl rfl (set6 HZ.out.res (.int .u8 0) (.int .i64 0) (.int .i64 0) (.int .i64 0) (.slice q3 kl.length c3) (.slice q4 el.length c4)) Tryz.underlying41 rfl sz41

end Go.Proofs.YtcenebjdhbdejaaGreatDoor
