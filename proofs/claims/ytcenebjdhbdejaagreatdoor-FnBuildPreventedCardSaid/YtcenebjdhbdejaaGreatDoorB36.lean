/- edgesOf, walked: a graph's edges, by their ends. -/
import Derived.Test.YtcenebjdhbdejaaGreatDoorB17
import Derived.Test.YtcenebjdhbdejaaGreatDoorB24
import Derived.Test.YtcenebjdhbdejaaGreatDoorB35
namespace Go.Proofs.YtcenebjdhbdejaaGreatDoor
open Go.MapKept

/-- A kind of graph: more of its methods. -/
structure GX where
  G : GK
  es : Meth G.T "Edges"
  tr : Meth G.T "Traits"
  vp : Meth G.T "VertexWithProperties"
def GXd : GX := ⟨GKd, ⟨108, M141_Edges, fun _ _ => by kernel_rfl⟩, ⟨114, M141_Traits, fun _ _ => by kernel_rfl⟩, ⟨117, M141_VertexWithProperties, fun _ _ => by kernel_rfl⟩⟩
def GXu : GX := ⟨GKu, ⟨133, M143_Edges, fun _ _ => by kernel_rfl⟩, ⟨139, M143_Traits, fun _ _ => by kernel_rfl⟩, ⟨142, M143_VertexWithProperties, fun _ _ => by kernel_rfl⟩⟩

/-- what Edges leaves -/
def SaysEdges (R : List EdgeR → Prop) (w : World) (r : Ending) (w' : World) : Prop :=
  ∃ (v : Value) (l : List EdgeR), r = .returned (.tuple #[v, .nilIface]) ∧ w'.ownsRow w.heap.size 97 5 v l.length (l.flatMap EdgeR.cells) ∧ l.length < 1000000 ∧ R l ∧ Ext No w w'
/-- what edgesOf leaves -/
def EdgesOf (dir : Bool) (R : List EdgeR → Prop) (w : World) (r : Ending) (w' : World) : Prop :=
  ∃ (v : Value) (l : List EdgeR) (el : List Tri), r = .returned (.tuple #[v, .bool true]) ∧ R l ∧ el.Perm (l.map fun e => normT dir e.tri) ∧ el.Pairwise (fun a b => ltE b a = false) ∧ w'.ownsRow w.heap.size 59 3 v el.length (el.flatMap triC) ∧ Ext No w w'

/-- a round of edgesOf -/
def ER (dir : Bool) (l : List EdgeR) (w1 : World) (k : Nat) (iv : Value) (wr : World) : Prop :=
  ∃ (i : Nat) (es : Value), iv = .int .i64 i ∧ i + k = l.length ∧ wr.heap[w1.heap.size]? = some (.cells #[es] 37 (0, 0)) ∧ wr.ownsRow w1.heap.size 59 3 es ((l.take i).map fun e => normT dir e.tri).length (((l.take i).map fun e => normT dir e.tri).flatMap triC) ∧ Ext No w1 wr

theorem ER.next {dir : Bool} {l : List EdgeR} {w1 wr W wa : World} {i : Nat} {es v' : Value} {T : List Tri} {t : Tri} (hl : l.length < 1000000) (hlt : i < l.length) (hT : (l.take i).map (fun e => normT dir e.tri) = T) (ht : normT dir (l[i]).tri = t)
    (hrow : wr.heap[w1.heap.size]? = some (.cells #[es] 37 (0, 0))) (ho : wr.ownsRow w1.heap.size 59 3 es T.length (T.flatMap triC)) (he : Ext No w1 wr) (hW : Ext No wr W) (hoa : wa.ownsRow w1.heap.size 59 3 v' (T ++ [t]).length ((T ++ [t]).flatMap triC)) (hea : Ext (fun c => some c = es.ownBlock) W wa) :
    ER dir l w1 (l.length - (i + 1)) (.int .i64 (RowKit.wrap64 ((i : Int) + 1))) (wa.setCell ⟨w1.heap.size, 0, none⟩ v') := by
  have hrW := hW.obj hrow id
  have hra := hea.obj hrW (fun e => row_ne hrW (ownsRow_ext ho hW (fun _ _ h => h)) (by decide) e.symm)
  have e5 : Ext (fun c => c = w1.heap.size) wa (wa.setCell ⟨w1.heap.size, 0, none⟩ v') := (Ext.refl _ wa).setCell _ _ (fun _ => rfl)
  have e1 : Ext No w1 wa := (he.trans hW).then hea (fun c hc e => by have := (ho.lt c e.symm).1; omega)
  refine ⟨i + 1, v', by rw [w64 (by omega)], by omega, set_heap hra v', ?_, e1.then e5 (fun c hc e => by omega)⟩
  have hTt : (l.take (i + 1)).map (fun e => normT dir e.tri) = T ++ [t] := by rw [List.take_add_one, List.getElem?_eq_getElem hlt, List.map_append, hT]; simp [ht]
  rw [hTt]
  exact ownsRow_ext hoa e5 (fun c hc e => row_ne hra hoa (by decide) (by rw [hc, e]))

theorem cell1 {w : World} {b : Nat} {v : Value} {T : TypeId} (h : w.heap[b]? = some (.cells #[v] T (0, 0))) : w.cell? ⟨b, 0, none⟩ = some v ∧ w.frozen? ⟨b, 0, none⟩ = false := by
  simp [World.cell?, World.frozen?, h]

set_option maxRecDepth 100000 in
set_option maxHeartbeats 4000000 in
theorem edgesOf_run (X : GX) {dir : Bool} {w : World} {d : Addr} {t : Nat} {R : List EdgeR → Prop} (ht : w.cell? ⟨t, 0, none⟩ = some (.bool dir))
    (hE : ∀ w', Ext No w w' → Calls Tryz.prog X.es.f #[.pointer (some d)] w' (SaysEdges R w'))
    (hT : ∀ w', Ext No w w' → Calls Tryz.prog X.tr.f #[.pointer (some d)] w' (fun r w'' => r = .returned (.pointer (some ⟨t, 0, none⟩)) ∧ w'' = w')) :
    Calls Tryz.prog 36 #[.iface X.G.T (.pointer (some d))] w (EdgesOf dir R w) := by
  have HT := Lib.hid (And.intro ht hT)
  have hc := hE w (Ext.refl _ _)
  clear hE ht hT
  have hM1 := X.es.m
  have hE1 := X.es.e
  have hM2 := X.tr.m
  have hE2 := X.tr.e
  go_enter Tryz.func36, Tryz.ntmps36
  go_wp2_with fail
  refine hc.mono ?_
  rintro r w1 ⟨v, l, rfl, ho, hl, hR, he⟩
  obtain ⟨q, cap, rfl, -⟩ := own_read (f := EdgeR.cells) (fun _ => rfl) ho
  have HS := Lib.hid (And.intro ho (And.intro hl (And.intro hR he)))
  clear hc ho hl hR he hM1 hE1
  go_wp2_with fail
  try go_frame
  go_loopg [20] l.length (fun k iv wr => ER dir l w1 k iv wr)
  case atStart => exact ⟨0, nilS, rfl, by simp, (heap_alloc w1 _).1, nil_own, (Ext.refl _ w1).alloc _⟩
  case round =>
    obtain ⟨i, es, rfl, hk, hrow, hes, he⟩ := hrel
    obtain ⟨q2, cap2, rfl, -⟩ := own_read (f := triC) (fun _ => rfl) hes
    by_cases hlt : i < l.length
    · obtain ⟨g, rfl, hg, hc⟩ := own_at (f := EdgeR.cells) (fun _ => rfl) (ownsRow_ext HS.out.1 he (fun _ _ h => h)) hlt
      have c0 : wr.cell? ⟨g, i * 5, none⟩ = some (kI (l[i]'hlt).src) := hc 0 (by decide)
      have c1 : wr.cell? ⟨g, i * 5 + 1, none⟩ = some (kI (l[i]'hlt).dst) := hc 1 (by decide)
      have c2 : wr.cell? ⟨g, i * 5 + 2, none⟩ = some (.map (some (l[i]'hlt).att)) := hc 2 (by decide)
      have c3 : wr.cell? ⟨g, i * 5 + 3, none⟩ = some (.int .i64 (l[i]'hlt).wt) := hc 3 (by decide)
      have c4 : wr.cell? ⟨g, i * 5 + 4, none⟩ = some .nilIface := hc 4 (by decide)
      have hlt' : (i : Int) < (l.length : Int) := by omega
      have hlen : ((l.take i).map fun e => normT dir e.tri).length < 1000000 := by have := HS.out.2.1; simp; omega
      have hT0 : ∃ T, (l.take i).map (fun e => normT dir e.tri) = T := ⟨_, rfl⟩
      obtain ⟨T, hT0⟩ := hT0
      rw [hT0] at hes hlen hrow
      have HK := Lib.hid (And.intro hk (And.intro hrow (And.intro hes (And.intro he (And.intro hlen hT0)))))
      clear hk hrow hes he hc hlen hT0
      generalize hx : l[i]'hlt = x at c0 c1 c2 c3 c4
      have HX := Lib.hid hx
      clear hx
      have hcs : (dir = true) ∨ (dir = false ∧ (x.dst < x.src)) ∨ (dir = false ∧ ¬ (x.dst < x.src)) := by
        cases dir <;> simp <;> omega
      go_wp2_with fail
      go_quiet (fail)
      have eD : Ext No wr ((wr.alloc (.cells x.cells.toArray 97)).drewN nq) := ((Ext.refl _ wr).alloc _).drewN nq
      have rD : ((wr.alloc (.cells x.cells.toArray 97)).drewN nq).heap[wr.heap.size]? = some (.cells x.cells.toArray 97 (0, 0)) := (heap_alloc wr _).1
      have HD := Lib.hid (And.intro eD rD)
      clear eD rD
      go_wp2_with fail
      refine (HT.out.2 _ ((HS.out.2.2.2.trans HK.out.2.2.2.1).trans HD.out.1)).mono ?_
      rintro r2 w2 ⟨rfl, h2⟩
      subst h2
      have ht := ((HS.out.2.2.2.trans HK.out.2.2.2.1).trans HD.out.1).cellv HT.out.1 id
      generalize (wr.alloc (.cells x.cells.toArray 97)).drewN nq = W at HD ht ⊢
      obtain ⟨b0, b1, b2, b3, b4, -⟩ := edge_cells HD.out.2 (Ext.refl _ _)
      have hrW := HD.out.1.obj HK.out.2.1 id
      have r0 : W.cell? ⟨w1.heap.size, 0, none⟩ = some (.slice q2 T.length cap2) := by rw [cell_of_row _ _ _ _ _ _ hrW]; rfl
      have lr := World.block_lt_of_cell? _ _ r0
      have lb := World.block_lt_of_cell? _ _ b0
      have ltt := World.block_lt_of_cell? _ _ ht
      have hoW := ownsRow_ext HK.out.2.2.1 HD.out.1 (fun _ _ h => h)
      have hsW : w1.heap.size ≤ W.heap.size := Nat.le_of_lt lr
      have HW := Lib.hid (And.intro hrW (And.intro hoW hsW))
      clear hrW hoW hsW c0 c1 c2 c3 c4 hg hM2 hE2
      rcases hcs with rfl | ⟨rfl, hgt⟩ | ⟨rfl, hgt⟩
      · go_wp2_with (at_builtin; (refine wpL_append1 rfl rfl U37 I59 rfl (by decide) (by decide) (f := triC) (fun _ => rfl) triC_one rfl (HW.out.2.1.alloc (.cells (triC (x.src, x.dst, x.wt)).toArray 59)) (x.src, x.dst, x.wt) rfl ⟨59, (0, 0), (heap_alloc _ _).1⟩ HK.out.2.2.2.2.1 (Nat.le_trans HW.out.2.2 ((Ext.refl No W).alloc _).size) ?_); intro v1 wa hoa hea hba; have hra := hea.obj (alloc_heap HW.out.1 (.cells (triC (x.src, x.dst, x.wt)).toArray 59)) (fun e => row_ne HW.out.1 HW.out.2.1 (by decide) e.symm); obtain ⟨ra0, fa0⟩ := cell1 hra; have lra := World.block_lt_of_cell? _ _ ra0; obtain ⟨q3, cap3, hv, -⟩ := own_read (f := triC) (fun _ => rfl) hoa; simp only [List.length_append, List.length_cons, List.length_nil, Nat.zero_add] at hv; subst hv; have HA := Lib.hid (And.intro hoa hea); clear hoa hea hba hra)
        go_roundg (l.length - (i + 1))
        case measure => have := HK.out.1; omega
        case rel => exact ER.next HS.out.2.1 hlt HK.out.2.2.2.2.2 (by rw [HX.out]; rfl) HK.out.2.1 HK.out.2.2.1 HK.out.2.2.2.1 (HD.out.1.alloc _) HA.out.1 HA.out.2
      · go_wp2_with (at_builtin; (refine wpL_append1 rfl rfl U37 I59 rfl (by decide) (by decide) (f := triC) (fun _ => rfl) triC_one rfl (HW.out.2.1.alloc (.cells (triC (x.dst, x.src, x.wt)).toArray 59)) (x.dst, x.src, x.wt) rfl ⟨59, (0, 0), (heap_alloc _ _).1⟩ HK.out.2.2.2.2.1 (Nat.le_trans HW.out.2.2 ((Ext.refl No W).alloc _).size) ?_); intro v1 wa hoa hea hba; have hra := hea.obj (alloc_heap HW.out.1 (.cells (triC (x.dst, x.src, x.wt)).toArray 59)) (fun e => row_ne HW.out.1 HW.out.2.1 (by decide) e.symm); obtain ⟨ra0, fa0⟩ := cell1 hra; have lra := World.block_lt_of_cell? _ _ ra0; obtain ⟨q3, cap3, hv, -⟩ := own_read (f := triC) (fun _ => rfl) hoa; simp only [List.length_append, List.length_cons, List.length_nil, Nat.zero_add] at hv; subst hv; have HA := Lib.hid (And.intro hoa hea); clear hoa hea hba hra)
        go_roundg (l.length - (i + 1))
        case measure => have := HK.out.1; omega
        case rel => exact ER.next HS.out.2.1 hlt HK.out.2.2.2.2.2 (by rw [HX.out]; simp [normT, hgt, revT]) HK.out.2.1 HK.out.2.2.1 HK.out.2.2.2.1 (HD.out.1.alloc _) HA.out.1 HA.out.2
      · go_wp2_with (at_builtin; (refine wpL_append1 rfl rfl U37 I59 rfl (by decide) (by decide) (f := triC) (fun _ => rfl) triC_one rfl (HW.out.2.1.alloc (.cells (triC (x.src, x.dst, x.wt)).toArray 59)) (x.src, x.dst, x.wt) rfl ⟨59, (0, 0), (heap_alloc _ _).1⟩ HK.out.2.2.2.2.1 (Nat.le_trans HW.out.2.2 ((Ext.refl No W).alloc _).size) ?_); intro v1 wa hoa hea hba; have hra := hea.obj (alloc_heap HW.out.1 (.cells (triC (x.src, x.dst, x.wt)).toArray 59)) (fun e => row_ne HW.out.1 HW.out.2.1 (by decide) e.symm); obtain ⟨ra0, fa0⟩ := cell1 hra; have lra := World.block_lt_of_cell? _ _ ra0; obtain ⟨q3, cap3, hv, -⟩ := own_read (f := triC) (fun _ => rfl) hoa; simp only [List.length_append, List.length_cons, List.length_nil, Nat.zero_add] at hv; subst hv; have HA := Lib.hid (And.intro hoa hea); clear hoa hea hba hra)
        go_roundg (l.length - (i + 1))
        case measure => have := HK.out.1; omega
        case rel => exact ER.next HS.out.2.1 hlt HK.out.2.2.2.2.2 (by rw [HX.out]; show (if x.dst < x.src then _ else _) = _; rw [if_neg (by omega)]) HK.out.2.1 HK.out.2.2.1 HK.out.2.2.2.1 (HD.out.1.alloc _) HA.out.1 HA.out.2
    · have hnlt : ¬ (i : Int) < (l.length : Int) := by omega
      have hi : i = l.length := by omega
      subst hi
      rw [List.take_length] at hes hrow
      have hlen : (l.map fun e => normT dir e.tri).length < 1000000 := by have := HS.out.2.1; simpa using this
      have hT0 : ∃ T, l.map (fun e => normT dir e.tri) = T := ⟨_, rfl⟩
      obtain ⟨T, hT0⟩ := hT0
      rw [hT0] at hes hlen hrow
      have r0 : wr.cell? ⟨w1.heap.size, 0, none⟩ = some (.slice q2 T.length cap2) := by rw [cell_of_row _ _ _ _ _ _ hrow]; rfl
      have lr := World.block_lt_of_cell? _ _ r0
      have HK := Lib.hid (And.intro hrow (And.intro hes (And.intro he (And.intro hlen hT0))))
      clear hk hrow hes he hlen hT0
      go_wp2_with fail
      refine (sortEs HK.out.1 HK.out.2.1 HK.out.2.2.2.1).mono ?_
      rintro r5 w5 ⟨rfl, el, hep, hsd, heo, hee⟩
      obtain ⟨q5, c5, hv5, -⟩ := own_read (f := triC) (fun _ => rfl) heo
      have hlel := hep.length_eq
      have hr5 := hee.obj HK.out.1 (fun e => row_ne HK.out.1 HK.out.2.1 (by decide) e.symm)
      have r0 : w5.cell? ⟨w1.heap.size, 0, none⟩ = some (.slice q2 T.length cap2) := by rw [cell_of_row _ _ _ _ _ _ hr5]; rfl
      have lr := World.block_lt_of_cell? _ _ r0
      have HF := Lib.hid (And.intro hep (And.intro hsd (And.intro heo hee)))
      clear hep hsd heo hee hr5
      rw [hlel] at hv5
      simp only [Value.slice.injEq, true_and] at hv5
      obtain ⟨rfl, rfl⟩ := hv5
      go_wp2
      go_ret2
      obtain ⟨hep, hsd, heo, hee⟩ := HF.out
      refine ⟨_, l, el, rfl, HS.out.2.2.1, by rw [HK.out.2.2.2.2]; exact hep, hsd, ownsRow_lower heo HS.out.2.2.2.size, (HS.out.2.2.2.trans HK.out.2.2.1).then hee (fun c hc e => ?_)⟩
      have := (HK.out.2.1.lt c e.symm).1
      have := HS.out.2.2.2.size
      omega
end Go.Proofs.YtcenebjdhbdejaaGreatDoor
