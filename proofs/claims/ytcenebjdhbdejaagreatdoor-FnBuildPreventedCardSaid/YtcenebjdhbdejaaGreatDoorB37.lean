/- stepped: the step that lists the edges, walked. -/
import Derived.Test.YtcenebjdhbdejaaGreatDoorB36
import Derived.Test.YtcenebjdhbdejaaGreatDoorB20
namespace Go.Proofs.YtcenebjdhbdejaaGreatDoor
open Go.MapKept

/-- What stepped says of the edges. -/
def SaidEs (T : TypeId) (d : Addr) (dir : Bool) (R : List EdgeR → Prop) (w : World) (r : Ending) (w' : World) : Prop :=
  ∃ (es : Value) (l : List EdgeR) (el : List Tri), r = .returned (.tuple #[.iface T (.pointer (some d)), saidV 0 0 0 0 nilS es]) ∧ R l ∧ el.Perm (l.map fun e => normT dir e.tri) ∧ el.Pairwise (fun a b => ltE b a = false) ∧ w'.ownsRow w.heap.size 59 3 es el.length (el.flatMap triC) ∧ Ext No w w'

set_option maxRecDepth 100000 in
set_option maxHeartbeats 1000000 in
theorem stepped_es (G : GK) {w : World} {d : Addr} {a b wt : Int} {dir : Bool} {R : List EdgeR → Prop}
    (hC : ∀ w', Ext No w w' → Calls Tryz.prog 36 #[.iface G.T (.pointer (some d))] w' (EdgesOf dir R w')) :
    Calls Tryz.prog 24 #[.iface G.T (.pointer (some d)), stepV 8 a b wt] w (SaidEs G.T d dir R w) := by
  have HC := Lib.hid (hC _ (sw_ext w 8 a b wt))
  clear hC
  go_enter Tryz.func24, Tryz.ntmps24
  go_wp2_with (go_at_call 35; (refine (edgeWeight_run _ _).mono ?_); rintro r1 w1 ⟨rfl, rfl⟩)
  refine HC.out.mono ?_
  rintro r1 w2 ⟨v, l, el, rfl, hR, hp, hs, ho, he⟩
  obtain ⟨q, cap, rfl, -⟩ := own_read (f := triC) (fun _ => rfl) ho
  have r6 := he.obj (sw_said w 8 a b wt) id
  have r5 := he.obj (sw_res w 8 a b wt) id
  have hge := he.size
  rw [sw_size] at hge
  have HR := Lib.hid (And.intro he (And.intro r6 (And.intro r5 (And.intro hR (And.intro hp (And.intro hs (And.intro ho hge)))))))
  clear he r6 r5 hR hp hs ho hge
  obtain ⟨x0, x1, x2, x3, x4, x5, f0, f1, f2, f3, f4, f5⟩ := cells6 HR.out.2.1
  have l6 := World.block_lt_of_cell? _ _ x0
  go_upto_region 56 with (fail)
  have z6 := set_heap (o := 5) HR.out.2.1 (.slice q el.length cap)
  have eW : Ext (fun c => c = w.heap.size + 2) w2 (w2.setCell ⟨w.heap.size + 2, 5, none⟩ (.slice q el.length cap)) := (Ext.refl (fun c => c = w.heap.size + 2) w2).setCell ⟨w.heap.size + 2, 5, none⟩ (.slice q el.length cap) (fun _ => rfl)
  have z5 := eW.obj HR.out.2.2.1 (by omega)
  have zo := ownsRow_ext HR.out.2.2.2.2.2.2.1 eW (fun c hc e => by have := (HR.out.2.2.2.2.2.2.1.lt c hc).1; rw [sw_size] at this; omega)
  have HW := Lib.hid (And.intro (show _ = some (Obj.cells #[.int .u8 0, .int .i64 0, .int .i64 0, .int .i64 0, nilS, .slice q el.length cap] 39 (0, 0)) from z6) (And.intro z5 (And.intro eW zo)))
  clear x0 x1 x2 x3 x4 x5 f0 f1 f2 f3 f4 f5 l6 z6 z5 eW zo
  generalize (w2.setCell ⟨w.heap.size + 1 + 1, 5, none⟩ (.slice q el.length cap)) = W at HW ⊢
  obtain ⟨x0, x1, x2, x3, x4, x5, f0, f1, f2, f3, f4, f5⟩ := cells6 HW.out.1
  obtain ⟨y0, y1, y2, y3, y4, y5, g0, g1, g2, g3, g4, g5⟩ := cells6 HW.out.2.1
  have l6 := World.block_lt_of_cell? _ _ x0
  have l5 := World.block_lt_of_cell? _ _ y0
  go_region
  all_goals go_wp2
  refine bodyPost_ret (v := .tuple #[.iface G.T (.pointer (some d)), saidV 0 0 0 0 nilS (.slice q el.length cap)]) ?hr rfl ?hR
  case hR =>
    obtain ⟨he, r6, r5, hR, hp, hs, ho, hge⟩ := HR.out
    have e7 := ((Ext.refl (fun c => c = w.heap.size + 1) W).set6 (b := w.heap.size + 1) rfl (.int .u8 0) (.int .i64 0) (.int .i64 0) (.int .i64 0) nilS (.slice q el.length cap)).drew
    have e2 := (sw_ext w 8 a b wt).trans he
    refine ⟨_, l, el, rfl, hR, hp, hs, ?_, (e2.then HW.out.2.2.1 (fun c hc e => by omega)).then e7 (fun c hc e => by omega)⟩
    refine ownsRow_lower (ownsRow_ext HW.out.2.2.2 e7 (fun c hc e => ?_)) (sw_ext w 8 a b wt).size
    have := (HW.out.2.2.2.lt c hc).1
    rw [sw_size] at this
    omega
  case hr =>
    have hg := set6 HW.out.2.1 (.int .u8 0) (.int .i64 0) (.int .i64 0) (.int .i64 0) nilS (.slice q el.length cap)
    exact results_tmp_cell (fn := Tryz.f24) (g := w.heap.size + 1) (p := 5) (q := 4) (ty := 39) rfl rfl (at_drew hg) Tryz.underlying39 rfl sz39 rfl
end Go.Proofs.YtcenebjdhbdejaaGreatDoor
