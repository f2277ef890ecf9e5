/- stepped: the step that counts, walked. -/
import Derived.Test.YtcenebjdhbdejaaGreatDoorS1
import Derived.Test.YtcenebjdhbdejaaGreatDoorD1
namespace Go.Proofs.YtcenebjdhbdejaaGreatDoor
open Go.MapKept

/-- what is said, the world but for what stepped itself makes as it was -/
def SaidNo (T : TypeId) (d : Addr) (er a b wt : Int) (w : World) (r : Ending) (w' : World) : Prop :=
  r = .returned (.tuple #[.iface T (.pointer (some d)), saidV er a b wt nilS nilS]) ∧ Ext No w w'

set_option maxRecDepth 100000 in
set_option maxHeartbeats 1000000 in
theorem stepped_ct (G : GK) {w : World} {d : Addr} {a b wt : Int} {n m : Int}
    (hO : ∀ w', Ext No w w' → Calls Tryz.prog G.od.f #[.pointer (some d)] w' (fun r w'' => r = .returned (.tuple #[.int .i64 n, .nilIface]) ∧ w' = w''))
    (hS : ∀ w', Ext No w w' → Calls Tryz.prog G.sz.f #[.pointer (some d)] w' (Sized m w')) :
    Calls Tryz.prog 24 #[.iface G.T (.pointer (some d)), stepV 7 a b wt] w (SaidNo G.T d 0 n m 0 w) := by
  have HO := Lib.hid (hO _ (sw_ext w 7 a b wt))
  have HS := Lib.hid (hS _ (sw_ext w 7 a b wt))
  clear hO hS
  have hM := G.od.m
  have hE := G.od.e
  have hM2 := G.sz.m
  have hE2 := G.sz.e
  go_enter Tryz.func24, Tryz.ntmps24
  go_wp2_with (go_at_call 35; (refine (edgeWeight_run _ _).mono ?_); rintro r1 w1 ⟨rfl, rfl⟩)
  refine HO.out.mono ?_
  rintro r1 w2 ⟨rfl, rfl⟩
  go_wp2_with fail
  refine HS.out.mono ?_
  rintro r1 w2 ⟨rfl, he⟩
  have r6 := he.obj (sw_said w 7 a b wt) id
  have r5 := he.obj (sw_res w 7 a b wt) id
  have HR := Lib.hid (And.intro he (And.intro r6 r5))
  clear he r6 r5 hM hE hM2 hE2
  obtain ⟨x0, x1, x2, x3, x4, x5, f0, f1, f2, f3, f4, f5⟩ := cells6 HR.out.2.1
  obtain ⟨y0, y1, y2, y3, y4, y5, g0, g1, g2, g3, g4, g5⟩ := cells6 HR.out.2.2
  have l6 := World.block_lt_of_cell? _ _ x0
  have l5 := World.block_lt_of_cell? _ _ y0
  go_wp2_with (go_at_call 29; (refine (errorOf_nil _).mono ?_); rintro r2 w3 ⟨rfl, rfl⟩)
  have z6 := set_heap (o := 2) (set_heap (o := 1) (set_heap (o := 0) HR.out.2.1 (.int .u8 0)) (.int .i64 n)) (.int .i64 m)
  have eW : Ext (fun c => c = w.heap.size + 2) w2 (((w2.setCell ⟨w.heap.size + 2, 0, none⟩ (.int .u8 0)).setCell ⟨w.heap.size + 2, 1, none⟩ (.int .i64 n)).setCell ⟨w.heap.size + 2, 2, none⟩ (.int .i64 m)) := (((Ext.refl (fun c => c = w.heap.size + 2) w2).setCell ⟨w.heap.size + 2, 0, none⟩ (.int .u8 0) (fun _ => rfl)).setCell ⟨w.heap.size + 2, 1, none⟩ (.int .i64 n) (fun _ => rfl)).setCell ⟨w.heap.size + 2, 2, none⟩ (.int .i64 m) (fun _ => rfl)
  have z5 := eW.obj HR.out.2.2 (by omega)
  have HW := Lib.hid (And.intro (show _ = some (Obj.cells #[.int .u8 0, .int .i64 n, .int .i64 m, .int .i64 0, nilS, nilS] 39 (0, 0)) from z6) (And.intro z5 eW))
  clear x0 x1 x2 x3 x4 x5 f0 f1 f2 f3 f4 f5 y0 y1 y2 y3 y4 y5 g0 g1 g2 g3 g4 g5 l6 l5 z6 z5 eW
  generalize (((w2.setCell ⟨w.heap.size + 1 + 1, 0, none⟩ (.int .u8 0)).setCell ⟨w.heap.size + 1 + 1, 1, none⟩ (.int .i64 n)).setCell ⟨w.heap.size + 1 + 1, 2, none⟩ (.int .i64 m)) = W at HW ⊢
  obtain ⟨x0, x1, x2, x3, x4, x5, f0, f1, f2, f3, f4, f5⟩ := cells6 HW.out.1
  obtain ⟨y0, y1, y2, y3, y4, y5, g0, g1, g2, g3, g4, g5⟩ := cells6 HW.out.2.1
  have l6 := World.block_lt_of_cell? _ _ x0
  have l5 := World.block_lt_of_cell? _ _ y0
  go_region
  all_goals go_wp2
  refine bodyPost_ret (v := .tuple #[.iface G.T (.pointer (some d)), saidV 0 n m 0 nilS nilS]) ?hr rfl ?hR
  case hR =>
    have e7 := ((Ext.refl (fun c => c = w.heap.size + 1) W).set6 (b := w.heap.size + 1) rfl (.int .u8 0) (.int .i64 n) (.int .i64 m) (.int .i64 0) nilS nilS).drew
    have e2 := (sw_ext w 7 a b wt).trans HR.out.1
    exact ⟨rfl, (e2.then HW.out.2.2 (fun c hc e => by omega)).then e7 (fun c hc e => by omega)⟩
  case hr =>
    have hg := set6 HW.out.2.1 (.int .u8 0) (.int .i64 n) (.int .i64 m) (.int .i64 0) nilS nilS
    exact results_tmp_cell (fn := Tryz.f24) (g := w.heap.size + 1) (p := 5) (q := 4) (ty := 39) rfl rfl (at_drew hg) Tryz.underlying39 rfl sz39 rfl
end Go.Proofs.YtcenebjdhbdejaaGreatDoor
