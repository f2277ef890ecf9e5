/- stepped: the step that counts, walked. stepped: the steps that read a vertex or an edge, walked. stepped: the step that reads an edge, walked. stepped: the step that clones, walked. -/
import Derived.Test.YtcenebjdhbdejaaGreatDoorB06
import Derived.Test.YtcenebjdhbdejaaGreatDoorB09
namespace Go.Proofs.YtcenebjdhbdejaaGreatDoor
open Go.MapKept

/-- what is said, the world but for what stepped itself makes as it was -/
def SaidNo (T : TypeId) (d : Addr) (er a b wt : Int) (w : World) (r : Ending) (w' : World) : Prop :=
  r = .returned (.tuple #[.iface T (.pointer (some d)), saidV er a b wt nilS nilS]) ∧ Ext No w w'

set_option maxRecDepth 100000 in
set_option maxHeartbeats 1000000 in
theorem stepped_ct (G : GK) {w : World} {d : Addr} {a b wt : Int} {n m : Int}
    (hO : ∀ w', Ext No w w' → Calls Tryz.prog G.od.f #[.pointer (some d)] w' (fun r w'' => r = .returned (.tuple #[.int .i64 n, .nilIface]) ∧ w' = w''))
    (hS : ∀ w', Ext No w w' → Calls Tryz.prog G.sz.f #[.pointer (some d)] w' (Sized m w')) :
    Calls Tryz.prog 24 #[.iface G.T (.pointer (some d)), stepV 7 a b wt] w (SaidNo G.T d 0 n m 0 w) := by
  have HO := Lib.hid (hO _ (sw_ext w 7 a b wt))
  have HS := Lib.hid (hS _ (sw_ext w 7 a b wt))
  clear hO hS
  have hM := G.od.m
  have hE := G.od.e
  have hM2 := G.sz.m
  have hE2 := G.sz.e
  go_enter Tryz.func24, Tryz.ntmps24
  go_wp2_with (go_at_call 35; (refine (edgeWeight_run _ _).mono ?_); rintro r1 w1 ⟨rfl, rfl⟩)
  refine HO.out.mono ?_
  rintro r1 w2 ⟨rfl, rfl⟩
  go_wp2_with fail
  refine HS.out.mono ?_
  rintro r1 w2 ⟨rfl, he⟩
  have r6 := he.obj (sw_said w 7 a b wt) id
  have r5 := he.obj (sw_res w 7 a b wt) id
  have HR := Lib.hid (And.intro he (And.intro r6 r5))
  clear he r6 r5 hM hE hM2 hE2
  obtain ⟨x0, x1, x2, x3, x4, x5, f0, f1, f2, f3, f4, f5⟩ := cells6 HR.out.2.1
  obtain ⟨y0, y1, y2, y3, y4, y5, g0, g1, g2, g3, g4, g5⟩ := cells6 HR.out.2.2
  have l6 := World.block_lt_of_cell? _ _ x0
  have l5 := World.block_lt_of_cell? _ _ y0
  go_wp2_with (go_at_call 29; (refine (errorOf_nil _).mono ?_); rintro r2 w3 ⟨rfl, rfl⟩)
  have z6 := set_heap (o := 2) (set_heap (o := 1) (set_heap (o := 0) HR.out.2.1 (.int .u8 0)) (.int .i64 n)) (.int .i64 m)
  have eW : Ext (fun c => c = w.heap.size + 2) w2 (((w2.setCell ⟨w.heap.size + 2, 0, none⟩ (.int .u8 0)).setCell ⟨w.heap.size + 2, 1, none⟩ (.int .i64 n)).setCell ⟨w.heap.size + 2, 2, none⟩ (.int .i64 m)) := (((Ext.refl (fun c => c = w.heap.size + 2) w2).setCell ⟨w.heap.size + 2, 0, none⟩ (.int .u8 0) (fun _ => rfl)).setCell ⟨w.heap.size + 2, 1, none⟩ (.int .i64 n) (fun _ => rfl)).setCell ⟨w.heap.size + 2, 2, none⟩ (.int .i64 m) (fun _ => rfl)
  have z5 := eW.obj HR.out.2.2 (by omega)
  have HW := Lib.hid (And.intro (show _ = some (Obj.cells #[.int .u8 0, .int .i64 n, .int .i64 m, .int .i64 0, nilS, nilS] 39 (0, 0)) from z6) (And.intro z5 eW))
  clear x0 x1 x2 x3 x4 x5 f0 f1 f2 f3 f4 f5 y0 y1 y2 y3 y4 y5 g0 g1 g2 g3 g4 g5 l6 l5 z6 z5 eW
  generalize (((w2.setCell ⟨w.heap.size + 1 + 1, 0, none⟩ (.int .u8 0)).setCell ⟨w.heap.size + 1 + 1, 1, none⟩ (.int .i64 n)).setCell ⟨w.heap.size + 1 + 1, 2, none⟩ (.int .i64 m)) = W at HW ⊢
  obtain ⟨x0, x1, x2, x3, x4, x5, f0, f1, f2, f3, f4, f5⟩ := cells6 HW.out.1
  obtain ⟨y0, y1, y2, y3, y4, y5, g0, g1, g2, g3, g4, g5⟩ := cells6 HW.out.2.1
  have l6 := World.block_lt_of_cell? _ _ x0
  have l5 := World.block_lt_of_cell? _ _ y0
  go_region
  all_goals go_wp2
  refine bodyPost_ret (v := .tuple #[.iface G.T (.pointer (some d)), saidV 0 n m 0 nilS nilS]) ?hr rfl ?hR
  case hR =>
    have e7 := ((Ext.refl (fun c => c = w.heap.size + 1) W).set6 (b := w.heap.size + 1) rfl (.int .u8 0) (.int .i64 n) (.int .i64 m) (.int .i64 0) nilS nilS).drew
    have e2 := (sw_ext w 7 a b wt).trans HR.out.1
    exact ⟨rfl, (e2.then HW.out.2.2 (fun c hc e => by omega)).then e7 (fun c hc e => by omega)⟩
  case hr =>
    have hg := set6 HW.out.2.1 (.int .u8 0) (.int .i64 n) (.int .i64 m) (.int .i64 0) nilS nilS
    exact results_tmp_cell (fn := Tryz.f24) (g := w.heap.size + 1) (p := 5) (q := 4) (ty := 39) rfl rfl (at_drew hg) Tryz.underlying39 rfl sz39 rfl
end Go.Proofs.YtcenebjdhbdejaaGreatDoor

namespace Go.Proofs.YtcenebjdhbdejaaGreatDoor
open Go.MapKept

set_option maxRecDepth 100000 in
set_option maxHeartbeats 1000000 in
theorem stepped_vx_yes (G : GK) {w : World} {d : Addr} {a b wt : Int}
    (hC : ∀ w', Ext No w w' → Calls Tryz.prog G.vx.f #[.pointer (some d), kI a] w' (fun r w'' => r = .returned (.tuple #[kI a, .nilIface]) ∧ Ext No w' w'')) :
    Calls Tryz.prog 24 #[.iface G.T (.pointer (some d)), stepV 5 a b wt] w (SaidNo G.T d 0 a 0 0 w) := by
  have HC := Lib.hid (hC _ (sw_ext w 5 a b wt))
  clear hC
  have hM := G.vx.m
  have hE := G.vx.e
  go_enter Tryz.func24, Tryz.ntmps24
  go_wp2_with (go_at_call 35; (refine (edgeWeight_run _ _).mono ?_); rintro r1 w1 ⟨rfl, rfl⟩)
  refine HC.out.mono ?_
  rintro r1 w2 ⟨rfl, he⟩
  have r6 := he.obj (sw_said w 5 a b wt) id
  have r5 := he.obj (sw_res w 5 a b wt) id
  have HR := Lib.hid (And.intro he (And.intro r6 r5))
  clear he r6 r5 hM hE
  obtain ⟨x0, x1, x2, x3, x4, x5, f0, f1, f2, f3, f4, f5⟩ := cells6 HR.out.2.1
  obtain ⟨y0, y1, y2, y3, y4, y5, g0, g1, g2, g3, g4, g5⟩ := cells6 HR.out.2.2
  have l6 := World.block_lt_of_cell? _ _ x0
  have l5 := World.block_lt_of_cell? _ _ y0
  go_wp2_with (go_at_call 29; (refine (errorOf_nil _).mono ?_); rintro r2 w3 ⟨rfl, rfl⟩)
  have z6 := set_heap (o := 1) (set_heap (o := 0) HR.out.2.1 (.int .u8 0)) (kI a)
  have eW : Ext (fun c => c = w.heap.size + 2) w2 ((w2.setCell ⟨w.heap.size + 2, 0, none⟩ (.int .u8 0)).setCell ⟨w.heap.size + 2, 1, none⟩ (kI a)) := ((Ext.refl (fun c => c = w.heap.size + 2) w2).setCell ⟨w.heap.size + 2, 0, none⟩ (.int .u8 0) (fun _ => rfl)).setCell ⟨w.heap.size + 2, 1, none⟩ (kI a) (fun _ => rfl)
  have z5 := eW.obj HR.out.2.2 (by omega)
  have HW := Lib.hid (And.intro (show _ = some (Obj.cells #[.int .u8 0, kI a, .int .i64 0, .int .i64 0, nilS, nilS] 39 (0, 0)) from z6) (And.intro z5 eW))
  clear x0 x1 x2 x3 x4 x5 f0 f1 f2 f3 f4 f5 y0 y1 y2 y3 y4 y5 g0 g1 g2 g3 g4 g5 l6 l5 z6 z5 eW
  generalize ((w2.setCell ⟨w.heap.size + 1 + 1, 0, none⟩ (.int .u8 0)).setCell ⟨w.heap.size + 1 + 1, 1, none⟩ (kI a)) = W at HW ⊢
  obtain ⟨x0, x1, x2, x3, x4, x5, f0, f1, f2, f3, f4, f5⟩ := cells6 HW.out.1
  obtain ⟨y0, y1, y2, y3, y4, y5, g0, g1, g2, g3, g4, g5⟩ := cells6 HW.out.2.1
  have l6 := World.block_lt_of_cell? _ _ x0
  have l5 := World.block_lt_of_cell? _ _ y0
  go_region
  all_goals go_wp2
  refine bodyPost_ret (v := .tuple #[.iface G.T (.pointer (some d)), saidV 0 a 0 0 nilS nilS]) ?hr rfl ?hR
  case hR =>
    have e7 := ((Ext.refl (fun c => c = w.heap.size + 1) W).set6 (b := w.heap.size + 1) rfl (.int .u8 0) (kI a) (.int .i64 0) (.int .i64 0) nilS nilS).drew
    have e2 := (sw_ext w 5 a b wt).trans HR.out.1
    exact ⟨rfl, (e2.then HW.out.2.2 (fun c hc e => by omega)).then e7 (fun c hc e => by omega)⟩
  case hr =>
    have hg := set6 HW.out.2.1 (.int .u8 0) (kI a) (.int .i64 0) (.int .i64 0) nilS nilS
    exact results_tmp_cell (fn := Tryz.f24) (g := w.heap.size + 1) (p := 5) (q := 4) (ty := 39) rfl rfl (at_drew hg) Tryz.underlying39 rfl sz39 rfl

/-- stepped behind a read that failed: the error's number alone -/
def SaidEr (T : TypeId) (d : Addr) (n : Int) (w : World) (r : Ending) (w' : World) : Prop :=
  r = .returned (.tuple #[.iface T (.pointer (some d)), saidV n 0 0 0 nilS nilS]) ∧ Ext No w w'

set_option maxRecDepth 100000 in
set_option maxHeartbeats 1000000 in
theorem stepped_vx_no (G : GK) {w : World} {d : Addr} {a b wt : Int} {p : Nat → Addr} {B : Nat} (hB : Below6 B p) (hp : Sent w p)
    (hC : ∀ w', Ext No w w' → Calls Tryz.prog G.vx.f #[.pointer (some d), kI a] w' (fun r w'' => r = .returned (.tuple #[kI 0, errv p 1]) ∧ Ext No w' w'')) :
    Calls Tryz.prog 24 #[.iface G.T (.pointer (some d)), stepV 5 a b wt] w (SaidEr G.T d 2 w) := by
  have HC := Lib.hid (hC _ (sw_ext w 5 a b wt))
  have HP := Lib.hid (And.intro hB hp)
  clear hC hB hp
  have hM := G.vx.m
  have hE := G.vx.e
  go_enter Tryz.func24, Tryz.ntmps24
  go_wp2_with (go_at_call 35; (refine (edgeWeight_run _ _).mono ?_); rintro r1 w1 ⟨rfl, rfl⟩)
  refine HC.out.mono ?_
  rintro r1 w2 ⟨rfl, he⟩
  have r6 := he.obj (sw_said w 5 a b wt) id
  have r5 := he.obj (sw_res w 5 a b wt) id
  have HR := Lib.hid (And.intro he (And.intro r6 r5))
  clear he r6 r5 hM hE
  go_wp2_with fail
  refine (errorOf_any (HP.out.2.ext HP.out.1 ((sw_ext w 5 a b wt).trans HR.out.1) (fun _ h => h.elim)) HP.out.1 (some (.sent 1)) (by intro x hx; cases hx; decide)).mono ?_
  rintro r2 w3 ⟨rfl, h3⟩
  have r6 := h3.obj HR.out.2.1 id
  have r5 := h3.obj HR.out.2.2 id
  obtain ⟨x0, x1, x2, x3, x4, x5, f0, f1, f2, f3, f4, f5⟩ := cells6 r6
  obtain ⟨y0, y1, y2, y3, y4, y5, g0, g1, g2, g3, g4, g5⟩ := cells6 r5
  have l6 := World.block_lt_of_cell? _ _ x0
  have l5 := World.block_lt_of_cell? _ _ y0
  have HR3 := Lib.hid (And.intro h3 (And.intro r6 r5))
  clear h3 r6 r5
  go_wp2_with fail
  have z6 := set_heap (o := 0) HR3.out.2.1 (.int .u8 2)
  have eW : Ext (fun c => c = w.heap.size + 2) w3 (w3.setCell ⟨w.heap.size + 2, 0, none⟩ (.int .u8 2)) := (Ext.refl (fun c => c = w.heap.size + 2) w3).setCell ⟨w.heap.size + 2, 0, none⟩ (.int .u8 2) (fun _ => rfl)
  have z5 := eW.obj HR3.out.2.2 (by omega)
  have HW := Lib.hid (And.intro (show _ = some (Obj.cells #[.int .u8 2, .int .i64 0, .int .i64 0, .int .i64 0, nilS, nilS] 39 (0, 0)) from z6) (And.intro z5 eW))
  clear x0 x1 x2 x3 x4 x5 f0 f1 f2 f3 f4 f5 y0 y1 y2 y3 y4 y5 g0 g1 g2 g3 g4 g5 l6 l5 z6 z5 eW
  rw [show numOf (some (Er.sent 1)) = 2 from rfl]
  generalize (w3.setCell ⟨w.heap.size + 1 + 1, 0, none⟩ (.int .u8 2)) = W at HW ⊢
  obtain ⟨x0, x1, x2, x3, x4, x5, f0, f1, f2, f3, f4, f5⟩ := cells6 HW.out.1
  obtain ⟨y0, y1, y2, y3, y4, y5, g0, g1, g2, g3, g4, g5⟩ := cells6 HW.out.2.1
  have l6 := World.block_lt_of_cell? _ _ x0
  have l5 := World.block_lt_of_cell? _ _ y0
  go_region
  all_goals go_wp2
  refine bodyPost_ret (v := .tuple #[.iface G.T (.pointer (some d)), saidV 2 0 0 0 nilS nilS]) ?hr rfl ?hR
  case hR =>
    have e7 := ((Ext.refl (fun c => c = w.heap.size + 1) W).set6 (b := w.heap.size + 1) rfl (.int .u8 2) (.int .i64 0) (.int .i64 0) (.int .i64 0) nilS nilS).drew
    have e2 := ((sw_ext w 5 a b wt).trans HR.out.1).trans HR3.out.1
    exact ⟨rfl, (e2.then HW.out.2.2 (fun c hc e => by omega)).then e7 (fun c hc e => by omega)⟩
  case hr =>
    have hg := set6 HW.out.2.1 (.int .u8 2) (.int .i64 0) (.int .i64 0) (.int .i64 0) nilS nilS
    exact results_tmp_cell (fn := Tryz.f24) (g := w.heap.size + 1) (p := 5) (q := 4) (ty := 39) rfl rfl (at_drew hg) Tryz.underlying39 rfl sz39 rfl
end Go.Proofs.YtcenebjdhbdejaaGreatDoor

namespace Go.Proofs.YtcenebjdhbdejaaGreatDoor
open Go.MapKept

set_option maxRecDepth 100000 in
set_option maxHeartbeats 1000000 in
theorem stepped_ed_no (G : GK) {w : World} {d : Addr} {a b wt : Int} {p : Nat → Addr} {B : Nat} (hB : Below6 B p) (hp : Sent w p)
    (hC : ∀ w', Ext No w w' → Calls Tryz.prog G.ed.f #[.pointer (some d), kI a, kI b] w' (fun r w'' => r = .returned (.tuple #[zero97, errv p 4]) ∧ Ext No w' w'')) :
    Calls Tryz.prog 24 #[.iface G.T (.pointer (some d)), stepV 6 a b wt] w (SaidEr G.T d 5 w) := by
  have HC := Lib.hid (hC _ (sw_ext w 6 a b wt))
  have HP := Lib.hid (And.intro hB hp)
  clear hC hB hp
  have hM := G.ed.m
  have hE := G.ed.e
  go_enter Tryz.func24, Tryz.ntmps24
  go_wp2_with (go_at_call 35; (refine (edgeWeight_run _ _).mono ?_); rintro r1 w1 ⟨rfl, rfl⟩)
  refine HC.out.mono ?_
  rintro r1 w2 ⟨rfl, he⟩
  have he := he.alloc (.cells #[.int .i64 0, .int .i64 0, .map none, .int .i64 0, .nilIface] 97)
  have r6 := he.obj (sw_said w 6 a b wt) id
  have r5 := he.obj (sw_res w 6 a b wt) id
  have HR := Lib.hid (And.intro he (And.intro r6 r5))
  clear he r6 r5 hM hE
  go_wp2_with fail
  generalize w2.alloc (.cells #[.int .i64 0, .int .i64 0, .map none, .int .i64 0, .nilIface] 97) = w2 at HR ⊢
  refine (errorOf_any (HP.out.2.ext HP.out.1 ((sw_ext w 6 a b wt).trans HR.out.1) (fun _ h => h.elim)) HP.out.1 (some (.sent 4)) (by intro x hx; cases hx; decide)).mono ?_
  rintro r2 w3 ⟨rfl, h3⟩
  have r6 := h3.obj HR.out.2.1 id
  have r5 := h3.obj HR.out.2.2 id
  obtain ⟨x0, x1, x2, x3, x4, x5, f0, f1, f2, f3, f4, f5⟩ := cells6 r6
  obtain ⟨y0, y1, y2, y3, y4, y5, g0, g1, g2, g3, g4, g5⟩ := cells6 r5
  have l6 := World.block_lt_of_cell? _ _ x0
  have l5 := World.block_lt_of_cell? _ _ y0
  have HR3 := Lib.hid (And.intro h3 (And.intro r6 r5))
  clear h3 r6 r5
  go_wp2_with fail
  have z6 := set_heap (o := 0) HR3.out.2.1 (.int .u8 5)
  have eW : Ext (fun c => c = w.heap.size + 2) w3 (w3.setCell ⟨w.heap.size + 2, 0, none⟩ (.int .u8 5)) := (Ext.refl (fun c => c = w.heap.size + 2) w3).setCell ⟨w.heap.size + 2, 0, none⟩ (.int .u8 5) (fun _ => rfl)
  have z5 := eW.obj HR3.out.2.2 (by omega)
  have HW := Lib.hid (And.intro (show _ = some (Obj.cells #[.int .u8 5, .int .i64 0, .int .i64 0, .int .i64 0, nilS, nilS] 39 (0, 0)) from z6) (And.intro z5 eW))
  clear x0 x1 x2 x3 x4 x5 f0 f1 f2 f3 f4 f5 y0 y1 y2 y3 y4 y5 g0 g1 g2 g3 g4 g5 l6 l5 z6 z5 eW
  rw [show numOf (some (Er.sent 4)) = 5 from rfl]
  generalize (w3.setCell ⟨w.heap.size + 1 + 1, 0, none⟩ (.int .u8 5)) = W at HW ⊢
  obtain ⟨x0, x1, x2, x3, x4, x5, f0, f1, f2, f3, f4, f5⟩ := cells6 HW.out.1
  obtain ⟨y0, y1, y2, y3, y4, y5, g0, g1, g2, g3, g4, g5⟩ := cells6 HW.out.2.1
  have l6 := World.block_lt_of_cell? _ _ x0
  have l5 := World.block_lt_of_cell? _ _ y0
  go_region
  all_goals go_wp2
  refine bodyPost_ret (v := .tuple #[.iface G.T (.pointer (some d)), saidV 5 0 0 0 nilS nilS]) ?hr rfl ?hR
  case hR =>
    have e7 := ((Ext.refl (fun c => c = w.heap.size + 1) W).set6 (b := w.heap.size + 1) rfl (.int .u8 5) (.int .i64 0) (.int .i64 0) (.int .i64 0) nilS nilS).drew
    have e2 := ((sw_ext w 6 a b wt).trans HR.out.1).trans HR3.out.1
    exact ⟨rfl, (e2.then HW.out.2.2 (fun c hc e => by omega)).then e7 (fun c hc e => by omega)⟩
  case hr =>
    have hg := set6 HW.out.2.1 (.int .u8 5) (.int .i64 0) (.int .i64 0) (.int .i64 0) nilS nilS
    exact results_tmp_cell (fn := Tryz.f24) (g := w.heap.size + 1) (p := 5) (q := 4) (ty := 39) rfl rfl (at_drew hg) Tryz.underlying39 rfl sz39 rfl

set_option maxRecDepth 100000 in
set_option maxHeartbeats 1000000 in
theorem stepped_ed_yes (G : GK) {w : World} {d : Addr} {a b wt : Int} {e : EdgeR}
    (hC : ∀ w', Ext No w w' → Calls Tryz.prog G.ed.f #[.pointer (some d), kI a, kI b] w' (fun r w'' => r = .returned (.tuple #[e.val, .nilIface]) ∧ Ext No w' w'')) :
    Calls Tryz.prog 24 #[.iface G.T (.pointer (some d)), stepV 6 a b wt] w (SaidNo G.T d 0 e.src e.dst e.wt w) := by
  have HC := Lib.hid (hC _ (sw_ext w 6 a b wt))
  clear hC
  have hM := G.ed.m
  have hE := G.ed.e
  go_enter Tryz.func24, Tryz.ntmps24
  go_wp2_with (go_at_call 35; (refine (edgeWeight_run _ _).mono ?_); rintro r1 w1 ⟨rfl, rfl⟩)
  refine HC.out.mono ?_
  rintro r1 w2 ⟨rfl, he⟩
  have hn7 : ∃ n, n = w2.heap.size := ⟨_, rfl⟩
  have r7 := (heap_alloc w2 (.cells #[kI e.src, kI e.dst, .map (some e.att), .int .i64 e.wt, .nilIface] 97)).1
  have hge := he.size
  rw [sw_size] at hge
  have he := he.alloc (.cells #[kI e.src, kI e.dst, .map (some e.att), .int .i64 e.wt, .nilIface] 97)
  have r6 := he.obj (sw_said w 6 a b wt) id
  have r5 := he.obj (sw_res w 6 a b wt) id
  have HR := Lib.hid (And.intro he (And.intro r6 (And.intro r5 (And.intro r7 hge))))
  clear he r6 r5 r7 hge hM hE hn7
  go_wp2_with fail
  generalize w2.alloc (.cells #[kI e.src, kI e.dst, .map (some e.att), .int .i64 e.wt, .nilIface] 97) = W2 at HR ⊢
  refine (errorOf_nil _).mono ?_
  rintro r2 w3 ⟨rfl, hw3⟩
  subst hw3
  obtain ⟨x0, x1, x2, x3, x4, x5, f0, f1, f2, f3, f4, f5⟩ := cells6 HR.out.2.1
  have l6 := World.block_lt_of_cell? _ _ x0
  go_upto_region 23 with (fail)
  have z6 := set_heap (o := 0) HR.out.2.1 (.int .u8 0)
  have eW : Ext (fun c => c = w.heap.size + 2) W2 (W2.setCell ⟨w.heap.size + 2, 0, none⟩ (.int .u8 0)) := (Ext.refl (fun c => c = w.heap.size + 2) W2).setCell ⟨w.heap.size + 2, 0, none⟩ (.int .u8 0) (fun _ => rfl)
  have z5 := eW.obj HR.out.2.2.1 (by omega)
  have z7 := eW.obj HR.out.2.2.2.1 (by have := HR.out.2.2.2.2; omega)
  have HW := Lib.hid (And.intro (show _ = some said0 from z6) (And.intro z5 (And.intro z7 eW)))
  clear x0 x1 x2 x3 x4 x5 f0 f1 f2 f3 f4 f5 l6 z6 z5 z7 eW
  generalize (W2.setCell ⟨w.heap.size + 1 + 1, 0, none⟩ (.int .u8 0)) = W at HW ⊢
  obtain ⟨x0, x1, x2, x3, x4, x5, f0, f1, f2, f3, f4, f5⟩ := cells6 HW.out.1
  obtain ⟨b0, b1, b2, b3, b4, -⟩ := edge_cells HW.out.2.2.1 (Ext.refl _ _)
  have l6 := World.block_lt_of_cell? _ _ x0
  have l7 := World.block_lt_of_cell? _ _ b0
  have hne : ¬ w.heap.size + 1 + 1 = w2.heap.size := by have := HR.out.2.2.2.2; omega
  have hne' : ¬ w2.heap.size = w.heap.size + 1 + 1 := by have := HR.out.2.2.2.2; omega
  clear x4 x5 f4 f5 b2 b4 x0 f0
  go_region
  have z6 := set_heap (o := 3) (set_heap (o := 2) (set_heap (o := 1) HW.out.1 (kI e.src)) (kI e.dst)) (.int .i64 e.wt)
  have eV : Ext (fun c => c = w.heap.size + 2) W (((W.setCell ⟨w.heap.size + 2, 1, none⟩ (kI e.src)).setCell ⟨w.heap.size + 2, 2, none⟩ (kI e.dst)).setCell ⟨w.heap.size + 2, 3, none⟩ (.int .i64 e.wt)).drew := ((((Ext.refl (fun c => c = w.heap.size + 2) W).setCell ⟨w.heap.size + 2, 1, none⟩ (kI e.src) (fun _ => rfl)).setCell ⟨w.heap.size + 2, 2, none⟩ (kI e.dst) (fun _ => rfl)).setCell ⟨w.heap.size + 2, 3, none⟩ (.int .i64 e.wt) (fun _ => rfl)).drew
  have z5 := eV.obj HW.out.2.1 (by omega)
  have HV := Lib.hid (And.intro (show _ = some (Obj.cells #[.int .u8 0, kI e.src, kI e.dst, .int .i64 e.wt, nilS, nilS] 39 (0, 0)) from at_drew z6) (And.intro z5 eV))
  clear x1 x2 x3 f1 f2 f3 b0 b1 b3 l6 l7 hne hne' z6 z5 eV
  generalize (((W.setCell ⟨w.heap.size + 1 + 1, 1, none⟩ (.int .i64 e.src)).setCell ⟨w.heap.size + 1 + 1, 2, none⟩ (.int .i64 e.dst)).setCell ⟨w.heap.size + 1 + 1, 3, none⟩ (.int .i64 e.wt)).drew = V at HV ⊢
  obtain ⟨x0, x1, x2, x3, x4, x5, f0, f1, f2, f3, f4, f5⟩ := cells6 HV.out.1
  obtain ⟨y0, y1, y2, y3, y4, y5, g0, g1, g2, g3, g4, g5⟩ := cells6 HV.out.2.1
  have l6 := World.block_lt_of_cell? _ _ x0
  have l5 := World.block_lt_of_cell? _ _ y0
  go_wp2_with fail
  go_region
  all_goals go_wp2
  refine bodyPost_ret (v := .tuple #[.iface G.T (.pointer (some d)), saidV 0 e.src e.dst e.wt nilS nilS]) ?hr rfl ?hR
  case hR =>
    have e7 := ((Ext.refl (fun c => c = w.heap.size + 1) V).set6 (b := w.heap.size + 1) rfl (.int .u8 0) (kI e.src) (kI e.dst) (.int .i64 e.wt) nilS nilS).drew
    have e2 := (sw_ext w 6 a b wt).trans HR.out.1
    exact ⟨rfl, ((e2.then HW.out.2.2.2 (fun c hc e => by omega)).then HV.out.2.2 (fun c hc e => by omega)).then e7 (fun c hc e => by omega)⟩
  case hr =>
    have hg := set6 HV.out.2.1 (.int .u8 0) (kI e.src) (kI e.dst) (.int .i64 e.wt) nilS nilS
    exact results_tmp_cell (fn := Tryz.f24) (g := w.heap.size + 1) (p := 5) (q := 4) (ty := 39) rfl rfl (at_drew hg) Tryz.underlying39 rfl sz39 rfl
end Go.Proofs.YtcenebjdhbdejaaGreatDoor

namespace Go.Proofs.YtcenebjdhbdejaaGreatDoor
open Go.MapKept

/-- stepped behind Clone: R tells of the worlds ahead of the call and behind it -/
def SaidCl (T : TypeId) (R : World → Addr → World → Prop) (w : World) (r : Ending) (w' : World) : Prop :=
  ∃ (d' : Addr) (w1 w2 : World), r = .returned (.tuple #[.iface T (.pointer (some d')), saidV 0 0 0 0 nilS nilS]) ∧ Ext No w w1 ∧ R w1 d' w2 ∧ Ext No w1 w2 ∧ Ext (fun c => w.heap.size ≤ c ∧ c < w1.heap.size) w2 w'

set_option maxRecDepth 100000 in
set_option maxHeartbeats 1000000 in
theorem stepped_cl (G : GK) {w : World} {d : Addr} {a b wt : Int} {R : World → Addr → World → Prop}
    (hC : ∀ w', Ext No w w' → Calls Tryz.prog G.cl.f #[.pointer (some d)] w' (fun r w'' => ∃ d', r = .returned (.tuple #[.iface G.T (.pointer (some d')), .nilIface]) ∧ R w' d' w'' ∧ Ext No w' w'')) :
    Calls Tryz.prog 24 #[.iface G.T (.pointer (some d)), stepV 11 a b wt] w (SaidCl G.T R w) := by
  have HC := Lib.hid (hC _ (sw_ext w 11 a b wt))
  clear hC
  have hM := G.cl.m
  have hE := G.cl.e
  go_enter Tryz.func24, Tryz.ntmps24
  go_wp2_with (go_at_call 35; (refine (edgeWeight_run _ _).mono ?_); rintro r1 w1 ⟨rfl, rfl⟩)
  refine HC.out.mono ?_
  rintro r1 w2 ⟨d', rfl, hR, he⟩
  have r6 := he.obj (sw_said w 11 a b wt) id
  have r5 := he.obj (sw_res w 11 a b wt) id
  have HR := Lib.hid (And.intro he (And.intro r6 (And.intro r5 hR)))
  clear he r6 r5 hR hM hE
  obtain ⟨x0, x1, x2, x3, x4, x5, f0, f1, f2, f3, f4, f5⟩ := cells6 HR.out.2.1
  have l6 := World.block_lt_of_cell? _ _ x0
  go_upto_region 56 with (go_at_call 29; (refine (errorOf_nil _).mono ?_); rintro r2 w3 ⟨rfl, rfl⟩)
  have z6 := set_heap (o := 0) HR.out.2.1 (.int .u8 0)
  have eW : Ext (fun c => c = w.heap.size + 2) w2 (w2.setCell ⟨w.heap.size + 2, 0, none⟩ (.int .u8 0)) := (Ext.refl (fun c => c = w.heap.size + 2) w2).setCell ⟨w.heap.size + 2, 0, none⟩ (.int .u8 0) (fun _ => rfl)
  have z5 := eW.obj HR.out.2.2.1 (by omega)
  have HW := Lib.hid (And.intro (show _ = some said0 from z6) (And.intro z5 eW))
  clear x0 x1 x2 x3 x4 x5 f0 f1 f2 f3 f4 f5 l6 z6 z5 eW
  generalize (w2.setCell ⟨w.heap.size + 1 + 1, 0, none⟩ (.int .u8 0)) = W at HW ⊢
  obtain ⟨x0, x1, x2, x3, x4, x5, f0, f1, f2, f3, f4, f5⟩ := cells6 HW.out.1
  obtain ⟨y0, y1, y2, y3, y4, y5, g0, g1, g2, g3, g4, g5⟩ := cells6 HW.out.2.1
  have l6 := World.block_lt_of_cell? _ _ x0
  have l5 := World.block_lt_of_cell? _ _ y0
  go_region
  all_goals go_wp2
  refine bodyPost_ret (v := .tuple #[.iface G.T (.pointer (some d')), saidV 0 0 0 0 nilS nilS]) ?hr rfl ?hR
  case hR =>
    have e7 := ((Ext.refl (fun c => c = w.heap.size + 1) W).set6 (b := w.heap.size + 1) rfl (.int .u8 0) (.int .i64 0) (.int .i64 0) (.int .i64 0) nilS nilS).drew
    have hsz := sw_size w 11 a b wt
    exact ⟨d', _, w2, rfl, sw_ext w 11 a b wt, HR.out.2.2.2, HR.out.1, (HW.out.2.2.mono (fun c _ e => by omega)).trans (e7.mono (fun c _ e => by omega))⟩
  case hr =>
    have hg := set6 HW.out.2.1 (.int .u8 0) (.int .i64 0) (.int .i64 0) (.int .i64 0) nilS nilS
    exact results_tmp_cell (fn := Tryz.f24) (g := w.heap.size + 1) (p := 5) (q := 4) (ty := 39) rfl rfl (at_drew hg) Tryz.underlying39 rfl sz39 rfl
end Go.Proofs.YtcenebjdhbdejaaGreatDoor
