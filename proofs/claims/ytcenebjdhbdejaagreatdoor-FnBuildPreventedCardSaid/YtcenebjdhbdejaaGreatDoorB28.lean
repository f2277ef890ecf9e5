/- The laws' own helpers: StepsRight, zzFits1, buildTo, walked. The laws' own helpers: zzFits1, buildTo, walked. -/
import Derived.Test.YtcenebjdhbdejaaGreatDoorB21
import Derived.Test.YtcenebjdhbdejaaGreatDoorB23
import Derived.Test.YtcenebjdhbdejaaGreatDoorB22
namespace Go.Proofs.YtcenebjdhbdejaaGreatDoor
open Go.MapKept

theorem w64L {i : Nat} (h : i < 1099511627776) : RowKit.wrap64 ((i : Int) + 1) = ((i + 1 : Nat) : Int) := by unfold RowKit.wrap64; omega

/-- a step that is one: without a loop, if the graph is undirected -/
def rightS (dir : Bool) (x : Stp) : Bool := !(decide (11 < x.op) || (!dir && x.a == x.b && decide (2 ≤ x.op) && decide (x.op ≤ 4)))
def rightL (dir : Bool) (most : Int) (l : List Stp) : Bool := l.all (rightS dir) && decide ((l.length : Int) ≤ most)

/-- a round of StepsRight -/
def RR (dir : Bool) (l : List Stp) (w : World) (k : Nat) (x : Value) (wr : World) : Prop := ∃ i : Nat, x = .int .i64 i ∧ i + k = l.length ∧ (l.take i).all (rightS dir) = true ∧ Ext No w wr

theorem RR.next {dir : Bool} {l : List Stp} {w wr wn : World} {i k : Nat} (hl : l.length < 1099511627776) (hlt : i < l.length) (h : i + k = l.length ∧ (l.take i).all (rightS dir) = true ∧ Ext No w wr) (hx : rightS dir l[i] = true) (he : Ext No wr wn) :
    RR dir l w (l.length - (i + 1)) (.int .i64 (RowKit.wrap64 ((i : Int) + 1))) wn := by
  refine ⟨i + 1, by rw [w64L (by omega)], by omega, ?_, h.2.2.trans he⟩
  rw [List.take_add_one, List.getElem?_eq_getElem hlt, List.all_append, h.2.1]
  simp [hx]

/-- it says b, and has turned nothing that was there -/
def SaysB (b : Bool) (w : World) (r : Ending) (w' : World) : Prop := r = .returned (.bool b) ∧ Ext No w w'

theorem SaysB.no {dir : Bool} {most : Int} {l : List Stp} {w w' : World} {i : Nat} (hlt : i < l.length) (hx : rightS dir l[i] = false) (he : Ext No w w') : SaysB (rightL dir most l) w (.returned (.bool false)) w' := by
  refine ⟨?_, he⟩
  have : l.all (rightS dir) = false := by
    rw [Bool.eq_false_iff]
    intro h
    rw [List.all_eq_true] at h
    rw [h _ (List.getElem_mem hlt)] at hx; cases hx
  unfold rightL
  rw [this]; rfl

set_option maxRecDepth 100000 in
set_option maxHeartbeats 2000000 in
theorem right_run {w : World} {l : List Stp} {lv : Value} {dir : Bool} {most : Int} (h : RdG w lv l Stp.c) (hl : l.length < 1099511627776) :
    Calls Tryz.prog 9 #[lv, .bool dir, .int .i64 most] w (SaysB (rightL dir most l) w) := by
  obtain ⟨q, c, rfl⟩ := h.form
  have HH := Lib.hid (And.intro h hl)
  clear h hl
  go_enter Tryz.func9, Tryz.ntmps9
  go_wp2_with fail
  try go_frame
  go_loopg [11] l.length (fun k x wr => RR dir l w k x wr)
  case atStart => exact ⟨0, rfl, by simp, rfl, Ext.refl _ _⟩
  case round =>
    obtain ⟨i, rfl, hk, hn, he⟩ := hrel
    by_cases hlt : i < l.length
    · obtain ⟨g, off, rfl, hg, hc⟩ := RdG.at (f := Stp.c) (size := 4) (fun _ => rfl) (HH.out.1.ext he (fun _ _ h => h)) hlt
      have hlt' : (i : Int) < (l.length : Int) := by omega
      have c0 : wr.cell? ⟨g, off + i * 4, none⟩ = some (.int .u8 (l[i]'hlt).op) := hc 0 (by decide)
      have c1 : wr.cell? ⟨g, off + i * 4 + 1, none⟩ = some (kI (l[i]'hlt).a) := hc 1 (by decide)
      have c2 : wr.cell? ⟨g, off + i * 4 + 2, none⟩ = some (kI (l[i]'hlt).b) := hc 2 (by decide)
      have c3 : wr.cell? ⟨g, off + i * 4 + 3, none⟩ = some (.int .i64 (l[i]'hlt).wt) := hc 3 (by decide)
      have HK := Lib.hid (And.intro hk (And.intro hn he))
      clear hk hn he hc
      generalize hx : l[i]'hlt = x at c0 c1 c2 c3
      have HX := Lib.hid hx
      clear hx
      have hcs : 11 < x.op ∨ (¬ 11 < x.op ∧ dir = true) ∨ (¬ 11 < x.op ∧ dir = false ∧ (x.a == x.b) = false) ∨ (¬ 11 < x.op ∧ dir = false ∧ (x.a == x.b) = true ∧ ¬ 2 ≤ x.op) ∨ (¬ 11 < x.op ∧ dir = false ∧ (x.a == x.b) = true ∧ 2 ≤ x.op ∧ ¬ x.op ≤ 4) ∨ (¬ 11 < x.op ∧ dir = false ∧ (x.a == x.b) = true ∧ 2 ≤ x.op ∧ x.op ≤ 4) := by
        by_cases h1 : 11 < x.op
        · exact Or.inl h1
        · cases dir <;> cases h2 : (x.a == x.b) <;> simp [h1] <;> omega
      rcases hcs with h1 | ⟨h1, rfl⟩ | ⟨h1, rfl, h2⟩ | ⟨h1, rfl, h2, h3⟩ | ⟨h1, rfl, h2, h3, h4⟩ | ⟨h1, rfl, h2, h3, h4⟩
      · have HR : RowKit.Hid (rightS dir (l[i]'hlt) = false) := Lib.hid (by rw [HX.out]; simp [rightS, h1])
        go_wp2
        go_ret
        exact SaysB.no hlt HR.out (HK.out.2.2.alloc _)
      · have HR : RowKit.Hid (rightS true (l[i]'hlt) = true) := Lib.hid (by rw [HX.out]; simp [rightS]; omega)
        go_wp2
        go_roundg (l.length - (i + 1))
        case measure => have := HK.out.1; omega
        case rel => exact RR.next HH.out.2 hlt HK.out HR.out ((Ext.refl _ _).alloc _)
      · have HR : RowKit.Hid (rightS false (l[i]'hlt) = true) := Lib.hid (by rw [HX.out]; simp [rightS, h2]; omega)
        go_wp2
        go_roundg (l.length - (i + 1))
        case measure => have := HK.out.1; omega
        case rel => exact RR.next HH.out.2 hlt HK.out HR.out ((Ext.refl _ _).alloc _)
      · have HR : RowKit.Hid (rightS false (l[i]'hlt) = true) := Lib.hid (by rw [HX.out]; simp [rightS, h2]; omega)
        go_wp2
        go_roundg (l.length - (i + 1))
        case measure => have := HK.out.1; omega
        case rel => exact RR.next HH.out.2 hlt HK.out HR.out ((Ext.refl _ _).alloc _)
      · have HR : RowKit.Hid (rightS false (l[i]'hlt) = true) := Lib.hid (by rw [HX.out]; simp [rightS, h2]; omega)
        go_wp2
        go_roundg (l.length - (i + 1))
        case measure => have := HK.out.1; omega
        case rel => exact RR.next HH.out.2 hlt HK.out HR.out ((Ext.refl _ _).alloc _)
      · have HR : RowKit.Hid (rightS false (l[i]'hlt) = false) := Lib.hid (by rw [HX.out]; simp [rightS, h2]; omega)
        go_wp2
        go_ret
        exact SaysB.no hlt HR.out (HK.out.2.2.alloc _)
    · have hnlt : ¬ (i : Int) < (l.length : Int) := by omega
      have hi : i = l.length := by omega
      subst hi
      rw [List.take_length] at hn
      have HK := Lib.hid (And.intro hn he)
      clear hk hn he
      by_cases hm : (l.length : Int) ≤ most
      · go_wp2
        go_ret
        refine ⟨?_, HK.out.2⟩
        unfold rightL
        rw [HK.out.1]
        simp [hm]
      · go_wp2
        go_ret
        refine ⟨?_, HK.out.2⟩
        unfold rightL
        rw [HK.out.1]
        simp [hm]
end Go.Proofs.YtcenebjdhbdejaaGreatDoor
namespace Go.Proofs.YtcenebjdhbdejaaGreatDoor
open Go.MapKept

theorem U32 : Tryz.prog.underlying 32 = some (.slice 64) := by kernel_rfl
theorem I64 : (Tryz.prog.info? 64).map (fun i => (i.zero, i.size, i.bytes)) = some (some (.agg #[.int .u8 0, .int .i64 0, .int .i64 0, .int .i64 0]), 4, 32) := by kernel_rfl

abbrev graphV (d wei : Bool) (vs es : Value) : Value := .agg #[.bool d, .bool wei, vs, es]

set_option maxRecDepth 100000 in
theorem fits_run {w : World} {d wei : Bool} {qv qe : Option Addr} {nv cv ne ce : Nat} :
    Calls Tryz.prog 15 #[graphV d wei (.slice qv nv cv) (.slice qe ne ce)] w (SaysB (decide (nv ≤ 2147483647) && decide (ne ≤ 2147483647)) w) := by
  by_cases h1 : nv ≤ 2147483647
  · have h1' : ¬ (2147483647 : Int) < (nv : Int) := by omega
    by_cases h2 : ne ≤ 2147483647
    · have h2' : ¬ (2147483647 : Int) < (ne : Int) := by omega
      have HH := Lib.hid (And.intro h1 h2)
      clear h1 h2
      go_enter Tryz.func15, Tryz.ntmps15
      go_wp2
      go_ret
      exact ⟨by simp [HH.out.1, HH.out.2], (Ext.refl _ _).alloc _⟩
    · have h2' : (2147483647 : Int) < (ne : Int) := by omega
      have HH := Lib.hid (And.intro h1 h2)
      clear h1 h2
      go_enter Tryz.func15, Tryz.ntmps15
      go_wp2
      go_ret
      exact ⟨by simp [HH.out.1, HH.out.2], (Ext.refl _ _).alloc _⟩
  · have h1' : (2147483647 : Int) < (nv : Int) := by omega
    have HH := Lib.hid h1
    clear h1
    go_enter Tryz.func15, Tryz.ntmps15
    go_wp2
    go_ret
    exact ⟨by simp [HH.out], (Ext.refl _ _).alloc _⟩

/-- a round of buildTo -/
def TR (w : World) (l : List Stp) (k : Nat) (ov iv : Value) (wr : World) : Prop :=
  ∃ i : Nat, iv = .int .i64 i ∧ i + k = l.length ∧ wr.ownsRow w.heap.size 64 4 ov (l.take i).length ((l.take i).flatMap Stp.c) ∧ Ext No w wr

/-- what buildTo leaves -/
def ToPost (l : List Stp) (w : World) (r : Ending) (w' : World) : Prop := ∃ v, r = .returned v ∧ w'.ownsRow w.heap.size 64 4 v l.length (l.flatMap Stp.c) ∧ Ext No w w'

set_option maxRecDepth 100000 in
set_option maxHeartbeats 1000000 in
theorem to_run {w : World} {l : List Stp} {lv : Value} (h : RdG w lv l Stp.c) (hl : l.length < 900000) :
    Calls Tryz.prog 12 #[lv] w (ToPost l w) := by
  obtain ⟨q, c, rfl⟩ := h.form
  have HH := Lib.hid (And.intro h hl)
  clear h hl
  go_enter Tryz.func12, Tryz.ntmps12
  go_wp2_with fail
  try go_frame
  go_loopg [3, 8] l.length (fun k ov iv wr => TR w l k ov iv wr)
  case atStart => exact ⟨0, rfl, by simp, nil_own, Ext.refl _ _⟩
  case round =>
    obtain ⟨i, rfl, hk, ho, he⟩ := hrel
    obtain ⟨q2, cap2, rfl, -⟩ := own_read (f := Stp.c) (fun _ => rfl) ho
    by_cases hlt : i < l.length
    · obtain ⟨g, off, rfl, hg, hc⟩ := RdG.at (f := Stp.c) (size := 4) (fun _ => rfl) (HH.out.1.ext he (fun _ _ h => h)) hlt
      have hlt' : (i : Int) < (l.length : Int) := by omega
      have c0 : wr.cell? ⟨g, off + i * 4, none⟩ = some (.int .u8 (l[i]'hlt).op) := hc 0 (by decide)
      have c1 : wr.cell? ⟨g, off + i * 4 + 1, none⟩ = some (kI (l[i]'hlt).a) := hc 1 (by decide)
      have c2 : wr.cell? ⟨g, off + i * 4 + 2, none⟩ = some (kI (l[i]'hlt).b) := hc 2 (by decide)
      have c3 : wr.cell? ⟨g, off + i * 4 + 3, none⟩ = some (.int .i64 (l[i]'hlt).wt) := hc 3 (by decide)
      generalize hx : l[i]'hlt = x at c0 c1 c2 c3
      have htk : l.take (i + 1) = l.take i ++ [x] := by rw [List.take_add_one, List.getElem?_eq_getElem hlt, hx]; rfl
      have hlen : (l.take i).length = i := by rw [List.length_take]; omega
      have HK := Lib.hid (And.intro hk (And.intro htk (And.intro ho (And.intro he hlen))))
      clear hk htk ho he hc hx hlen
      generalize l.take i = T at HK ⊢
      have hE : Ext No w ((wr.alloc (.cells x.c.toArray 35)).alloc (.cells x.c.toArray 64)) := (HK.out.2.2.2.1.alloc _).alloc _
      have HE := Lib.hid hE
      clear hE
      go_wp2_with (at_builtin; (refine wpL_append1 (v := .slice q2 T.length cap2) (xs := T) (b := wr.heap.size + 1) rfl rfl U32 I64 rfl (by decide) (by decide) (f := Stp.c) (fun _ => rfl) Stp.one rfl ((HK.out.2.2.1.alloc (.cells x.c.toArray 35)).alloc (.cells x.c.toArray 64)) x rfl ⟨64, (0, 0), two_new _ _ _⟩ (by have := HK.out.2.2.2.2; have := HH.out.2; omega) HE.out.size ?_); intro v1 wa hoa hea hba; have HA := Lib.hid (And.intro hoa (HE.out.then hea (T := fun c => some c = (Value.slice q2 T.length cap2).ownBlock) (fun c hc e => by have := (HK.out.2.2.1.lt c e.symm).1; omega))); clear hoa hea hba)
      go_roundg (l.length - (i + 1))
      case measure => have := HK.out.1; omega
      case rel => exact ⟨i + 1, by rw [w64 (by have := HH.out.2; omega)], by omega, by rw [HK.out.2.1]; exact HA.out.1, HA.out.2⟩
    · have hnlt : ¬ (i : Int) < (l.length : Int) := by omega
      have hi : i = l.length := by omega
      subst hi
      rw [List.take_length] at ho ⊢
      have HK := Lib.hid (And.intro ho he)
      clear hk ho he
      go_wp2
      go_ret
      exact ⟨_, rfl, HK.out.1, HK.out.2⟩
end Go.Proofs.YtcenebjdhbdejaaGreatDoor
