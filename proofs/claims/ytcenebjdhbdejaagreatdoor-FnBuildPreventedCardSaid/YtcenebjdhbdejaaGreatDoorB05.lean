/- errors.Is, over the package's six errors and what wraps them; errorOf: the number of an error. errorOf: the number of an error. -/
import Derived.Test.YtcenebjdhbdejaaGreatDoorB01
import Derived.LaidEql
import Derived.Stop.Asserts
import Derived.RowKitTokens
namespace Go.Proofs.YtcenebjdhbdejaaGreatDoor
open Go.RowKit Go.Extern.Stop Go.Stop Go.Extern

theorem callTypeOf (v : Value) (w : World) : (callFunc 54 #[.iface 185 v]).run Tryz.prog w = .ok (.value (.iface 151 (.agg #[.pointer (some ⟨6, 185, none⟩)]))) w := by kernel_rfl
theorem callComparable (w : World) : (callFunc 157 #[.agg #[.pointer (some ⟨6, 185, none⟩)]]).run Tryz.prog w = .ok (.value (.bool true)) w := by kernel_rfl
theorem isMethodComparable (v : Value) (w : World) : (Go.method 354 151 v "Comparable").run Tryz.prog w = .ok (157, v) w := by kernel_rfl
theorem isComp : (Tryz.prog.info? 185).map (·.comparable) = some true := by kernel_rfl
theorem isSize : (Tryz.prog.info? 243).map (·.size) = some 1 := by kernel_rfl

theorem noIsE (v : Value) (xT : TypeId) (w : World) : (Instr.typeAssert (.iface 185 v) xT 165 true).run Tryz.prog w = .ok (.tuple #[.nilIface, .bool false]) w := run_typeAssert_lacksB Tryz.underlying165 (by kernel_rfl) (by kernel_rfl) v xT w
theorem noUnwrapE (v : Value) (xT : TypeId) (w : World) : (Instr.typeAssert (.iface 185 v) xT 168 true).run Tryz.prog w = .ok (.tuple #[.nilIface, .bool false]) w := run_typeAssert_lacksB Tryz.underlying168 (by kernel_rfl) (by kernel_rfl) v xT w
theorem noUnwrapsE (v : Value) (xT : TypeId) (w : World) : (Instr.typeAssert (.iface 185 v) xT 170 true).run Tryz.prog w = .ok (.tuple #[.nilIface, .bool false]) w := run_typeAssert_lacksB Tryz.underlying170 (by kernel_rfl) (by kernel_rfl) v xT w
theorem noIsW (v : Value) (xT : TypeId) (w : World) : (Instr.typeAssert (.iface 226 v) xT 165 true).run Tryz.prog w = .ok (.tuple #[.nilIface, .bool false]) w := run_typeAssert_lacksB Tryz.underlying165 (by kernel_rfl) (by kernel_rfl) v xT w
theorem hasUnwrapW (v : Value) (xT : TypeId) (w : World) : (Instr.typeAssert (.iface 226 v) xT 168 true).run Tryz.prog w = .ok (.tuple #[.iface 226 v, .bool true]) w := run_typeAssert_hasB Tryz.underlying168 (by kernel_rfl) v xT w
theorem methodUnwrap (v : Value) (w : World) : (Go.method 354 226 v "Unwrap").run Tryz.prog w = .ok (169, v) w := by kernel_rfl

/-- The errors of the package: one of the six, wrapped or not. -/
inductive Er where
  | sent (i : Nat)
  | wrap (e : Er)

def Er.val (p : Nat → Addr) : Er → Value
  | .sent i => errv p i
  | .wrap e => .iface 226 (.agg #[e.val p])
def Er.no : Er → Nat
  | .sent i => i
  | .wrap e => e.no
def Er.deep : Er → Nat
  | .sent _ => 0
  | .wrap e => e.deep + 1

theorem Er.val_iface (p : Nat → Addr) (e : Er) : ∃ t v, e.val p = .iface t v := by cases e <;> exact ⟨_, _, rfl⟩

set_option maxRecDepth 100000 in
theorem unwrap_any (v : Value) (w : World) : Calls Tryz.prog 169 #[.agg #[v]] w fun e w' => e = .returned v ∧ Ext No w w' := by
  go_enter Tryz.func169, Tryz.ntmps169
  go_wp2
  go_ret
  exact ⟨rfl, (Ext.refl _ _).alloc _⟩

/-- one round's relation in errors.is -/
def IsRel (p : Nat → Addr) (n : Nat) (w : World) (k : Nat) (v : Value) (wr : World) : Prop := ∃ e : Er, v = e.val p ∧ e.no = n ∧ e.deep = k ∧ Ext No w wr

set_option maxRecDepth 100000 in
set_option maxHeartbeats 800000 in
theorem is_loop {p : Nat → Addr} {w : World} (hp : Sent w p) (e : Er) (i : Nat) (hi : i < 6) (hn : e.no < 6) :
    Calls Tryz.prog 55 #[e.val p, errv p i, .bool true] w fun r w' => r = .returned (.bool (e.no == i)) ∧ Ext No w w' := by
  obtain ⟨ii, hii, hcmp⟩ := Option.map_eq_some_iff.1 isComp
  obtain ⟨j, hj, hjs⟩ := Option.map_eq_some_iff.1 isSize
  have hjs' : j.size ≠ 0 := by rw [hjs]; decide
  go_enter Tryz.func55, Tryz.ntmps55
  go_wp2
  go_loopg [0] e.deep (fun k v wr => IsRel p e.no w k v wr)
  case atStart => exact ⟨e, rfl, rfl, rfl, Ext.refl _ _⟩
  case round =>
    obtain ⟨e', rfl, hno, hk, he⟩ := hrel
    have HK := Lib.hid (And.intro hno hk)
    have nE := noIsE
    have uE := noUnwrapE
    have vE := noUnwrapsE
    have nW := noIsW
    have uW := hasUnwrapW
    have mU := methodUnwrap
    cases e' with
    | sent k =>
      have hk : k = e.no := hno
      by_cases hki : k = i
      · subst hki
        have heq := run_eql_iface_ptr_same (P := Tryz.prog) wr (p k) Tryz.underlying76 Tryz.underlying185 hii hcmp hj
        clear hno hk hjs hii hj
        simp only [Er.val]
        go_wp2
        go_ret
        have : (e.no == k) = true := by rw [← HK.out.1]; simp [Er.no]
        exact ⟨by rw [this]; rfl, he⟩
      · have hne : p k ≠ p i := fun h => hki (hp.inj k i (by omega) hi h)
        obtain ⟨ca, ta, ha⟩ := hp.row k (by omega)
        obtain ⟨cb, tb, hb⟩ := hp.row i hi
        have heq := run_eql_iface_ptr_other (P := Tryz.prog) wr Tryz.underlying76 Tryz.underlying185 hii hcmp hj hjs' hne (he.obj ha id) (he.obj hb id)
        clear hno hk hjs hii hj ha hb
        simp only [Er.val]
        go_wp2
        go_ret
        have : (e.no == i) = false := by rw [← HK.out.1]; simp [Er.no, hki]
        exact ⟨by rw [this]; rfl, he⟩
    | wrap e'' =>
      have hty := run_eql_iface_types (P := Tryz.prog) 226 185 (.agg #[e''.val p]) (.pointer (some (p i))) Tryz.underlying76 (by decide) wr
      clear hno hk hjs hii hj
      obtain ⟨t, v, hv⟩ := e''.val_iface p
      have HV := Lib.hid hv
      simp only [Er.val]
      rw [hv] at hty ⊢
      clear hv
      go_wp2_with (go_at_call 169; refine (unwrap_any _ _).mono ?_; rintro e1 w1 ⟨rfl, h1⟩)
      go_roundg e''.deep
      case measure => rw [← HK.out.2]; simp [Er.deep]
      case rel => exact ⟨e'', HV.out.symm, HK.out.1, rfl, he.trans h1⟩

/-- errors.Is of an error of the package and one of the six -/
theorem is_any {p : Nat → Addr} {w : World} (hp : Sent w p) (e : Er) (i : Nat) (hi : i < 6) (hn : e.no < 6) :
    Calls Tryz.prog 40 #[e.val p, errv p i] w fun r w' => r = .returned (.bool (e.no == i)) ∧ Ext No w w' := by
  obtain ⟨ii, hii, hcmp⟩ := Option.map_eq_some_iff.1 isComp
  obtain ⟨j, hj, hjs⟩ := Option.map_eq_some_iff.1 isSize
  have tT := callTypeOf
  have cT := callComparable
  have mR := isMethodComparable
  obtain ⟨t, v, hv⟩ := e.val_iface p
  have HV := Lib.hid hv
  have HP := Lib.hid (is_loop hp e i hi hn)
  rw [hv]
  have HP' := HP
  rw [hv] at HP'
  clear hv hii hj hjs
  go_enter Tryz.func40, Tryz.ntmps40
  go_wp2_with (go_at_call 55; refine HP'.out.mono ?_; rintro e1 w1 ⟨rfl, h1⟩)
  go_ret
  exact ⟨rfl, h1⟩

theorem is_nil {p : Nat → Addr} {w : World} (i : Nat) :
    Calls Tryz.prog 40 #[.nilIface, errv p i] w fun r w' => r = .returned (.bool false) ∧ Ext No w w' := by
  have hn := run_eql_iface_nil_left (P := Tryz.prog) w 185 (.pointer (some (p i))) Tryz.underlying76
  go_enter Tryz.func40, Tryz.ntmps40
  go_wp2
  go_ret
  exact ⟨rfl, Ext.refl _ _⟩

/-- errorOf's number of an error -/
def numOf : Option Er → Int
  | none => 0
  | some e => (e.no : Int) + 1

def erv (p : Nat → Addr) : Option Er → Value
  | none => .nilIface
  | some e => e.val p

end Go.Proofs.YtcenebjdhbdejaaGreatDoor
namespace Go.Proofs.YtcenebjdhbdejaaGreatDoor
open Go.RowKit

set_option maxRecDepth 100000 in
theorem errorOf_nil (w : World) : Calls Tryz.prog 29 #[.nilIface] w fun r w' => r = .returned (.int .u8 0) ∧ w = w' := by
  go_enter Tryz.func29, Tryz.ntmps29
  go_wp2
  go_ret
  exact ⟨rfl, rfl⟩

set_option maxRecDepth 100000 in
set_option maxHeartbeats 2000000 in
theorem errorOf_some {p : Nat → Addr} {w : World} {B : Nat} (hp : Sent w p) (hB : Below6 B p) (e : Er) (k : Nat) (hk : k < 6) (he : e.no = k) :
    Calls Tryz.prog 29 #[e.val p] w fun r w' => r = .returned (.int .u8 ((k : Int) + 1)) ∧ Ext No w w' := by
  obtain ⟨t, v, hv⟩ := e.val_iface p
  have HI : ∀ (w : World) (i : Nat), Sent w p → i < 6 → Calls Tryz.prog 40 #[.iface t v, errv p i] w fun r w' => r = .returned (.bool (e.no == i)) ∧ Ext No w w' := by
    intro w i h1 h2; rw [← hv]; exact is_any h1 e i h2 (by omega)
  have HI := Lib.hid HI
  rw [hv]
  clear hv
  have HS := Lib.hid hp
  have HE := Lib.hid (Ext.refl No w)
  have c0 := hp.c0
  clear hp
  match k, hk, he with
  | 0, _, he =>
    go_enter Tryz.func29, Tryz.ntmps29
    go_wp2_with (go_at_call 40; (refine (HI.out _ _ HS.out (by omega)).mono ?_); rintro e1 w1 ⟨rfl, h1⟩; have HE := Lib.hid (HE.out.trans h1); have HS := Lib.hid (HS.out.ext hB h1 (fun _ h => h.elim)); clear h1; have c1 := HS.out.c1; have c2 := HS.out.c2; have c3 := HS.out.c3; have c4 := HS.out.c4; have c5 := HS.out.c5)
    go_ret
    exact ⟨rfl, HE.out⟩
  | 1, _, he =>
    go_enter Tryz.func29, Tryz.ntmps29
    go_wp2_with (go_at_call 40; (refine (HI.out _ _ HS.out (by omega)).mono ?_); rintro e1 w1 ⟨rfl, h1⟩; have HE := Lib.hid (HE.out.trans h1); have HS := Lib.hid (HS.out.ext hB h1 (fun _ h => h.elim)); clear h1; have c1 := HS.out.c1; have c2 := HS.out.c2; have c3 := HS.out.c3; have c4 := HS.out.c4; have c5 := HS.out.c5)
    go_ret
    exact ⟨rfl, HE.out⟩
  | 2, _, he =>
    go_enter Tryz.func29, Tryz.ntmps29
    go_wp2_with (go_at_call 40; (refine (HI.out _ _ HS.out (by omega)).mono ?_); rintro e1 w1 ⟨rfl, h1⟩; have HE := Lib.hid (HE.out.trans h1); have HS := Lib.hid (HS.out.ext hB h1 (fun _ h => h.elim)); clear h1; have c1 := HS.out.c1; have c2 := HS.out.c2; have c3 := HS.out.c3; have c4 := HS.out.c4; have c5 := HS.out.c5)
    go_ret
    exact ⟨rfl, HE.out⟩
  | 3, _, he =>
    go_enter Tryz.func29, Tryz.ntmps29
    go_wp2_with (go_at_call 40; (refine (HI.out _ _ HS.out (by omega)).mono ?_); rintro e1 w1 ⟨rfl, h1⟩; have HE := Lib.hid (HE.out.trans h1); have HS := Lib.hid (HS.out.ext hB h1 (fun _ h => h.elim)); clear h1; have c1 := HS.out.c1; have c2 := HS.out.c2; have c3 := HS.out.c3; have c4 := HS.out.c4; have c5 := HS.out.c5)
    go_ret
    exact ⟨rfl, HE.out⟩
  | 4, _, he =>
    go_enter Tryz.func29, Tryz.ntmps29
    go_wp2_with (go_at_call 40; (refine (HI.out _ _ HS.out (by omega)).mono ?_); rintro e1 w1 ⟨rfl, h1⟩; have HE := Lib.hid (HE.out.trans h1); have HS := Lib.hid (HS.out.ext hB h1 (fun _ h => h.elim)); clear h1; have c1 := HS.out.c1; have c2 := HS.out.c2; have c3 := HS.out.c3; have c4 := HS.out.c4; have c5 := HS.out.c5)
    go_ret
    exact ⟨rfl, HE.out⟩
  | 5, _, he =>
    go_enter Tryz.func29, Tryz.ntmps29
    go_wp2_with (go_at_call 40; (refine (HI.out _ _ HS.out (by omega)).mono ?_); rintro e1 w1 ⟨rfl, h1⟩; have HE := Lib.hid (HE.out.trans h1); have HS := Lib.hid (HS.out.ext hB h1 (fun _ h => h.elim)); clear h1; have c1 := HS.out.c1; have c2 := HS.out.c2; have c3 := HS.out.c3; have c4 := HS.out.c4; have c5 := HS.out.c5)
    go_ret
    exact ⟨rfl, HE.out⟩
end Go.Proofs.YtcenebjdhbdejaaGreatDoor
