/- FnBuildOrder returns true for every graph and every turn, and leaves its arguments as they were: vertices, and behind them edges, that are added from the last one on, begun at any of them, make the same graph. Conditions: the six package-level errors hold what the program's text lays (the card ties them to it). -/
import Derived.Test.YtcenebjdhbdejaaGreatDoorL6
import Derived.Test.YtcenebjdhbdejaaGreatDoorH0
import Derived.Test.YtcenebjdhbdejaaGreatDoorCards
import Derived.Test.YtcenebjdhbdejaaGreatDoorTie
namespace Go.Proofs.YtcenebjdhbdejaaGreatDoor
open Go.ChangeShapes Go.WideShapes Go.ChangeAt Go.RowKit Go.Joins
set_option maxRecDepth 100000

theorem order_lifted (os : Os) (started : os.Started) (H : Type) (enc : TypeId × Value → H) :
    ReturnsInHanded {} Tryz.checked os 4 .any (fun w args => (Rows.fnBuildOrderSpec.pre enc Tryz.prog Tryz.f4 Rows.fnBuildOrderRow.domain false w args ∧ laidMetH Tryz.prog Rows.fnBuildOrderRow.laid w) ∧ sizedMet enc Tryz.prog Tryz.f4 (OpenSpec.ofChange Rows.fnBuildOrderSpec) false w args)
      (Rows.fnBuildOrderSpec.post enc Tryz.prog Tryz.f4 false true false false) := by
  refine returnsInHanded_of_change_and (C := Tryz.checked) (X := fun w _ => laidMetH Tryz.prog Rows.fnBuildOrderRow.laid w) (fun _ _ _ hh h => h.of_heap hh) own started (by kernel_rfl) Tryz.func4
    (ChangeSpec.witness_shaped (enc := enc) (C := Tryz.checked) (os := os) (X := fun w _ => laidMetH Tryz.prog Rows.fnBuildOrderRow.laid w) false (World.laidAll Tryz.prog os Rows.fnBuildOrderRow.laid) #[graphV false false (.slice none 0 0) (.slice none 0 0), .int .u8 0] 8 (World.laidAll_os _ _ _)
      (World.shaped_of_ZipB (by kernel_rfl) (by kernel_rfl)) (by kernel_rfl) (by kernel_rfl) (by kernel_rfl)
      (by rw [MakeChecks.laidMetH_plain _ _ _ (by kernel_rfl)]; exact laidMet_laidAll _ (by kernel_rfl) (by kernel_rfl))) ?_
  intro W base args ds gs before hval0 hW hc _ hL _
  have hval : ∀ (j : Nat) t v, Tryz.f4.params[j]? = some t → args[j]? = some v → Value.okWide Tryz.prog W .any base t v := hval0
  have hW' := hW
  obtain ⟨p, q, hA0, hV, rfl, _, _⟩ := hW
  have hA : DataW.TrodAll enc Tryz.prog W 0 (fun _ => true) true Tryz.f4.params.toList args.toList ds p := hA0
  rw [Tryz.params4] at hA hval
  obtain ⟨v0, v1, d0, d1, p0, p1, rfl, rfl, rfl, h0, h1⟩ := trodAll_two hA
  obtain ⟨rfl, rfl⟩ := trodVars_none hV
  have h0k := h0
  have h1k := h1
  obtain ⟨x0, x1, x2, x3, y0, y1, y2, y3, n, rfl, -, -, g0, g1, g2, g3⟩ := open_agg4 Tryz.underlying45 (by kernel_rfl) ce45 (hval 0 45 v0 rfl rfl) h0
  obtain ⟨t, rfl, -, -, wt⟩ := open_int Tryz.underlying5 (hval 1 5 v1 rfl rfl) h1
  obtain ⟨b0, rfl, -⟩ : ∃ b : Bool, x0 = .bool b ∧ True := by
    obtain ⟨b, hb, -⟩ := DataW.trod_bool Tryz.underlying4 g0
    simp only [List.cons.injEq, and_true] at hb
    exact ⟨b, hb, trivial⟩
  obtain ⟨b1, rfl, -⟩ : ∃ b : Bool, x1 = .bool b ∧ True := by
    obtain ⟨b, hb, -⟩ := DataW.trod_bool Tryz.underlying4 g1
    simp only [List.cons.injEq, and_true] at hb
    exact ⟨b, hb, trivial⟩
  obtain ⟨V, hv⟩ := open_keys g2
  obtain ⟨E, he⟩ := open_edges g3
  obtain ⟨pp, hp, hB⟩ := sent_of_laid hL
  have ht : 0 ≤ t ∧ t < 256 := by
    simp [Lit.wf] at wt
    have h1 : IntKind.u8.min = 0 := by decide
    have h2 : IntKind.u8.max = 255 := by decide
    rw [h1, h2] at wt
    omega
  obtain ⟨turn, rfl⟩ : ∃ r : Nat, t = r := ⟨t.toNat, by omega⟩
  simp only [List.append_nil] at hW'
  refine (order_run hp hB hv he (by omega)).mono fun e W' ⟨hr, hx⟩ => ?_
  subst hr
  have hlt0 : ∀ x ∈ p0, x.block < W.heap.size := fun x hx => hW'.lt x (by simp [hx])
  have hlt1 : ∀ x ∈ p1, x.block < W.heap.size := fun x hx => hW'.lt x (by simp [hx])
  refine ⟨_, rfl, _, _, _, [], p0 ++ p1, [], hW', trodAll_mk1 (shut_bool Tryz.underlying4 true), ?_, rfl, keptBut_of_ext hx, fun h => by cases h⟩
  exact trodAll_mk2 (trod_ext (by kernel_rfl) (of_decide_eq_true (by kernel_rfl)) h0k hx hlt0) (trod_ext (by kernel_rfl) (of_decide_eq_true (by kernel_rfl)) h1k hx hlt1)

theorem order_said : Rows.FnBuildOrderSaid :=
  OpenClaim.holds_of_wide 4 Tryz.f4 rfl rfl rfl rfl rfl rfl rfl ⟨rfl, rfl, rfl, rfl, rfl⟩ rfl rfl rfl rfl rfl (by kernel_rfl) Tryz.func4 (by kernel_rfl)
    (of_decide_eq_true (by kernel_rfl)) (by unfold Func.isWrapper; first | (rw [if_pos (by decide +kernel)]; kernel_rfl) | (rw [if_neg (by decide +kernel)]; exact ⟨rfl, rfl⟩))
    (fun os started H enc _ => order_lifted os started H enc)

theorem order_plain (f : FuncId) (fn : Func) (hf : Tryz.pinned.checked.prog.funcNamed "pub-mycorrhiza/laws.FnBuildOrder" = some f) (hfn : Tryz.pinned.checked.prog.funcs[f]? = some fn) :
    true = Tryz.pinned.checked.prog.looks [] ∧ ∀ (j : Nat) t, fn.params[j]? = some t → Tryz.pinned.checked.prog.wantsStandIn t = false := by
  obtain rfl : f = 4 := Option.some.inj ((show Tryz.prog.funcNamed "pub-mycorrhiza/laws.FnBuildOrder" = some 4 by kernel_rfl).symm.trans hf) |>.symm
  obtain rfl : fn = Tryz.f4 := (Option.some.inj (Tryz.func4.symm.trans hfn)).symm
  refine ⟨by kernel_rfl, fun j t ht => ?_⟩
  rw [Tryz.params4] at ht
  have hm : t ∈ [45, 5] := by simpa using Array.mem_of_getElem? ht
  have hall : ([45, 5].all fun u => !Tryz.prog.wantsStandIn u) = true := by kernel_rfl
  exact (show Tryz.prog.wantsStandIn t = false by simpa using List.all_eq_true.1 hall t hm)

theorem order_card : Rows.FnBuildOrderCardSaid :=
  Claim7.holds_tied_plain_at .later [] _ _ _ _ order_said (fun _ h => by cases h) (by kernel_rfl) (fun _ h => by cases h) fnBuildOrder_row_tie rfl ⟨rfl, rfl⟩ (by kernel_rfl) rfl order_plain (by kernel_rfl)
#print axioms order_card
end Go.Proofs.YtcenebjdhbdejaaGreatDoor
