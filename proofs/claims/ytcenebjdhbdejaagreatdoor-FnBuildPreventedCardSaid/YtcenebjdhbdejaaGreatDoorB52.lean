/- FnBuildPrevented returns true for every sequence of steps, and leaves its arguments as they were: where cycles are prevented, an edge that would close one is refused by the error of that name, and all others are not; there is never a cycle. Conditions: the six package-level errors hold what the program's text lays (the card ties them to it). -/
import Derived.Test.YtcenebjdhbdejaaGreatDoorB51
import Derived.Test.YtcenebjdhbdejaaGreatDoorB44
import Derived.Test.YtcenebjdhbdejaaGreatDoorCards
import Derived.Test.YtcenebjdhbdejaaGreatDoorTie
namespace Go.Proofs.YtcenebjdhbdejaaGreatDoor
open Go.ChangeShapes Go.WideShapes Go.ChangeAt Go.RowKit Go.Joins
set_option maxRecDepth 100000

theorem bprev_lifted (os : Os) (started : os.Started) (H : Type) (enc : TypeId × Value → H) :
    ReturnsInHanded {} Tryz.checked os 5 .any (fun w args => (Rows.fnBuildPreventedSpec.pre enc Tryz.prog Tryz.f5 Rows.fnBuildPreventedRow.domain false w args ∧ laidMetH Tryz.prog Rows.fnBuildPreventedRow.laid w) ∧ sizedMet enc Tryz.prog Tryz.f5 (OpenSpec.ofChange Rows.fnBuildPreventedSpec) false w args)
      (Rows.fnBuildPreventedSpec.post enc Tryz.prog Tryz.f5 false true false false) := by
  refine returnsInHanded_of_change_and (C := Tryz.checked) (X := fun w _ => laidMetH Tryz.prog Rows.fnBuildPreventedRow.laid w) (fun _ _ _ hh h => h.of_heap hh) own started (by kernel_rfl) Tryz.func5
    (ChangeSpec.witness_shaped (enc := enc) (C := Tryz.checked) (os := os) (X := fun w _ => laidMetH Tryz.prog Rows.fnBuildPreventedRow.laid w) false (World.laidAll Tryz.prog os Rows.fnBuildPreventedRow.laid) #[.bool false, .slice none 0 0] 8 (World.laidAll_os _ _ _)
      (World.shaped_of_ZipB (by kernel_rfl) (by kernel_rfl)) (by kernel_rfl) (by kernel_rfl) (by kernel_rfl)
      (by rw [MakeChecks.laidMetH_plain _ _ _ (by kernel_rfl)]; exact laidMet_laidAll _ (by kernel_rfl) (by kernel_rfl))) ?_
  intro W base args ds gs before hval0 hW hc _ hL _
  have hval : ∀ (j : Nat) t v, Tryz.f5.params[j]? = some t → args[j]? = some v → Value.okWide Tryz.prog W .any base t v := hval0
  have hW' := hW
  obtain ⟨p, q, hA0, hV, rfl, _, _⟩ := hW
  have hA : DataW.TrodAll enc Tryz.prog W 0 (fun _ => true) true Tryz.f5.params.toList args.toList ds p := hA0
  rw [Tryz.params5] at hA hval
  obtain ⟨v0, v1, d0, d1, p0, p1, rfl, rfl, rfl, h0, h1⟩ := trodAll_two hA
  obtain ⟨rfl, rfl⟩ := trodVars_none hV
  have h0k := h0
  have h1k := h1
  obtain ⟨b0, rfl, -⟩ := open_bool Tryz.underlying4 (hval 0 4 v0 rfl rfl) h0
  obtain ⟨a, len, cap, rfl⟩ := okWide_slice Tryz.underlying22 (hval 1 22 v1 rfl rfl)
  obtain ⟨fuel, h1f⟩ := h1
  obtain ⟨l, hl, hl0⟩ := open_steps h1f
  obtain ⟨pp, hp, hB⟩ := sent_of_laid hL
  simp only [List.append_nil] at hW'
  refine (bprev_run hp hB hl hl0).mono fun e W' ⟨hr, hx⟩ => ?_
  subst hr
  have hlt0 : ∀ x ∈ p0, x.block < W.heap.size := fun x hx => hW'.lt x (by simp [hx])
  have hlt1 : ∀ x ∈ p1, x.block < W.heap.size := fun x hx => hW'.lt x (by simp [hx])
  refine ⟨_, rfl, _, _, _, [], p0 ++ p1, [], hW', trodAll_mk1 (shut_bool Tryz.underlying4 true), ?_, rfl, keptBut_of_ext hx, fun h => by cases h⟩
  exact trodAll_mk2 (trod_ext (by kernel_rfl) (of_decide_eq_true (by kernel_rfl)) h0k hx hlt0) (trod_ext (by kernel_rfl) (of_decide_eq_true (by kernel_rfl)) h1k hx hlt1)

theorem bprev_said : Rows.FnBuildPreventedSaid :=
  OpenClaim.holds_of_wide 5 Tryz.f5 rfl rfl rfl rfl rfl rfl rfl ⟨rfl, rfl, rfl, rfl, rfl⟩ rfl rfl rfl rfl rfl (by kernel_rfl) Tryz.func5 (by kernel_rfl)
    (of_decide_eq_true (by kernel_rfl)) (by unfold Func.isWrapper; first | (rw [if_pos (by decide +kernel)]; kernel_rfl) | (rw [if_neg (by decide +kernel)]; exact ⟨rfl, rfl⟩))
    (fun os started H enc _ => bprev_lifted os started H enc)

theorem bprev_plain (f : FuncId) (fn : Func) (hf : Tryz.pinned.checked.prog.funcNamed "pub-mycorrhiza/laws.FnBuildPrevented" = some f) (hfn : Tryz.pinned.checked.prog.funcs[f]? = some fn) :
    true = Tryz.pinned.checked.prog.looks [] ∧ ∀ (j : Nat) t, fn.params[j]? = some t → Tryz.pinned.checked.prog.wantsStandIn t = false := by
  obtain rfl : f = 5 := Option.some.inj ((show Tryz.prog.funcNamed "pub-mycorrhiza/laws.FnBuildPrevented" = some 5 by kernel_rfl).symm.trans hf) |>.symm
  obtain rfl : fn = Tryz.f5 := (Option.some.inj (Tryz.func5.symm.trans hfn)).symm
  refine ⟨by kernel_rfl, fun j t ht => ?_⟩
  rw [Tryz.params5] at ht
  have hm : t ∈ [4, 22] := by simpa using Array.mem_of_getElem? ht
  have hall : ([4, 22].all fun u => !Tryz.prog.wantsStandIn u) = true := by kernel_rfl
  exact (show Tryz.prog.wantsStandIn t = false by simpa using List.all_eq_true.1 hall t hm)

theorem bprev_card : Rows.FnBuildPreventedCardSaid :=
  Claim7.holds_tied_plain_at .later [] _ _ _ _ bprev_said (fun _ h => by cases h) (by kernel_rfl) (fun _ h => by cases h) fnBuildPrevented_row_tie rfl ⟨rfl, rfl⟩ (by kernel_rfl) rfl bprev_plain (by kernel_rfl)
#print axioms bprev_card
end Go.Proofs.YtcenebjdhbdejaaGreatDoor
