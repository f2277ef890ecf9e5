/- FnBuildTwice returns true for every two sequences of steps, and leaves its arguments as they were: a vertex that is there already is refused when those of another graph are added, and nothing that was there goes. Conditions: the six package-level errors hold what the program's text lays (the card ties them to it). -/
import Derived.Test.YtcenebjdhbdejaaGreatDoorB50
import Derived.Test.YtcenebjdhbdejaaGreatDoorB44
import Derived.Test.YtcenebjdhbdejaaGreatDoorCards
import Derived.Test.YtcenebjdhbdejaaGreatDoorTie
namespace Go.Proofs.YtcenebjdhbdejaaGreatDoor
open Go.ChangeShapes Go.WideShapes Go.ChangeAt Go.RowKit Go.Joins
set_option maxRecDepth 100000

theorem btwice_lifted (os : Os) (started : os.Started) (H : Type) (enc : TypeId × Value → H) :
    ReturnsInHanded {} Tryz.checked os 7 .any (fun w args => (Rows.fnBuildTwiceSpec.pre enc Tryz.prog Tryz.f7 Rows.fnBuildTwiceRow.domain false w args ∧ laidMetH Tryz.prog Rows.fnBuildTwiceRow.laid w) ∧ sizedMet enc Tryz.prog Tryz.f7 (OpenSpec.ofChange Rows.fnBuildTwiceSpec) false w args)
      (Rows.fnBuildTwiceSpec.post enc Tryz.prog Tryz.f7 false true false false) := by
  refine returnsInHanded_of_change_and (C := Tryz.checked) (X := fun w _ => laidMetH Tryz.prog Rows.fnBuildTwiceRow.laid w) (fun _ _ _ hh h => h.of_heap hh) own started (by kernel_rfl) Tryz.func7
    (ChangeSpec.witness_shaped (enc := enc) (C := Tryz.checked) (os := os) (X := fun w _ => laidMetH Tryz.prog Rows.fnBuildTwiceRow.laid w) false (World.laidAll Tryz.prog os Rows.fnBuildTwiceRow.laid) #[.bool false, .bool false, .slice none 0 0, .slice none 0 0] 8 (World.laidAll_os _ _ _)
      (World.shaped_of_ZipB (by kernel_rfl) (by kernel_rfl)) (by kernel_rfl) (by kernel_rfl) (by kernel_rfl)
      (by rw [MakeChecks.laidMetH_plain _ _ _ (by kernel_rfl)]; exact laidMet_laidAll _ (by kernel_rfl) (by kernel_rfl))) ?_
  intro W base args ds gs before hval0 hW hc _ hL _
  have hval : ∀ (j : Nat) t v, Tryz.f7.params[j]? = some t → args[j]? = some v → Value.okWide Tryz.prog W .any base t v := hval0
  have hW' := hW
  obtain ⟨p, q, hA0, hV, rfl, _, _⟩ := hW
  have hA : DataW.TrodAll enc Tryz.prog W 0 (fun _ => true) true Tryz.f7.params.toList args.toList ds p := hA0
  rw [Tryz.params7] at hA hval
  obtain ⟨v0, v1, v2, v3, d0, d1, d2, d3, p0, p1, p2, p3, rfl, rfl, rfl, h0, h1, h2, h3⟩ := trodAll_four hA
  obtain ⟨rfl, rfl⟩ := trodVars_none hV
  have h0k := h0
  have h1k := h1
  have h2k := h2
  have h3k := h3
  obtain ⟨b0, rfl, -⟩ := open_bool Tryz.underlying4 (hval 0 4 v0 rfl rfl) h0
  obtain ⟨b1, rfl, -⟩ := open_bool Tryz.underlying4 (hval 1 4 v1 rfl rfl) h1
  obtain ⟨a, len, cap, rfl⟩ := okWide_slice Tryz.underlying22 (hval 2 22 v2 rfl rfl)
  obtain ⟨a2, len2, cap2, rfl⟩ := okWide_slice Tryz.underlying22 (hval 3 22 v3 rfl rfl)
  obtain ⟨fuel, h2f⟩ := h2
  obtain ⟨l, hl, hl0⟩ := open_steps h2f
  obtain ⟨fuel3, h3f⟩ := h3
  obtain ⟨o, ho, ho0⟩ := open_steps h3f
  obtain ⟨pp, hp, hB⟩ := sent_of_laid hL
  simp only [List.append_nil] at hW'
  refine (btwice_run hp hB hl hl0 ho ho0).mono fun e W' ⟨hr, hx⟩ => ?_
  subst hr
  have hlt0 : ∀ x ∈ p0, x.block < W.heap.size := fun x hx => hW'.lt x (by simp [hx])
  have hlt1 : ∀ x ∈ p1, x.block < W.heap.size := fun x hx => hW'.lt x (by simp [hx])
  have hlt2 : ∀ x ∈ p2, x.block < W.heap.size := fun x hx => hW'.lt x (by simp [hx])
  have hlt3 : ∀ x ∈ p3, x.block < W.heap.size := fun x hx => hW'.lt x (by simp [hx])
  refine ⟨_, rfl, _, _, _, [], p0 ++ p1 ++ p2 ++ p3, [], hW', trodAll_mk1 (shut_bool Tryz.underlying4 true), ?_, rfl, keptBut_of_ext hx, fun h => by cases h⟩
  simp only [List.append_assoc]
  exact trodAll_mk4 (trod_ext (by kernel_rfl) (of_decide_eq_true (by kernel_rfl)) h0k hx hlt0) (trod_ext (by kernel_rfl) (of_decide_eq_true (by kernel_rfl)) h1k hx hlt1) (trod_ext (by kernel_rfl) (of_decide_eq_true (by kernel_rfl)) h2k hx hlt2) (trod_ext (by kernel_rfl) (of_decide_eq_true (by kernel_rfl)) h3k hx hlt3)

theorem btwice_said : Rows.FnBuildTwiceSaid :=
  OpenClaim.holds_of_wide 7 Tryz.f7 rfl rfl rfl rfl rfl rfl rfl ⟨rfl, rfl, rfl, rfl, rfl⟩ rfl rfl rfl rfl rfl (by kernel_rfl) Tryz.func7 (by kernel_rfl)
    (of_decide_eq_true (by kernel_rfl)) (by unfold Func.isWrapper; first | (rw [if_pos (by decide +kernel)]; kernel_rfl) | (rw [if_neg (by decide +kernel)]; exact ⟨rfl, rfl⟩))
    (fun os started H enc _ => btwice_lifted os started H enc)

theorem btwice_plain (f : FuncId) (fn : Func) (hf : Tryz.pinned.checked.prog.funcNamed "pub-mycorrhiza/laws.FnBuildTwice" = some f) (hfn : Tryz.pinned.checked.prog.funcs[f]? = some fn) :
    true = Tryz.pinned.checked.prog.looks [] ∧ ∀ (j : Nat) t, fn.params[j]? = some t → Tryz.pinned.checked.prog.wantsStandIn t = false := by
  obtain rfl : f = 7 := Option.some.inj ((show Tryz.prog.funcNamed "pub-mycorrhiza/laws.FnBuildTwice" = some 7 by kernel_rfl).symm.trans hf) |>.symm
  obtain rfl : fn = Tryz.f7 := (Option.some.inj (Tryz.func7.symm.trans hfn)).symm
  refine ⟨by kernel_rfl, fun j t ht => ?_⟩
  rw [Tryz.params7] at ht
  have hm : t ∈ [4, 4, 22, 22] := by simpa using Array.mem_of_getElem? ht
  have hall : ([4, 4, 22, 22].all fun u => !Tryz.prog.wantsStandIn u) = true := by kernel_rfl
  exact (show Tryz.prog.wantsStandIn t = false by simpa using List.all_eq_true.1 hall t hm)

theorem btwice_card : Rows.FnBuildTwiceCardSaid :=
  Claim7.holds_tied_plain_at .later [] _ _ _ _ btwice_said (fun _ h => by cases h) (by kernel_rfl) (fun _ h => by cases h) fnBuildTwice_row_tie rfl ⟨rfl, rfl⟩ (by kernel_rfl) rfl btwice_plain (by kernel_rfl)
#print axioms btwice_card
end Go.Proofs.YtcenebjdhbdejaaGreatDoor
