/-
  DERIVED. GIVEN WITH THE SEED: THE CARDS: each row of YtcenebjdhbdejaaGreatDoorRows.lean that lists a variable, with what it lists TIED to the program's text (the seventh form; the later family's looks); each row that meets fmt, with fmt's text TOLD by the authors' own Lean function (tested against real Go, not proved from fmt's source: count such statements apart). THE CARD IS WHAT COUNTS. Prove the row's statement (the work); the ties are given (YtcenebjdhbdejaaGreatDoorTie.lean); close each card by the builder's one call (the guide's Derived/Test/ToyasCard.lean, 'card_holds'). Laid BY PROGRAM, IN A SANDBOX (cutbox-door.mjs). By AI agents, Wed Nov 11 2026. No macro, syntax, notation, axiom, sorry.
-/
import Derived.Test.YtcenebjdhbdejaaGreatDoorRows
import GoSem.ClaimSeven
namespace Go.Proofs.YtcenebjdhbdejaaGreatDoor
namespace Rows

/-- THE TIED CARD OF 'laws.FnBuild'. -/
def fnBuildCard : Claim7 := { stood := { row := fnBuildRow, standIns := [], harness := (true, "30adc5e7b8c63c4d0cc0fba5c68f446d1f72902587a672a12015493004e08a13"), looks := true }, kinds := [], alts := [], laidByText := true, laidKinds := [.sentinel, .sentinel, .sentinel, .sentinel, .sentinel, .sentinel], laidTests := true, laidLooks := .later }
def FnBuildCardSaid : Prop := Claim7.holds Tryz.pinned (.plain (OpenSpec.ofChange fnBuildSpec)) fnBuildCard

/-- THE TIED CARD OF 'laws.FnBuildOrder'. -/
def fnBuildOrderCard : Claim7 := { stood := { row := fnBuildOrderRow, standIns := [], harness := (true, "30adc5e7b8c63c4d0cc0fba5c68f446d1f72902587a672a12015493004e08a13"), looks := true }, kinds := [], alts := [], laidByText := true, laidKinds := [.sentinel, .sentinel, .sentinel, .sentinel, .sentinel, .sentinel], laidTests := true, laidLooks := .later }
def FnBuildOrderCardSaid : Prop := Claim7.holds Tryz.pinned (.plain (OpenSpec.ofChange fnBuildOrderSpec)) fnBuildOrderCard

/-- THE TIED CARD OF 'laws.FnBuildPrevented'. -/
def fnBuildPreventedCard : Claim7 := { stood := { row := fnBuildPreventedRow, standIns := [], harness := (true, "30adc5e7b8c63c4d0cc0fba5c68f446d1f72902587a672a12015493004e08a13"), looks := true }, kinds := [], alts := [], laidByText := true, laidKinds := [.sentinel, .sentinel, .sentinel, .sentinel, .sentinel, .sentinel], laidTests := true, laidLooks := .later }
def FnBuildPreventedCardSaid : Prop := Claim7.holds Tryz.pinned (.plain (OpenSpec.ofChange fnBuildPreventedSpec)) fnBuildPreventedCard

/-- THE TIED CARD OF 'laws.FnBuildFrom'. -/
def fnBuildFromCard : Claim7 := { stood := { row := fnBuildFromRow, standIns := [], harness := (true, "30adc5e7b8c63c4d0cc0fba5c68f446d1f72902587a672a12015493004e08a13"), looks := true }, kinds := [], alts := [], laidByText := true, laidKinds := [.sentinel, .sentinel, .sentinel, .sentinel, .sentinel, .sentinel], laidTests := true, laidLooks := .later }
def FnBuildFromCardSaid : Prop := Claim7.holds Tryz.pinned (.plain (OpenSpec.ofChange fnBuildFromSpec)) fnBuildFromCard

/-- THE TIED CARD OF 'laws.FnBuildTwice'. -/
def fnBuildTwiceCard : Claim7 := { stood := { row := fnBuildTwiceRow, standIns := [], harness := (true, "30adc5e7b8c63c4d0cc0fba5c68f446d1f72902587a672a12015493004e08a13"), looks := true }, kinds := [], alts := [], laidByText := true, laidKinds := [.sentinel, .sentinel, .sentinel, .sentinel, .sentinel, .sentinel], laidTests := true, laidLooks := .later }
def FnBuildTwiceCardSaid : Prop := Claim7.holds Tryz.pinned (.plain (OpenSpec.ofChange fnBuildTwiceSpec)) fnBuildTwiceCard

/-- THE TIED CARD OF 'laws.FnBuildClone'. -/
def fnBuildCloneCard : Claim7 := { stood := { row := fnBuildCloneRow, standIns := [], harness := (true, "30adc5e7b8c63c4d0cc0fba5c68f446d1f72902587a672a12015493004e08a13"), looks := true }, kinds := [], alts := [], laidByText := true, laidKinds := [.sentinel, .sentinel, .sentinel, .sentinel, .sentinel, .sentinel], laidTests := true, laidLooks := .later }
def FnBuildCloneCardSaid : Prop := Claim7.holds Tryz.pinned (.plain (OpenSpec.ofChange fnBuildCloneSpec)) fnBuildCloneCard

/-- THE SECOND FORM's CARD OF 'laws.FnBuild'. -/
def fnBuildUptoCard : Claim7 := { stood := { row := fnBuildUptoRow, standIns := [], harness := (true, "30adc5e7b8c63c4d0cc0fba5c68f446d1f72902587a672a12015493004e08a13"), looks := true }, kinds := [], alts := [], laidByText := true, laidKinds := [.sentinel, .sentinel, .sentinel, .sentinel, .sentinel, .sentinel], laidTests := true, laidLooks := .later }
def FnBuildUptoCardSaid : Prop := Claim7.holds Tryz.pinned (.plain (OpenSpec.upto fnBuildSpec)) fnBuildUptoCard

/-- THE SECOND FORM's CARD OF 'laws.FnBuildOrder'. -/
def fnBuildOrderUptoCard : Claim7 := { stood := { row := fnBuildOrderUptoRow, standIns := [], harness := (true, "30adc5e7b8c63c4d0cc0fba5c68f446d1f72902587a672a12015493004e08a13"), looks := true }, kinds := [], alts := [], laidByText := true, laidKinds := [.sentinel, .sentinel, .sentinel, .sentinel, .sentinel, .sentinel], laidTests := true, laidLooks := .later }
def FnBuildOrderUptoCardSaid : Prop := Claim7.holds Tryz.pinned (.plain (OpenSpec.upto fnBuildOrderSpec)) fnBuildOrderUptoCard

/-- THE SECOND FORM's CARD OF 'laws.FnBuildPrevented'. -/
def fnBuildPreventedUptoCard : Claim7 := { stood := { row := fnBuildPreventedUptoRow, standIns := [], harness := (true, "30adc5e7b8c63c4d0cc0fba5c68f446d1f72902587a672a12015493004e08a13"), looks := true }, kinds := [], alts := [], laidByText := true, laidKinds := [.sentinel, .sentinel, .sentinel, .sentinel, .sentinel, .sentinel], laidTests := true, laidLooks := .later }
def FnBuildPreventedUptoCardSaid : Prop := Claim7.holds Tryz.pinned (.plain (OpenSpec.upto fnBuildPreventedSpec)) fnBuildPreventedUptoCard

/-- THE SECOND FORM's CARD OF 'laws.FnBuildFrom'. -/
def fnBuildFromUptoCard : Claim7 := { stood := { row := fnBuildFromUptoRow, standIns := [], harness := (true, "30adc5e7b8c63c4d0cc0fba5c68f446d1f72902587a672a12015493004e08a13"), looks := true }, kinds := [], alts := [], laidByText := true, laidKinds := [.sentinel, .sentinel, .sentinel, .sentinel, .sentinel, .sentinel], laidTests := true, laidLooks := .later }
def FnBuildFromUptoCardSaid : Prop := Claim7.holds Tryz.pinned (.plain (OpenSpec.upto fnBuildFromSpec)) fnBuildFromUptoCard

/-- THE SECOND FORM's CARD OF 'laws.FnBuildTwice'. -/
def fnBuildTwiceUptoCard : Claim7 := { stood := { row := fnBuildTwiceUptoRow, standIns := [], harness := (true, "30adc5e7b8c63c4d0cc0fba5c68f446d1f72902587a672a12015493004e08a13"), looks := true }, kinds := [], alts := [], laidByText := true, laidKinds := [.sentinel, .sentinel, .sentinel, .sentinel, .sentinel, .sentinel], laidTests := true, laidLooks := .later }
def FnBuildTwiceUptoCardSaid : Prop := Claim7.holds Tryz.pinned (.plain (OpenSpec.upto fnBuildTwiceSpec)) fnBuildTwiceUptoCard

/-- THE SECOND FORM's CARD OF 'laws.FnBuildClone'. -/
def fnBuildCloneUptoCard : Claim7 := { stood := { row := fnBuildCloneUptoRow, standIns := [], harness := (true, "30adc5e7b8c63c4d0cc0fba5c68f446d1f72902587a672a12015493004e08a13"), looks := true }, kinds := [], alts := [], laidByText := true, laidKinds := [.sentinel, .sentinel, .sentinel, .sentinel, .sentinel, .sentinel], laidTests := true, laidLooks := .later }
def FnBuildCloneUptoCardSaid : Prop := Claim7.holds Tryz.pinned (.plain (OpenSpec.upto fnBuildCloneSpec)) fnBuildCloneUptoCard
end Rows
end Go.Proofs.YtcenebjdhbdejaaGreatDoor
