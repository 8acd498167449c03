/-
  DERIVED. GIVEN WITH THE SEED: THE CARDS: each row of YtmmmknmncdlopaaDoorRows.lean that lists a variable, with what it lists TIED to the program's text (the seventh form; the later family's looks); each row that meets fmt, with fmt's text TOLD by the authors' own Lean function (tested against real Go, not proved from fmt's source: count such statements apart). THE CARD IS WHAT COUNTS. Prove the row's statement (the work); the ties are given (YtmmmknmncdlopaaDoorTie.lean); close each card by the builder's one call (the guide's Derived/Test/ToyasCard.lean, 'card_holds'). Laid BY PROGRAM, IN A SANDBOX (cutbox-door.mjs). By AI agents, Wed Nov 11 2026. No macro, syntax, notation, axiom, sorry.
-/
import Derived.Test.YtmmmknmncdlopaaDoorRows
import GoSem.ClaimSeven
namespace Go.Proofs.YtmmmknmncdlopaaDoor
namespace Rows

/-- THE TIED CARD OF 'laws.FnStepsTurn'. -/
def fnStepsTurnCard : Claim7 := { stood := { row := fnStepsTurnRow, standIns := [], harness := (true, "a6de6644b13d6c74b6af1ec581d0c9d6459344a1f5a6fd64e10b612c570faa82"), looks := true }, kinds := [], alts := [], laidByText := true, laidKinds := [.sentinel], laidTests := true, laidLooks := .later }
def FnStepsTurnCardSaid : Prop := Claim7.holds Tryd.pinned (.plain (OpenSpec.ofChange fnStepsTurnSpec)) fnStepsTurnCard

/-- THE TIED CARD OF 'laws.FnExactNearest'. -/
def fnExactNearestCard : Claim7 := { stood := { row := fnExactNearestRow, standIns := [], harness := (true, "a6de6644b13d6c74b6af1ec581d0c9d6459344a1f5a6fd64e10b612c570faa82"), looks := true }, kinds := [], alts := [], laidByText := true, laidKinds := [.sentinel], laidTests := true, laidLooks := .later }
def FnExactNearestCardSaid : Prop := Claim7.holds Tryd.pinned (.plain (OpenSpec.ofChange fnExactNearestSpec)) fnExactNearestCard

/-- THE TIED CARD OF 'laws.FnExactNearestWithin'. -/
def fnExactNearestWithinCard : Claim7 := { stood := { row := fnExactNearestWithinRow, standIns := [], harness := (true, "a6de6644b13d6c74b6af1ec581d0c9d6459344a1f5a6fd64e10b612c570faa82"), looks := true }, kinds := [], alts := [], laidByText := true, laidKinds := [.sentinel], laidTests := true, laidLooks := .later }
def FnExactNearestWithinCardSaid : Prop := Claim7.holds Tryd.pinned (.plain (OpenSpec.ofChange fnExactNearestWithinSpec)) fnExactNearestWithinCard

/-- THE TIED CARD OF 'laws.FnExactFind'. -/
def fnExactFindCard : Claim7 := { stood := { row := fnExactFindRow, standIns := [], harness := (true, "a6de6644b13d6c74b6af1ec581d0c9d6459344a1f5a6fd64e10b612c570faa82"), looks := true }, kinds := [], alts := [], laidByText := true, laidKinds := [.sentinel], laidTests := true, laidLooks := .later }
def FnExactFindCardSaid : Prop := Claim7.holds Tryd.pinned (.plain (OpenSpec.ofChange fnExactFindSpec)) fnExactFindCard

/-- THE TIED CARD OF 'laws.FnExactFindEven'. -/
def fnExactFindEvenCard : Claim7 := { stood := { row := fnExactFindEvenRow, standIns := [], harness := (true, "a6de6644b13d6c74b6af1ec581d0c9d6459344a1f5a6fd64e10b612c570faa82"), looks := true }, kinds := [], alts := [], laidByText := true, laidKinds := [.sentinel], laidTests := true, laidLooks := .later }
def FnExactFindEvenCardSaid : Prop := Claim7.holds Tryd.pinned (.plain (OpenSpec.ofChange fnExactFindEvenSpec)) fnExactFindEvenCard

/-- THE TIED CARD OF 'laws.FnExactGrown'. -/
def fnExactGrownCard : Claim7 := { stood := { row := fnExactGrownRow, standIns := [], harness := (true, "a6de6644b13d6c74b6af1ec581d0c9d6459344a1f5a6fd64e10b612c570faa82"), looks := true }, kinds := [], alts := [], laidByText := true, laidKinds := [.sentinel], laidTests := true, laidLooks := .later }
def FnExactGrownCardSaid : Prop := Claim7.holds Tryd.pinned (.plain (OpenSpec.ofChange fnExactGrownSpec)) fnExactGrownCard

/-- THE TIED CARD OF 'laws.FnExactInBound'. -/
def fnExactInBoundCard : Claim7 := { stood := { row := fnExactInBoundRow, standIns := [], harness := (true, "a6de6644b13d6c74b6af1ec581d0c9d6459344a1f5a6fd64e10b612c570faa82"), looks := true }, kinds := [], alts := [], laidByText := true, laidKinds := [.sentinel], laidTests := true, laidLooks := .later }
def FnExactInBoundCardSaid : Prop := Claim7.holds Tryd.pinned (.plain (OpenSpec.ofChange fnExactInBoundSpec)) fnExactInBoundCard

/-- THE TIED CARD OF 'laws.FnExactInBoundEven'. -/
def fnExactInBoundEvenCard : Claim7 := { stood := { row := fnExactInBoundEvenRow, standIns := [], harness := (true, "a6de6644b13d6c74b6af1ec581d0c9d6459344a1f5a6fd64e10b612c570faa82"), looks := true }, kinds := [], alts := [], laidByText := true, laidKinds := [.sentinel], laidTests := true, laidLooks := .later }
def FnExactInBoundEvenCardSaid : Prop := Claim7.holds Tryd.pinned (.plain (OpenSpec.ofChange fnExactInBoundEvenSpec)) fnExactInBoundEvenCard

/-- THE SECOND FORM's CARD OF 'laws.FnStepsTurn'. -/
def fnStepsTurnUptoCard : Claim7 := { stood := { row := fnStepsTurnUptoRow, standIns := [], harness := (true, "a6de6644b13d6c74b6af1ec581d0c9d6459344a1f5a6fd64e10b612c570faa82"), looks := true }, kinds := [], alts := [], laidByText := true, laidKinds := [.sentinel], laidTests := true, laidLooks := .later }
def FnStepsTurnUptoCardSaid : Prop := Claim7.holds Tryd.pinned (.plain (OpenSpec.upto fnStepsTurnSpec)) fnStepsTurnUptoCard

/-- THE SECOND FORM's CARD OF 'laws.FnExactNearest'. -/
def fnExactNearestUptoCard : Claim7 := { stood := { row := fnExactNearestUptoRow, standIns := [], harness := (true, "a6de6644b13d6c74b6af1ec581d0c9d6459344a1f5a6fd64e10b612c570faa82"), looks := true }, kinds := [], alts := [], laidByText := true, laidKinds := [.sentinel], laidTests := true, laidLooks := .later }
def FnExactNearestUptoCardSaid : Prop := Claim7.holds Tryd.pinned (.plain (OpenSpec.upto fnExactNearestSpec)) fnExactNearestUptoCard

/-- THE SECOND FORM's CARD OF 'laws.FnExactNearestWithin'. -/
def fnExactNearestWithinUptoCard : Claim7 := { stood := { row := fnExactNearestWithinUptoRow, standIns := [], harness := (true, "a6de6644b13d6c74b6af1ec581d0c9d6459344a1f5a6fd64e10b612c570faa82"), looks := true }, kinds := [], alts := [], laidByText := true, laidKinds := [.sentinel], laidTests := true, laidLooks := .later }
def FnExactNearestWithinUptoCardSaid : Prop := Claim7.holds Tryd.pinned (.plain (OpenSpec.upto fnExactNearestWithinSpec)) fnExactNearestWithinUptoCard

/-- THE SECOND FORM's CARD OF 'laws.FnExactFind'. -/
def fnExactFindUptoCard : Claim7 := { stood := { row := fnExactFindUptoRow, standIns := [], harness := (true, "a6de6644b13d6c74b6af1ec581d0c9d6459344a1f5a6fd64e10b612c570faa82"), looks := true }, kinds := [], alts := [], laidByText := true, laidKinds := [.sentinel], laidTests := true, laidLooks := .later }
def FnExactFindUptoCardSaid : Prop := Claim7.holds Tryd.pinned (.plain (OpenSpec.upto fnExactFindSpec)) fnExactFindUptoCard

/-- THE SECOND FORM's CARD OF 'laws.FnExactFindEven'. -/
def fnExactFindEvenUptoCard : Claim7 := { stood := { row := fnExactFindEvenUptoRow, standIns := [], harness := (true, "a6de6644b13d6c74b6af1ec581d0c9d6459344a1f5a6fd64e10b612c570faa82"), looks := true }, kinds := [], alts := [], laidByText := true, laidKinds := [.sentinel], laidTests := true, laidLooks := .later }
def FnExactFindEvenUptoCardSaid : Prop := Claim7.holds Tryd.pinned (.plain (OpenSpec.upto fnExactFindEvenSpec)) fnExactFindEvenUptoCard

/-- THE SECOND FORM's CARD OF 'laws.FnExactGrown'. -/
def fnExactGrownUptoCard : Claim7 := { stood := { row := fnExactGrownUptoRow, standIns := [], harness := (true, "a6de6644b13d6c74b6af1ec581d0c9d6459344a1f5a6fd64e10b612c570faa82"), looks := true }, kinds := [], alts := [], laidByText := true, laidKinds := [.sentinel], laidTests := true, laidLooks := .later }
def FnExactGrownUptoCardSaid : Prop := Claim7.holds Tryd.pinned (.plain (OpenSpec.upto fnExactGrownSpec)) fnExactGrownUptoCard

/-- THE SECOND FORM's CARD OF 'laws.FnExactInBound'. -/
def fnExactInBoundUptoCard : Claim7 := { stood := { row := fnExactInBoundUptoRow, standIns := [], harness := (true, "a6de6644b13d6c74b6af1ec581d0c9d6459344a1f5a6fd64e10b612c570faa82"), looks := true }, kinds := [], alts := [], laidByText := true, laidKinds := [.sentinel], laidTests := true, laidLooks := .later }
def FnExactInBoundUptoCardSaid : Prop := Claim7.holds Tryd.pinned (.plain (OpenSpec.upto fnExactInBoundSpec)) fnExactInBoundUptoCard

/-- THE SECOND FORM's CARD OF 'laws.FnExactInBoundEven'. -/
def fnExactInBoundEvenUptoCard : Claim7 := { stood := { row := fnExactInBoundEvenUptoRow, standIns := [], harness := (true, "a6de6644b13d6c74b6af1ec581d0c9d6459344a1f5a6fd64e10b612c570faa82"), looks := true }, kinds := [], alts := [], laidByText := true, laidKinds := [.sentinel], laidTests := true, laidLooks := .later }
def FnExactInBoundEvenUptoCardSaid : Prop := Claim7.holds Tryd.pinned (.plain (OpenSpec.upto fnExactInBoundEvenSpec)) fnExactInBoundEvenUptoCard
end Rows
end Go.Proofs.YtmmmknmncdlopaaDoor
