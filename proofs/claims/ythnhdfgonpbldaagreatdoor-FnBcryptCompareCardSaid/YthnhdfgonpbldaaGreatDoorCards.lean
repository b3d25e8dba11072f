/-
  DERIVED. GIVEN WITH THE SEED: THE CARDS: each row of YthnhdfgonpbldaaGreatDoorRows.lean that lists a variable, with what it lists TIED to the program's text (the seventh form; the later family's looks); each row that meets fmt, with fmt's text TOLD by the authors' own Lean function (tested against real Go, not proved from fmt's source: count such statements apart). THE CARD IS WHAT COUNTS. Prove the row's statement (the work); the ties are given (YthnhdfgonpbldaaGreatDoorTie.lean); close each card by the builder's one call (the guide's Derived/Test/ToyasCard.lean, 'card_holds'). Laid BY PROGRAM, IN A SANDBOX (cutbox-door.mjs). By AI agents, Wed Nov 11 2026. No macro, syntax, notation, axiom, sorry.
-/
import Derived.Test.YthnhdfgonpbldaaGreatDoorRows
import GoSem.ClaimSeven
namespace Go.Proofs.YthnhdfgonpbldaaGreatDoor
namespace Rows

/-- THE TIED CARD OF 'laws.FnBcryptCompare'. -/
def fnBcryptCompareCard : Claim7 := { stood := { row := fnBcryptCompareRow, standIns := [], harness := (true, "73b7133eb6d8d7ad557006580b115f19d52fd1509f78f946d701756d158b52d2"), looks := true }, kinds := [], alts := [], laidByText := true, laidKinds := [.data, .data, .data, .data, .data, .sentinel, .sentinel, .sentinel, .sentinel, .data, .data, .data, .data, .handle], laidTests := true, laidLooks := .later }
def FnBcryptCompareCardSaid : Prop := Claim7.holds Tryz.pinned (.plain (OpenSpec.ofChange fnBcryptCompareSpec)) fnBcryptCompareCard

/-- THE TIED CARD OF 'laws.FnBcryptOther'. -/
def fnBcryptOtherCard : Claim7 := { stood := { row := fnBcryptOtherRow, standIns := [], harness := (true, "73b7133eb6d8d7ad557006580b115f19d52fd1509f78f946d701756d158b52d2"), looks := true }, kinds := [], alts := [], laidByText := true, laidKinds := [.data, .data, .data, .data, .data, .data, .sentinel, .sentinel, .sentinel, .sentinel, .data, .data, .data, .handle], laidTests := true, laidLooks := .later }
def FnBcryptOtherCardSaid : Prop := Claim7.holds Tryz.pinned (.plain (OpenSpec.ofChange fnBcryptOtherSpec)) fnBcryptOtherCard

/-- THE TIED CARD OF 'laws.FnBcryptRefuses'. -/
def fnBcryptRefusesCard : Claim7 := { stood := { row := fnBcryptRefusesRow, standIns := [], harness := (true, "73b7133eb6d8d7ad557006580b115f19d52fd1509f78f946d701756d158b52d2"), looks := true }, kinds := [], alts := [], laidByText := true, laidKinds := [.sentinel, .sentinel, .sentinel, .data, .data, .data, .sentinel, .handle, .data, .data, .data, .data, .data, .data], laidTests := true, laidLooks := .later }
def FnBcryptRefusesCardSaid : Prop := Claim7.holds Tryz.pinned (.plain (OpenSpec.ofChange fnBcryptRefusesSpec)) fnBcryptRefusesCard

/-- THE TIED CARD OF 'laws.FnBcryptMatches'. -/
def fnBcryptMatchesCard : Claim7 := { stood := { row := fnBcryptMatchesRow, standIns := [], harness := (true, "73b7133eb6d8d7ad557006580b115f19d52fd1509f78f946d701756d158b52d2"), looks := true }, kinds := [], alts := [], laidByText := true, laidKinds := [.data, .data, .data, .data, .data, .data, .sentinel, .sentinel, .sentinel, .data, .data, .data, .sentinel, .handle], laidTests := true, laidLooks := .later }
def FnBcryptMatchesCardSaid : Prop := Claim7.holds Tryz.pinned (.plain (OpenSpec.ofChange fnBcryptMatchesSpec)) fnBcryptMatchesCard

/-- THE SECOND FORM's CARD OF 'laws.FnBcryptCompare'. -/
def fnBcryptCompareUptoCard : Claim7 := { stood := { row := fnBcryptCompareUptoRow, standIns := [], harness := (true, "73b7133eb6d8d7ad557006580b115f19d52fd1509f78f946d701756d158b52d2"), looks := true }, kinds := [], alts := [], laidByText := true, laidKinds := [.data, .data, .data, .data, .data, .sentinel, .sentinel, .sentinel, .sentinel, .data, .data, .data, .data, .handle], laidTests := true, laidLooks := .later }
def FnBcryptCompareUptoCardSaid : Prop := Claim7.holds Tryz.pinned (.plain (OpenSpec.upto fnBcryptCompareSpec)) fnBcryptCompareUptoCard

/-- THE SECOND FORM's CARD OF 'laws.FnBcryptOther'. -/
def fnBcryptOtherUptoCard : Claim7 := { stood := { row := fnBcryptOtherUptoRow, standIns := [], harness := (true, "73b7133eb6d8d7ad557006580b115f19d52fd1509f78f946d701756d158b52d2"), looks := true }, kinds := [], alts := [], laidByText := true, laidKinds := [.data, .data, .data, .data, .data, .data, .sentinel, .sentinel, .sentinel, .sentinel, .data, .data, .data, .handle], laidTests := true, laidLooks := .later }
def FnBcryptOtherUptoCardSaid : Prop := Claim7.holds Tryz.pinned (.plain (OpenSpec.upto fnBcryptOtherSpec)) fnBcryptOtherUptoCard

/-- THE SECOND FORM's CARD OF 'laws.FnBcryptRefuses'. -/
def fnBcryptRefusesUptoCard : Claim7 := { stood := { row := fnBcryptRefusesUptoRow, standIns := [], harness := (true, "73b7133eb6d8d7ad557006580b115f19d52fd1509f78f946d701756d158b52d2"), looks := true }, kinds := [], alts := [], laidByText := true, laidKinds := [.sentinel, .sentinel, .sentinel, .data, .data, .data, .sentinel, .handle, .data, .data, .data, .data, .data, .data], laidTests := true, laidLooks := .later }
def FnBcryptRefusesUptoCardSaid : Prop := Claim7.holds Tryz.pinned (.plain (OpenSpec.upto fnBcryptRefusesSpec)) fnBcryptRefusesUptoCard

/-- THE SECOND FORM's CARD OF 'laws.FnBcryptMatches'. -/
def fnBcryptMatchesUptoCard : Claim7 := { stood := { row := fnBcryptMatchesUptoRow, standIns := [], harness := (true, "73b7133eb6d8d7ad557006580b115f19d52fd1509f78f946d701756d158b52d2"), looks := true }, kinds := [], alts := [], laidByText := true, laidKinds := [.data, .data, .data, .data, .data, .data, .sentinel, .sentinel, .sentinel, .data, .data, .data, .sentinel, .handle], laidTests := true, laidLooks := .later }
def FnBcryptMatchesUptoCardSaid : Prop := Claim7.holds Tryz.pinned (.plain (OpenSpec.upto fnBcryptMatchesSpec)) fnBcryptMatchesUptoCard
end Rows
end Go.Proofs.YthnhdfgonpbldaaGreatDoor
