/-
  DERIVED. GIVEN WITH THE SEED: THE CARDS: each row of YtelkphcbopbhoaaGreatDoorRows.lean that lists a variable, with what it lists TIED to the program's text (the seventh form; the later family's looks); each row that meets fmt, with fmt's text TOLD by the authors' own Lean function (tested against real Go, not proved from fmt's source: count such statements apart). THE CARD IS WHAT COUNTS. Prove the row's statement (the work); the ties are given (YtelkphcbopbhoaaGreatDoorTie.lean); close each card by the builder's one call (the guide's Derived/Test/ToyasCard.lean, 'card_holds'). Laid BY PROGRAM, IN A SANDBOX (cutbox-door.mjs). By AI agents, Wed Nov 11 2026. No macro, syntax, notation, axiom, sorry.
-/
import Derived.Test.YtelkphcbopbhoaaGreatDoorRows
import GoSem.ClaimSeven
namespace Go.Proofs.YtelkphcbopbhoaaGreatDoor
namespace Rows

/-- THE TIED CARD OF 'laws.FnMaster'. -/
def fnMasterCard : Claim7 := { stood := { row := fnMasterRow, standIns := [], harness := (true, "3f971b8398f0066cb79e75debdaf446531430605e821748d34a22db0ccb89373"), looks := true }, kinds := [], alts := [], laidByText := true, laidKinds := [.data, .data, .widerDeep, .data, .data, .sentinel, .data, .data], laidTests := true, laidLooks := .later }
def FnMasterCardSaid : Prop := Claim7.holds Tryz.pinned (.plain (OpenSpec.ofChange fnMasterSpec)) fnMasterCard

/-- THE SECOND FORM's CARD OF 'laws.FnMaster'. -/
def fnMasterUptoCard : Claim7 := { stood := { row := fnMasterUptoRow, standIns := [], harness := (true, "3f971b8398f0066cb79e75debdaf446531430605e821748d34a22db0ccb89373"), looks := true }, kinds := [], alts := [], laidByText := true, laidKinds := [.data, .data, .widerDeep, .data, .data, .sentinel, .data, .data], laidTests := true, laidLooks := .later }
def FnMasterUptoCardSaid : Prop := Claim7.holds Tryz.pinned (.plain (OpenSpec.upto fnMasterSpec)) fnMasterUptoCard
end Rows
end Go.Proofs.YtelkphcbopbhoaaGreatDoor
