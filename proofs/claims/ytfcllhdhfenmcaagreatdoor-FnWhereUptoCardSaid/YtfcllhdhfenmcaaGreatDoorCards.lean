/-
  DERIVED. GIVEN WITH THE SEED: THE CARDS: each row of YtfcllhdhfenmcaaGreatDoorRows.lean that lists a variable, with what it lists TIED to the program's text (the seventh form; the later family's looks); each row that meets fmt, with fmt's text TOLD by the authors' own Lean function (tested against real Go, not proved from fmt's source: count such statements apart). THE CARD IS WHAT COUNTS. Prove the row's statement (the work); the ties are given (YtfcllhdhfenmcaaGreatDoorTie.lean); close each card by the builder's one call (the guide's Derived/Test/ToyasCard.lean, 'card_holds'). Laid BY PROGRAM, IN A SANDBOX (cutbox-door.mjs). By AI agents, Wed Nov 11 2026. No macro, syntax, notation, axiom, sorry.
-/
import Derived.Test.YtfcllhdhfenmcaaGreatDoorRows
import GoSem.ClaimSeven
namespace Go.Proofs.YtfcllhdhfenmcaaGreatDoor
namespace Rows

/-- THE TIED CARD OF 'laws.FnWhere'. -/
def fnWhereCard : Claim7 := { stood := { row := fnWhereRow, standIns := [], harness := (true, "e665263dec4e6b9334b12304c3ba15abeaba493aaae049b5cd23f8be891ffc10"), looks := true }, kinds := [], alts := [], laidByText := true, laidKinds := [.data, .data, .data, .sentinel, .sentinel, .listed, .called, .called, .zero], laidTests := true, laidLooks := .later }
def FnWhereCardSaid : Prop := Claim7.holds Tryz.pinned (.plain (OpenSpec.ofChange fnWhereSpec)) fnWhereCard

/-- THE SECOND FORM's CARD OF 'laws.FnWhere'. -/
def fnWhereUptoCard : Claim7 := { stood := { row := fnWhereUptoRow, standIns := [], harness := (true, "e665263dec4e6b9334b12304c3ba15abeaba493aaae049b5cd23f8be891ffc10"), looks := true }, kinds := [], alts := [], laidByText := true, laidKinds := [.data, .data, .data, .sentinel, .sentinel, .listed, .called, .called, .zero], laidTests := true, laidLooks := .later }
def FnWhereUptoCardSaid : Prop := Claim7.holds Tryz.pinned (.plain (OpenSpec.upto fnWhereSpec)) fnWhereUptoCard
end Rows
end Go.Proofs.YtfcllhdhfenmcaaGreatDoor
