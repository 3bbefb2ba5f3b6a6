/-
  DERIVED. GIVEN WITH THE SEED: THE CARDS: each row of YtddofkeajinjpaaGreatDoorRows.lean that lists a variable, with what it lists TIED to the program's text (the seventh form; the later family's looks); each row that meets fmt, with fmt's text TOLD by the authors' own Lean function (tested against real Go, not proved from fmt's source: count such statements apart). THE CARD IS WHAT COUNTS. Prove the row's statement (the work); the ties are given (YtddofkeajinjpaaGreatDoorTie.lean); close each card by the builder's one call (the guide's Derived/Test/ToyasCard.lean, 'card_holds'). Laid BY PROGRAM, IN A SANDBOX (cutbox-door.mjs). By AI agents, Wed Nov 11 2026. No macro, syntax, notation, axiom, sorry.
-/
import Derived.Test.YtddofkeajinjpaaGreatDoorRows
import GoSem.ClaimSeven
namespace Go.Proofs.YtddofkeajinjpaaGreatDoor
namespace Rows

/-- THE TIED CARD OF 'laws.FnRecordEquals'. -/
def fnRecordEqualsCard : Claim7 := { stood := { row := fnRecordEqualsRow, standIns := [], harness := (true, "7903611e80af2a5f047bb3d7a5a6a3c45c555750416f4ee1f51747a0cba0882d"), looks := false }, kinds := [], alts := [], laidByText := true, laidKinds := [.sentinel, .sentinel, .sentinel, .sentinel, .sentinel, .sentinel, .sentinel, .sentinel, .sentinel, .sentinel, .sentinel, .sentinel, .sentinel], laidTests := true, laidLooks := .later }
def FnRecordEqualsCardSaid : Prop := Claim7.holds Tryz.pinned (.plain (OpenSpec.ofChange fnRecordEqualsSpec)) fnRecordEqualsCard

/-- THE SECOND FORM's CARD OF 'laws.FnRecordEquals'. -/
def fnRecordEqualsUptoCard : Claim7 := { stood := { row := fnRecordEqualsUptoRow, standIns := [], harness := (true, "7903611e80af2a5f047bb3d7a5a6a3c45c555750416f4ee1f51747a0cba0882d"), looks := false }, kinds := [], alts := [], laidByText := true, laidKinds := [.sentinel, .sentinel, .sentinel, .sentinel, .sentinel, .sentinel, .sentinel, .sentinel, .sentinel, .sentinel, .sentinel, .sentinel, .sentinel], laidTests := true, laidLooks := .later }
def FnRecordEqualsUptoCardSaid : Prop := Claim7.holds Tryz.pinned (.plain (OpenSpec.upto fnRecordEqualsSpec)) fnRecordEqualsUptoCard
end Rows
end Go.Proofs.YtddofkeajinjpaaGreatDoor
