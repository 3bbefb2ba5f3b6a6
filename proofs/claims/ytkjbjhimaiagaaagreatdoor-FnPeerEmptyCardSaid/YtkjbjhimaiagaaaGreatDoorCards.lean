/-
  DERIVED. GIVEN WITH THE SEED: THE CARDS: each row of YtkjbjhimaiagaaaGreatDoorRows.lean that lists a variable, with what it lists TIED to the program's text (the seventh form; the later family's looks); each row that meets fmt, with fmt's text TOLD by the authors' own Lean function (tested against real Go, not proved from fmt's source: count such statements apart). THE CARD IS WHAT COUNTS. Prove the row's statement (the work); the ties are given (YtkjbjhimaiagaaaGreatDoorTie.lean); close each card by the builder's one call (the guide's Derived/Test/ToyasCard.lean, 'card_holds'). Laid BY PROGRAM, IN A SANDBOX (cutbox-door.mjs). By AI agents, Wed Nov 11 2026. No macro, syntax, notation, axiom, sorry.
-/
import Derived.Test.YtkjbjhimaiagaaaGreatDoorRows
import GoSem.ClaimSeven
namespace Go.Proofs.YtkjbjhimaiagaaaGreatDoor
namespace Rows

/-- THE TIED CARD OF 'laws.FnPeerBasesWrong'. -/
def fnPeerBasesWrongCard : Claim7 := { stood := { row := fnPeerBasesWrongRow, standIns := [], harness := (true, "c99e14c89164fbefed6098ab746e38431bdbe56ab7288eeb7393138f90d5e6e8"), looks := true }, kinds := [], alts := [], laidByText := true, laidKinds := [.data, .data, .data, .data, .sentinel, .sentinel, .sentinel, .sentinel, .sentinel, .sentinel, .data, .sentinel, .sentinel, .sentinel, .sentinel, .sentinel, .sentinel, .pinned], laidTests := true, laidLooks := .later }
def FnPeerBasesWrongCardSaid : Prop := Claim7.holds Tryz.pinned (.plain (OpenSpec.ofChange fnPeerBasesWrongSpec)) fnPeerBasesWrongCard

/-- THE TIED CARD OF 'laws.FnPeerCutText'. -/
def fnPeerCutTextCard : Claim7 := { stood := { row := fnPeerCutTextRow, standIns := [], harness := (true, "c99e14c89164fbefed6098ab746e38431bdbe56ab7288eeb7393138f90d5e6e8"), looks := true }, kinds := [], alts := [], laidByText := true, laidKinds := [.data, .data, .data, .data, .sentinel, .sentinel, .sentinel, .sentinel, .sentinel, .sentinel, .data, .sentinel, .sentinel, .sentinel, .sentinel, .sentinel, .sentinel, .pinned], laidTests := true, laidLooks := .later }
def FnPeerCutTextCardSaid : Prop := Claim7.holds Tryz.pinned (.plain (OpenSpec.ofChange fnPeerCutTextSpec)) fnPeerCutTextCard

/-- THE TIED CARD OF 'laws.FnPeerWrongText'. -/
def fnPeerWrongTextCard : Claim7 := { stood := { row := fnPeerWrongTextRow, standIns := [], harness := (true, "c99e14c89164fbefed6098ab746e38431bdbe56ab7288eeb7393138f90d5e6e8"), looks := true }, kinds := [], alts := [], laidByText := true, laidKinds := [.data, .data, .data, .data, .sentinel, .sentinel, .sentinel, .sentinel, .sentinel, .sentinel, .data, .sentinel, .sentinel, .sentinel, .sentinel, .sentinel, .sentinel, .pinned], laidTests := true, laidLooks := .later }
def FnPeerWrongTextCardSaid : Prop := Claim7.holds Tryz.pinned (.plain (OpenSpec.ofChange fnPeerWrongTextSpec)) fnPeerWrongTextCard

/-- THE TIED CARD OF 'laws.FnPeerEmpty'. -/
def fnPeerEmptyCard : Claim7 := { stood := { row := fnPeerEmptyRow, standIns := [], harness := (true, "c99e14c89164fbefed6098ab746e38431bdbe56ab7288eeb7393138f90d5e6e8"), looks := true }, kinds := [], alts := [], laidByText := true, laidKinds := [.data, .data, .data, .data, .sentinel, .sentinel, .sentinel, .sentinel, .sentinel, .sentinel, .data, .sentinel, .sentinel, .sentinel, .sentinel, .sentinel, .sentinel, .sentinel, .pinned], laidTests := true, laidLooks := .later }
def FnPeerEmptyCardSaid : Prop := Claim7.holds Tryz.pinned (.plain (OpenSpec.ofChange fnPeerEmptySpec)) fnPeerEmptyCard

/-- THE SECOND FORM's CARD OF 'laws.FnPeerBasesWrong'. -/
def fnPeerBasesWrongUptoCard : Claim7 := { stood := { row := fnPeerBasesWrongUptoRow, standIns := [], harness := (true, "c99e14c89164fbefed6098ab746e38431bdbe56ab7288eeb7393138f90d5e6e8"), looks := true }, kinds := [], alts := [], laidByText := true, laidKinds := [.data, .data, .data, .data, .sentinel, .sentinel, .sentinel, .sentinel, .sentinel, .sentinel, .data, .sentinel, .sentinel, .sentinel, .sentinel, .sentinel, .sentinel, .pinned], laidTests := true, laidLooks := .later }
def FnPeerBasesWrongUptoCardSaid : Prop := Claim7.holds Tryz.pinned (.plain (OpenSpec.upto fnPeerBasesWrongSpec)) fnPeerBasesWrongUptoCard

/-- THE SECOND FORM's CARD OF 'laws.FnPeerCutText'. -/
def fnPeerCutTextUptoCard : Claim7 := { stood := { row := fnPeerCutTextUptoRow, standIns := [], harness := (true, "c99e14c89164fbefed6098ab746e38431bdbe56ab7288eeb7393138f90d5e6e8"), looks := true }, kinds := [], alts := [], laidByText := true, laidKinds := [.data, .data, .data, .data, .sentinel, .sentinel, .sentinel, .sentinel, .sentinel, .sentinel, .data, .sentinel, .sentinel, .sentinel, .sentinel, .sentinel, .sentinel, .pinned], laidTests := true, laidLooks := .later }
def FnPeerCutTextUptoCardSaid : Prop := Claim7.holds Tryz.pinned (.plain (OpenSpec.upto fnPeerCutTextSpec)) fnPeerCutTextUptoCard

/-- THE SECOND FORM's CARD OF 'laws.FnPeerWrongText'. -/
def fnPeerWrongTextUptoCard : Claim7 := { stood := { row := fnPeerWrongTextUptoRow, standIns := [], harness := (true, "c99e14c89164fbefed6098ab746e38431bdbe56ab7288eeb7393138f90d5e6e8"), looks := true }, kinds := [], alts := [], laidByText := true, laidKinds := [.data, .data, .data, .data, .sentinel, .sentinel, .sentinel, .sentinel, .sentinel, .sentinel, .data, .sentinel, .sentinel, .sentinel, .sentinel, .sentinel, .sentinel, .pinned], laidTests := true, laidLooks := .later }
def FnPeerWrongTextUptoCardSaid : Prop := Claim7.holds Tryz.pinned (.plain (OpenSpec.upto fnPeerWrongTextSpec)) fnPeerWrongTextUptoCard

/-- THE SECOND FORM's CARD OF 'laws.FnPeerEmpty'. -/
def fnPeerEmptyUptoCard : Claim7 := { stood := { row := fnPeerEmptyUptoRow, standIns := [], harness := (true, "c99e14c89164fbefed6098ab746e38431bdbe56ab7288eeb7393138f90d5e6e8"), looks := true }, kinds := [], alts := [], laidByText := true, laidKinds := [.data, .data, .data, .data, .sentinel, .sentinel, .sentinel, .sentinel, .sentinel, .sentinel, .data, .sentinel, .sentinel, .sentinel, .sentinel, .sentinel, .sentinel, .sentinel, .pinned], laidTests := true, laidLooks := .later }
def FnPeerEmptyUptoCardSaid : Prop := Claim7.holds Tryz.pinned (.plain (OpenSpec.upto fnPeerEmptySpec)) fnPeerEmptyUptoCard
end Rows
end Go.Proofs.YtkjbjhimaiagaaaGreatDoor
