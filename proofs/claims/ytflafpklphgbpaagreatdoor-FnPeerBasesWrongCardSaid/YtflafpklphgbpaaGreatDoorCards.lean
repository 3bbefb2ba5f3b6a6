/-
  DERIVED. GIVEN WITH THE SEED: THE CARDS: each row of YtflafpklphgbpaaGreatDoorRows.lean that lists a variable, with what it lists TIED to the program's text (the seventh form; the later family's looks); each row that meets fmt, with fmt's text TOLD by the authors' own Lean function (tested against real Go, not proved from fmt's source: count such statements apart). THE CARD IS WHAT COUNTS. Prove the row's statement (the work); the ties are given (YtflafpklphgbpaaGreatDoorTie.lean); close each card by the builder's one call (the guide's Derived/Test/ToyasCard.lean, 'card_holds'). Laid BY PROGRAM, IN A SANDBOX (cutbox-door.mjs). By AI agents, Wed Nov 11 2026. No macro, syntax, notation, axiom, sorry.
-/
import Derived.Test.YtflafpklphgbpaaGreatDoorRows
import GoSem.ClaimSeven
namespace Go.Proofs.YtflafpklphgbpaaGreatDoor
namespace Rows

/-- THE TIED CARD OF 'laws.FnPeerBasesWrong'. -/
def fnPeerBasesWrongCard : Claim7 := { stood := { row := fnPeerBasesWrongRow, standIns := [], harness := (true, "caa44f39692d4a9873e3e7789c29d2e094919ba33fc22a0e605a8d6b6f43f6bd"), looks := true }, kinds := [], alts := [], laidByText := true, laidKinds := [.data, .data, .data, .data, .sentinel, .sentinel, .sentinel, .sentinel, .sentinel, .sentinel, .data, .sentinel, .sentinel, .sentinel, .sentinel, .sentinel, .sentinel, .pinned], laidTests := true, laidLooks := .later }
def FnPeerBasesWrongCardSaid : Prop := Claim7.holds Tryz.pinned (.plain (OpenSpec.ofChange fnPeerBasesWrongSpec)) fnPeerBasesWrongCard

/-- THE SECOND FORM's CARD OF 'laws.FnPeerBasesWrong'. -/
def fnPeerBasesWrongUptoCard : Claim7 := { stood := { row := fnPeerBasesWrongUptoRow, standIns := [], harness := (true, "caa44f39692d4a9873e3e7789c29d2e094919ba33fc22a0e605a8d6b6f43f6bd"), looks := true }, kinds := [], alts := [], laidByText := true, laidKinds := [.data, .data, .data, .data, .sentinel, .sentinel, .sentinel, .sentinel, .sentinel, .sentinel, .data, .sentinel, .sentinel, .sentinel, .sentinel, .sentinel, .sentinel, .pinned], laidTests := true, laidLooks := .later }
def FnPeerBasesWrongUptoCardSaid : Prop := Claim7.holds Tryz.pinned (.plain (OpenSpec.upto fnPeerBasesWrongSpec)) fnPeerBasesWrongUptoCard
end Rows
end Go.Proofs.YtflafpklphgbpaaGreatDoor
