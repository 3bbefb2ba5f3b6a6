/-
  DERIVED. GIVEN WITH THE SEED: THE CARDS: each row of YtjbaobnhfalceaaGreatDoorRows.lean that lists a variable, with what it lists TIED to the program's text (the seventh form; the later family's looks); each row that meets fmt, with fmt's text TOLD by the authors' own Lean function (tested against real Go, not proved from fmt's source: count such statements apart). THE CARD IS WHAT COUNTS. Prove the row's statement (the work); the ties are given (YtjbaobnhfalceaaGreatDoorTie.lean); close each card by the builder's one call (the guide's Derived/Test/ToyasCard.lean, 'card_holds'). Laid BY PROGRAM, IN A SANDBOX (cutbox-door.mjs). By AI agents, Wed Nov 11 2026. No macro, syntax, notation, axiom, sorry.
-/
import Derived.Test.YtjbaobnhfalceaaGreatDoorRows
import GoSem.ClaimSeven
namespace Go.Proofs.YtjbaobnhfalceaaGreatDoor
namespace Rows

/-- THE TIED CARD OF 'laws.FnPeerBasesWrong'. -/
def fnPeerBasesWrongCard : Claim7 := { stood := { row := fnPeerBasesWrongRow, standIns := [], harness := (true, "998712b8fd6ee76a09ec9a0f22913d387a9854972487f2afea6cc7357862583a"), looks := true }, kinds := [], alts := [], laidByText := true, laidKinds := [.data, .data, .data, .data, .sentinel, .sentinel, .sentinel, .sentinel, .sentinel, .sentinel, .data, .sentinel, .sentinel, .sentinel, .sentinel, .sentinel, .sentinel, .pinned], laidTests := true, laidLooks := .later }
def FnPeerBasesWrongCardSaid : Prop := Claim7.holds Tryz.pinned (.plain (OpenSpec.ofChange fnPeerBasesWrongSpec)) fnPeerBasesWrongCard

/-- THE TIED CARD OF 'laws.FnPeerCutText'. -/
def fnPeerCutTextCard : Claim7 := { stood := { row := fnPeerCutTextRow, standIns := [], harness := (true, "998712b8fd6ee76a09ec9a0f22913d387a9854972487f2afea6cc7357862583a"), looks := true }, kinds := [], alts := [], laidByText := true, laidKinds := [.data, .data, .data, .data, .sentinel, .sentinel, .sentinel, .sentinel, .sentinel, .sentinel, .data, .sentinel, .sentinel, .sentinel, .sentinel, .sentinel, .sentinel, .pinned], laidTests := true, laidLooks := .later }
def FnPeerCutTextCardSaid : Prop := Claim7.holds Tryz.pinned (.plain (OpenSpec.ofChange fnPeerCutTextSpec)) fnPeerCutTextCard

/-- THE TIED CARD OF 'laws.FnPeerWrongText'. -/
def fnPeerWrongTextCard : Claim7 := { stood := { row := fnPeerWrongTextRow, standIns := [], harness := (true, "998712b8fd6ee76a09ec9a0f22913d387a9854972487f2afea6cc7357862583a"), looks := true }, kinds := [], alts := [], laidByText := true, laidKinds := [.data, .data, .data, .data, .sentinel, .sentinel, .sentinel, .sentinel, .sentinel, .sentinel, .data, .sentinel, .sentinel, .sentinel, .sentinel, .sentinel, .sentinel, .pinned], laidTests := true, laidLooks := .later }
def FnPeerWrongTextCardSaid : Prop := Claim7.holds Tryz.pinned (.plain (OpenSpec.ofChange fnPeerWrongTextSpec)) fnPeerWrongTextCard

/-- THE SECOND FORM's CARD OF 'laws.FnPeerBasesWrong'. -/
def fnPeerBasesWrongUptoCard : Claim7 := { stood := { row := fnPeerBasesWrongUptoRow, standIns := [], harness := (true, "998712b8fd6ee76a09ec9a0f22913d387a9854972487f2afea6cc7357862583a"), looks := true }, kinds := [], alts := [], laidByText := true, laidKinds := [.data, .data, .data, .data, .sentinel, .sentinel, .sentinel, .sentinel, .sentinel, .sentinel, .data, .sentinel, .sentinel, .sentinel, .sentinel, .sentinel, .sentinel, .pinned], laidTests := true, laidLooks := .later }
def FnPeerBasesWrongUptoCardSaid : Prop := Claim7.holds Tryz.pinned (.plain (OpenSpec.upto fnPeerBasesWrongSpec)) fnPeerBasesWrongUptoCard

/-- THE SECOND FORM's CARD OF 'laws.FnPeerCutText'. -/
def fnPeerCutTextUptoCard : Claim7 := { stood := { row := fnPeerCutTextUptoRow, standIns := [], harness := (true, "998712b8fd6ee76a09ec9a0f22913d387a9854972487f2afea6cc7357862583a"), looks := true }, kinds := [], alts := [], laidByText := true, laidKinds := [.data, .data, .data, .data, .sentinel, .sentinel, .sentinel, .sentinel, .sentinel, .sentinel, .data, .sentinel, .sentinel, .sentinel, .sentinel, .sentinel, .sentinel, .pinned], laidTests := true, laidLooks := .later }
def FnPeerCutTextUptoCardSaid : Prop := Claim7.holds Tryz.pinned (.plain (OpenSpec.upto fnPeerCutTextSpec)) fnPeerCutTextUptoCard

/-- THE SECOND FORM's CARD OF 'laws.FnPeerWrongText'. -/
def fnPeerWrongTextUptoCard : Claim7 := { stood := { row := fnPeerWrongTextUptoRow, standIns := [], harness := (true, "998712b8fd6ee76a09ec9a0f22913d387a9854972487f2afea6cc7357862583a"), looks := true }, kinds := [], alts := [], laidByText := true, laidKinds := [.data, .data, .data, .data, .sentinel, .sentinel, .sentinel, .sentinel, .sentinel, .sentinel, .data, .sentinel, .sentinel, .sentinel, .sentinel, .sentinel, .sentinel, .pinned], laidTests := true, laidLooks := .later }
def FnPeerWrongTextUptoCardSaid : Prop := Claim7.holds Tryz.pinned (.plain (OpenSpec.upto fnPeerWrongTextSpec)) fnPeerWrongTextUptoCard
end Rows
end Go.Proofs.YtjbaobnhfalceaaGreatDoor
