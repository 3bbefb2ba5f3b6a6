/-
  DERIVED. GIVEN WITH THE SEED: THE CARDS: each row of YtipleaojejbkpaaDoorRows.lean that lists a variable, with what it lists TIED to the program's text (the seventh form; the later family's looks); each row that meets fmt, with fmt's text TOLD by the authors' own Lean function (tested against real Go, not proved from fmt's source: count such statements apart). THE CARD IS WHAT COUNTS. Prove the row's statement (the work); the ties are given (YtipleaojejbkpaaDoorTie.lean); close each card by the builder's one call (the guide's Derived/Test/ToyasCard.lean, 'card_holds'). Laid BY PROGRAM, IN A SANDBOX (cutbox-door.mjs). By AI agents, Wed Nov 11 2026. No macro, syntax, notation, axiom, sorry.
-/
import Derived.Test.YtipleaojejbkpaaDoorRows
import GoSem.ClaimSeven
namespace Go.Proofs.YtipleaojejbkpaaDoor
namespace Rows

/-- THE TIED CARD OF 'laws.FnKeyName'. -/
def fnKeyNameCard : Claim7 := { stood := { row := fnKeyNameRow, standIns := [], harness := (true, "f59ad7c3cb56d45eb8efd7fecfce11bb4da974b24ae0e95ef10e04413eb0e1b1"), looks := false }, kinds := [], alts := [], laidByText := true, laidKinds := [.data, .data, .data], laidTests := true, laidLooks := .later }
def FnKeyNameCardSaid : Prop := Claim7.holds Tryd.pinned (.plain (OpenSpec.ofChange fnKeyNameSpec)) fnKeyNameCard

/-- THE TIED CARD OF 'laws.FnKeyRead'. -/
def fnKeyReadCard : Claim7 := { stood := { row := fnKeyReadRow, standIns := [], harness := (true, "f59ad7c3cb56d45eb8efd7fecfce11bb4da974b24ae0e95ef10e04413eb0e1b1"), looks := false }, kinds := [], alts := [], laidByText := true, laidKinds := [.sentinel, .sentinel, .sentinel, .sentinel, .sentinel, .sentinel, .sentinel, .sentinel], laidTests := true, laidLooks := .later }
def FnKeyReadCardSaid : Prop := Claim7.holds Tryd.pinned (.plain (OpenSpec.ofChange fnKeyReadSpec)) fnKeyReadCard

/-- THE TIED CARD OF 'laws.FnKeyLast'. -/
def fnKeyLastCard : Claim7 := { stood := { row := fnKeyLastRow, standIns := [], harness := (true, "f59ad7c3cb56d45eb8efd7fecfce11bb4da974b24ae0e95ef10e04413eb0e1b1"), looks := false }, kinds := [], alts := [], laidByText := true, laidKinds := [.sentinel, .sentinel, .sentinel, .sentinel, .sentinel, .sentinel, .sentinel, .sentinel], laidTests := true, laidLooks := .later }
def FnKeyLastCardSaid : Prop := Claim7.holds Tryd.pinned (.plain (OpenSpec.ofChange fnKeyLastSpec)) fnKeyLastCard

/-- THE TIED CARD OF 'laws.FnKeyMore'. -/
def fnKeyMoreCard : Claim7 := { stood := { row := fnKeyMoreRow, standIns := [], harness := (true, "f59ad7c3cb56d45eb8efd7fecfce11bb4da974b24ae0e95ef10e04413eb0e1b1"), looks := false }, kinds := [], alts := [], laidByText := true, laidKinds := [.sentinel, .sentinel, .sentinel, .sentinel, .sentinel, .sentinel, .sentinel, .sentinel], laidTests := true, laidLooks := .later }
def FnKeyMoreCardSaid : Prop := Claim7.holds Tryd.pinned (.plain (OpenSpec.ofChange fnKeyMoreSpec)) fnKeyMoreCard

/-- THE TIED CARD OF 'laws.FnKeyWide'. -/
def fnKeyWideCard : Claim7 := { stood := { row := fnKeyWideRow, standIns := [], harness := (true, "f59ad7c3cb56d45eb8efd7fecfce11bb4da974b24ae0e95ef10e04413eb0e1b1"), looks := false }, kinds := [], alts := [], laidByText := true, laidKinds := [.sentinel, .sentinel, .sentinel, .sentinel, .sentinel, .sentinel, .sentinel, .sentinel], laidTests := true, laidLooks := .later }
def FnKeyWideCardSaid : Prop := Claim7.holds Tryd.pinned (.plain (OpenSpec.ofChange fnKeyWideSpec)) fnKeyWideCard

/-- THE TIED CARD OF 'laws.FnKeyRecordSize'. -/
def fnKeyRecordSizeCard : Claim7 := { stood := { row := fnKeyRecordSizeRow, standIns := [], harness := (true, "f59ad7c3cb56d45eb8efd7fecfce11bb4da974b24ae0e95ef10e04413eb0e1b1"), looks := false }, kinds := [], alts := [], laidByText := true, laidKinds := [.sentinel, .sentinel, .sentinel, .sentinel, .sentinel, .sentinel, .sentinel], laidTests := true, laidLooks := .later }
def FnKeyRecordSizeCardSaid : Prop := Claim7.holds Tryd.pinned (.plain (OpenSpec.ofChange fnKeyRecordSizeSpec)) fnKeyRecordSizeCard

/-- THE TIED CARD OF 'laws.FnKeyRecordRead'. -/
def fnKeyRecordReadCard : Claim7 := { stood := { row := fnKeyRecordReadRow, standIns := [], harness := (true, "f59ad7c3cb56d45eb8efd7fecfce11bb4da974b24ae0e95ef10e04413eb0e1b1"), looks := false }, kinds := [], alts := [], laidByText := true, laidKinds := [.sentinel, .sentinel, .sentinel, .sentinel, .sentinel, .sentinel, .sentinel], laidTests := true, laidLooks := .later }
def FnKeyRecordReadCardSaid : Prop := Claim7.holds Tryd.pinned (.plain (OpenSpec.ofChange fnKeyRecordReadSpec)) fnKeyRecordReadCard

/-- THE TIED CARD OF 'laws.FnKeyAddressTorn'. -/
def fnKeyAddressTornCard : Claim7 := { stood := { row := fnKeyAddressTornRow, standIns := [], harness := (true, "f59ad7c3cb56d45eb8efd7fecfce11bb4da974b24ae0e95ef10e04413eb0e1b1"), looks := false }, kinds := [], alts := [], laidByText := true, laidKinds := [.sentinel, .sentinel, .sentinel, .sentinel, .sentinel, .sentinel, .sentinel], laidTests := true, laidLooks := .later }
def FnKeyAddressTornCardSaid : Prop := Claim7.holds Tryd.pinned (.plain (OpenSpec.ofChange fnKeyAddressTornSpec)) fnKeyAddressTornCard

/-- THE TIED CARD OF 'laws.FnKeyRecordMore'. -/
def fnKeyRecordMoreCard : Claim7 := { stood := { row := fnKeyRecordMoreRow, standIns := [], harness := (true, "f59ad7c3cb56d45eb8efd7fecfce11bb4da974b24ae0e95ef10e04413eb0e1b1"), looks := false }, kinds := [], alts := [], laidByText := true, laidKinds := [.sentinel, .sentinel, .sentinel, .sentinel, .sentinel, .sentinel, .sentinel], laidTests := true, laidLooks := .later }
def FnKeyRecordMoreCardSaid : Prop := Claim7.holds Tryd.pinned (.plain (OpenSpec.ofChange fnKeyRecordMoreSpec)) fnKeyRecordMoreCard

/-- THE TIED CARD OF 'laws.FnKeyRecordTorn'. -/
def fnKeyRecordTornCard : Claim7 := { stood := { row := fnKeyRecordTornRow, standIns := [], harness := (true, "f59ad7c3cb56d45eb8efd7fecfce11bb4da974b24ae0e95ef10e04413eb0e1b1"), looks := false }, kinds := [], alts := [], laidByText := true, laidKinds := [.sentinel, .sentinel, .sentinel, .sentinel, .sentinel, .sentinel, .sentinel], laidTests := true, laidLooks := .later }
def FnKeyRecordTornCardSaid : Prop := Claim7.holds Tryd.pinned (.plain (OpenSpec.ofChange fnKeyRecordTornSpec)) fnKeyRecordTornCard

/-- THE TIED CARD OF 'laws.FnKeyEnvelopeRead'. -/
def fnKeyEnvelopeReadCard : Claim7 := { stood := { row := fnKeyEnvelopeReadRow, standIns := [], harness := (true, "f59ad7c3cb56d45eb8efd7fecfce11bb4da974b24ae0e95ef10e04413eb0e1b1"), looks := false }, kinds := [], alts := [], laidByText := true, laidKinds := [.sentinel, .sentinel, .sentinel, .sentinel, .sentinel, .sentinel, .sentinel, .sentinel, .sentinel], laidTests := true, laidLooks := .later }
def FnKeyEnvelopeReadCardSaid : Prop := Claim7.holds Tryd.pinned (.plain (OpenSpec.ofChange fnKeyEnvelopeReadSpec)) fnKeyEnvelopeReadCard

/-- THE TIED CARD OF 'laws.FnKeyEnvelopeJoined'. -/
def fnKeyEnvelopeJoinedCard : Claim7 := { stood := { row := fnKeyEnvelopeJoinedRow, standIns := [], harness := (true, "f59ad7c3cb56d45eb8efd7fecfce11bb4da974b24ae0e95ef10e04413eb0e1b1"), looks := false }, kinds := [], alts := [], laidByText := true, laidKinds := [.sentinel, .sentinel, .sentinel, .sentinel, .sentinel, .sentinel, .sentinel, .sentinel, .sentinel], laidTests := true, laidLooks := .later }
def FnKeyEnvelopeJoinedCardSaid : Prop := Claim7.holds Tryd.pinned (.plain (OpenSpec.ofChange fnKeyEnvelopeJoinedSpec)) fnKeyEnvelopeJoinedCard

/-- THE TIED CARD OF 'laws.FnKeyEnvelopeMore'. -/
def fnKeyEnvelopeMoreCard : Claim7 := { stood := { row := fnKeyEnvelopeMoreRow, standIns := [], harness := (true, "f59ad7c3cb56d45eb8efd7fecfce11bb4da974b24ae0e95ef10e04413eb0e1b1"), looks := false }, kinds := [], alts := [], laidByText := true, laidKinds := [.sentinel, .sentinel, .sentinel, .sentinel, .sentinel, .sentinel, .sentinel, .sentinel, .sentinel], laidTests := true, laidLooks := .later }
def FnKeyEnvelopeMoreCardSaid : Prop := Claim7.holds Tryd.pinned (.plain (OpenSpec.ofChange fnKeyEnvelopeMoreSpec)) fnKeyEnvelopeMoreCard

/-- THE TIED CARD OF 'laws.FnKeyWithin'. -/
def fnKeyWithinCard : Claim7 := { stood := { row := fnKeyWithinRow, standIns := [], harness := (true, "f59ad7c3cb56d45eb8efd7fecfce11bb4da974b24ae0e95ef10e04413eb0e1b1"), looks := false }, kinds := [], alts := [], laidByText := true, laidKinds := [.sentinel, .sentinel, .sentinel, .sentinel, .sentinel, .sentinel, .sentinel, .sentinel, .sentinel, .sentinel], laidTests := true, laidLooks := .later }
def FnKeyWithinCardSaid : Prop := Claim7.holds Tryd.pinned (.plain (OpenSpec.ofChange fnKeyWithinSpec)) fnKeyWithinCard

/-- THE SECOND FORM's CARD OF 'laws.FnKeyName'. -/
def fnKeyNameUptoCard : Claim7 := { stood := { row := fnKeyNameUptoRow, standIns := [], harness := (true, "f59ad7c3cb56d45eb8efd7fecfce11bb4da974b24ae0e95ef10e04413eb0e1b1"), looks := false }, kinds := [], alts := [], laidByText := true, laidKinds := [.data, .data, .data], laidTests := true, laidLooks := .later }
def FnKeyNameUptoCardSaid : Prop := Claim7.holds Tryd.pinned (.plain (OpenSpec.upto fnKeyNameSpec)) fnKeyNameUptoCard

/-- THE SECOND FORM's CARD OF 'laws.FnKeyRead'. -/
def fnKeyReadUptoCard : Claim7 := { stood := { row := fnKeyReadUptoRow, standIns := [], harness := (true, "f59ad7c3cb56d45eb8efd7fecfce11bb4da974b24ae0e95ef10e04413eb0e1b1"), looks := false }, kinds := [], alts := [], laidByText := true, laidKinds := [.sentinel, .sentinel, .sentinel, .sentinel, .sentinel, .sentinel, .sentinel, .sentinel], laidTests := true, laidLooks := .later }
def FnKeyReadUptoCardSaid : Prop := Claim7.holds Tryd.pinned (.plain (OpenSpec.upto fnKeyReadSpec)) fnKeyReadUptoCard

/-- THE SECOND FORM's CARD OF 'laws.FnKeyLast'. -/
def fnKeyLastUptoCard : Claim7 := { stood := { row := fnKeyLastUptoRow, standIns := [], harness := (true, "f59ad7c3cb56d45eb8efd7fecfce11bb4da974b24ae0e95ef10e04413eb0e1b1"), looks := false }, kinds := [], alts := [], laidByText := true, laidKinds := [.sentinel, .sentinel, .sentinel, .sentinel, .sentinel, .sentinel, .sentinel, .sentinel], laidTests := true, laidLooks := .later }
def FnKeyLastUptoCardSaid : Prop := Claim7.holds Tryd.pinned (.plain (OpenSpec.upto fnKeyLastSpec)) fnKeyLastUptoCard

/-- THE SECOND FORM's CARD OF 'laws.FnKeyMore'. -/
def fnKeyMoreUptoCard : Claim7 := { stood := { row := fnKeyMoreUptoRow, standIns := [], harness := (true, "f59ad7c3cb56d45eb8efd7fecfce11bb4da974b24ae0e95ef10e04413eb0e1b1"), looks := false }, kinds := [], alts := [], laidByText := true, laidKinds := [.sentinel, .sentinel, .sentinel, .sentinel, .sentinel, .sentinel, .sentinel, .sentinel], laidTests := true, laidLooks := .later }
def FnKeyMoreUptoCardSaid : Prop := Claim7.holds Tryd.pinned (.plain (OpenSpec.upto fnKeyMoreSpec)) fnKeyMoreUptoCard

/-- THE SECOND FORM's CARD OF 'laws.FnKeyWide'. -/
def fnKeyWideUptoCard : Claim7 := { stood := { row := fnKeyWideUptoRow, standIns := [], harness := (true, "f59ad7c3cb56d45eb8efd7fecfce11bb4da974b24ae0e95ef10e04413eb0e1b1"), looks := false }, kinds := [], alts := [], laidByText := true, laidKinds := [.sentinel, .sentinel, .sentinel, .sentinel, .sentinel, .sentinel, .sentinel, .sentinel], laidTests := true, laidLooks := .later }
def FnKeyWideUptoCardSaid : Prop := Claim7.holds Tryd.pinned (.plain (OpenSpec.upto fnKeyWideSpec)) fnKeyWideUptoCard

/-- THE SECOND FORM's CARD OF 'laws.FnKeyRecordSize'. -/
def fnKeyRecordSizeUptoCard : Claim7 := { stood := { row := fnKeyRecordSizeUptoRow, standIns := [], harness := (true, "f59ad7c3cb56d45eb8efd7fecfce11bb4da974b24ae0e95ef10e04413eb0e1b1"), looks := false }, kinds := [], alts := [], laidByText := true, laidKinds := [.sentinel, .sentinel, .sentinel, .sentinel, .sentinel, .sentinel, .sentinel], laidTests := true, laidLooks := .later }
def FnKeyRecordSizeUptoCardSaid : Prop := Claim7.holds Tryd.pinned (.plain (OpenSpec.upto fnKeyRecordSizeSpec)) fnKeyRecordSizeUptoCard

/-- THE SECOND FORM's CARD OF 'laws.FnKeyRecordRead'. -/
def fnKeyRecordReadUptoCard : Claim7 := { stood := { row := fnKeyRecordReadUptoRow, standIns := [], harness := (true, "f59ad7c3cb56d45eb8efd7fecfce11bb4da974b24ae0e95ef10e04413eb0e1b1"), looks := false }, kinds := [], alts := [], laidByText := true, laidKinds := [.sentinel, .sentinel, .sentinel, .sentinel, .sentinel, .sentinel, .sentinel], laidTests := true, laidLooks := .later }
def FnKeyRecordReadUptoCardSaid : Prop := Claim7.holds Tryd.pinned (.plain (OpenSpec.upto fnKeyRecordReadSpec)) fnKeyRecordReadUptoCard

/-- THE SECOND FORM's CARD OF 'laws.FnKeyAddressTorn'. -/
def fnKeyAddressTornUptoCard : Claim7 := { stood := { row := fnKeyAddressTornUptoRow, standIns := [], harness := (true, "f59ad7c3cb56d45eb8efd7fecfce11bb4da974b24ae0e95ef10e04413eb0e1b1"), looks := false }, kinds := [], alts := [], laidByText := true, laidKinds := [.sentinel, .sentinel, .sentinel, .sentinel, .sentinel, .sentinel, .sentinel], laidTests := true, laidLooks := .later }
def FnKeyAddressTornUptoCardSaid : Prop := Claim7.holds Tryd.pinned (.plain (OpenSpec.upto fnKeyAddressTornSpec)) fnKeyAddressTornUptoCard

/-- THE SECOND FORM's CARD OF 'laws.FnKeyRecordMore'. -/
def fnKeyRecordMoreUptoCard : Claim7 := { stood := { row := fnKeyRecordMoreUptoRow, standIns := [], harness := (true, "f59ad7c3cb56d45eb8efd7fecfce11bb4da974b24ae0e95ef10e04413eb0e1b1"), looks := false }, kinds := [], alts := [], laidByText := true, laidKinds := [.sentinel, .sentinel, .sentinel, .sentinel, .sentinel, .sentinel, .sentinel], laidTests := true, laidLooks := .later }
def FnKeyRecordMoreUptoCardSaid : Prop := Claim7.holds Tryd.pinned (.plain (OpenSpec.upto fnKeyRecordMoreSpec)) fnKeyRecordMoreUptoCard

/-- THE SECOND FORM's CARD OF 'laws.FnKeyRecordTorn'. -/
def fnKeyRecordTornUptoCard : Claim7 := { stood := { row := fnKeyRecordTornUptoRow, standIns := [], harness := (true, "f59ad7c3cb56d45eb8efd7fecfce11bb4da974b24ae0e95ef10e04413eb0e1b1"), looks := false }, kinds := [], alts := [], laidByText := true, laidKinds := [.sentinel, .sentinel, .sentinel, .sentinel, .sentinel, .sentinel, .sentinel], laidTests := true, laidLooks := .later }
def FnKeyRecordTornUptoCardSaid : Prop := Claim7.holds Tryd.pinned (.plain (OpenSpec.upto fnKeyRecordTornSpec)) fnKeyRecordTornUptoCard

/-- THE SECOND FORM's CARD OF 'laws.FnKeyEnvelopeRead'. -/
def fnKeyEnvelopeReadUptoCard : Claim7 := { stood := { row := fnKeyEnvelopeReadUptoRow, standIns := [], harness := (true, "f59ad7c3cb56d45eb8efd7fecfce11bb4da974b24ae0e95ef10e04413eb0e1b1"), looks := false }, kinds := [], alts := [], laidByText := true, laidKinds := [.sentinel, .sentinel, .sentinel, .sentinel, .sentinel, .sentinel, .sentinel, .sentinel, .sentinel], laidTests := true, laidLooks := .later }
def FnKeyEnvelopeReadUptoCardSaid : Prop := Claim7.holds Tryd.pinned (.plain (OpenSpec.upto fnKeyEnvelopeReadSpec)) fnKeyEnvelopeReadUptoCard

/-- THE SECOND FORM's CARD OF 'laws.FnKeyEnvelopeJoined'. -/
def fnKeyEnvelopeJoinedUptoCard : Claim7 := { stood := { row := fnKeyEnvelopeJoinedUptoRow, standIns := [], harness := (true, "f59ad7c3cb56d45eb8efd7fecfce11bb4da974b24ae0e95ef10e04413eb0e1b1"), looks := false }, kinds := [], alts := [], laidByText := true, laidKinds := [.sentinel, .sentinel, .sentinel, .sentinel, .sentinel, .sentinel, .sentinel, .sentinel, .sentinel], laidTests := true, laidLooks := .later }
def FnKeyEnvelopeJoinedUptoCardSaid : Prop := Claim7.holds Tryd.pinned (.plain (OpenSpec.upto fnKeyEnvelopeJoinedSpec)) fnKeyEnvelopeJoinedUptoCard

/-- THE SECOND FORM's CARD OF 'laws.FnKeyEnvelopeMore'. -/
def fnKeyEnvelopeMoreUptoCard : Claim7 := { stood := { row := fnKeyEnvelopeMoreUptoRow, standIns := [], harness := (true, "f59ad7c3cb56d45eb8efd7fecfce11bb4da974b24ae0e95ef10e04413eb0e1b1"), looks := false }, kinds := [], alts := [], laidByText := true, laidKinds := [.sentinel, .sentinel, .sentinel, .sentinel, .sentinel, .sentinel, .sentinel, .sentinel, .sentinel], laidTests := true, laidLooks := .later }
def FnKeyEnvelopeMoreUptoCardSaid : Prop := Claim7.holds Tryd.pinned (.plain (OpenSpec.upto fnKeyEnvelopeMoreSpec)) fnKeyEnvelopeMoreUptoCard

/-- THE SECOND FORM's CARD OF 'laws.FnKeyWithin'. -/
def fnKeyWithinUptoCard : Claim7 := { stood := { row := fnKeyWithinUptoRow, standIns := [], harness := (true, "f59ad7c3cb56d45eb8efd7fecfce11bb4da974b24ae0e95ef10e04413eb0e1b1"), looks := false }, kinds := [], alts := [], laidByText := true, laidKinds := [.sentinel, .sentinel, .sentinel, .sentinel, .sentinel, .sentinel, .sentinel, .sentinel, .sentinel, .sentinel], laidTests := true, laidLooks := .later }
def FnKeyWithinUptoCardSaid : Prop := Claim7.holds Tryd.pinned (.plain (OpenSpec.upto fnKeyWithinSpec)) fnKeyWithinUptoCard
end Rows
end Go.Proofs.YtipleaojejbkpaaDoor
