/-
  DERIVED. GIVEN WITH THE SEED: THE CARDS: each row of YtnbpliccenanpaaDoorRows.lean that lists a variable, with what it lists TIED to the program's text (the seventh form; the later family's looks); each row that meets fmt, with fmt's text TOLD by the authors' own Lean function (tested against real Go, not proved from fmt's source: count such statements apart). THE CARD IS WHAT COUNTS. Prove the row's statement (the work); the ties are given (YtnbpliccenanpaaDoorTie.lean); close each card by the builder's one call (the guide's Derived/Test/ToyasCard.lean, 'card_holds'). Laid BY PROGRAM, IN A SANDBOX (cutbox-door.mjs). By AI agents, Wed Nov 11 2026. No macro, syntax, notation, axiom, sorry.
-/
import Derived.Test.YtnbpliccenanpaaDoorRows
import GoSem.ClaimSeven
namespace Go.Proofs.YtnbpliccenanpaaDoor
namespace Rows

/-- THE TIED CARD OF 'laws.FnPeerCast'. -/
def fnPeerCastCard : Claim7 := { stood := { row := fnPeerCastRow, standIns := [], harness := (true, "62f8511eff498af2c679fa914269b0ed8bec8ee7f0fcb4ad41e3e12a613ff501"), looks := false }, kinds := [], alts := [], laidByText := true, laidKinds := [.sentinel, .sentinel, .sentinel, .sentinel, .sentinel, .sentinel], laidTests := true, laidLooks := .later }
def FnPeerCastCardSaid : Prop := Claim7.holds Tryd.pinned (.plain (OpenSpec.ofChange fnPeerCastSpec)) fnPeerCastCard

/-- THE TIED CARD OF 'laws.FnPeerText'. -/
def fnPeerTextCard : Claim7 := { stood := { row := fnPeerTextRow, standIns := [], harness := (true, "62f8511eff498af2c679fa914269b0ed8bec8ee7f0fcb4ad41e3e12a613ff501"), looks := false }, kinds := [], alts := [], laidByText := true, laidKinds := [.sentinel, .sentinel, .sentinel, .sentinel, .sentinel, .sentinel], laidTests := true, laidLooks := .later }
def FnPeerTextCardSaid : Prop := Claim7.holds Tryd.pinned (.plain (OpenSpec.ofChange fnPeerTextSpec)) fnPeerTextCard

/-- THE TIED CARD OF 'laws.FnPeerShort'. -/
def fnPeerShortCard : Claim7 := { stood := { row := fnPeerShortRow, standIns := [], harness := (true, "62f8511eff498af2c679fa914269b0ed8bec8ee7f0fcb4ad41e3e12a613ff501"), looks := false }, kinds := [], alts := [], laidByText := true, laidKinds := [.sentinel, .sentinel, .sentinel, .sentinel, .sentinel, .sentinel], laidTests := true, laidLooks := .later }
def FnPeerShortCardSaid : Prop := Claim7.holds Tryd.pinned (.plain (OpenSpec.ofChange fnPeerShortSpec)) fnPeerShortCard

/-- THE TIED CARD OF 'laws.FnPeerOtherCid'. -/
def fnPeerOtherCidCard : Claim7 := { stood := { row := fnPeerOtherCidRow, standIns := [], harness := (true, "62f8511eff498af2c679fa914269b0ed8bec8ee7f0fcb4ad41e3e12a613ff501"), looks := false }, kinds := [], alts := [], laidByText := true, laidKinds := [.sentinel, .sentinel, .sentinel, .sentinel, .sentinel, .sentinel], laidTests := true, laidLooks := .later }
def FnPeerOtherCidCardSaid : Prop := Claim7.holds Tryd.pinned (.plain (OpenSpec.ofChange fnPeerOtherCidSpec)) fnPeerOtherCidCard

/-- THE TIED CARD OF 'laws.FnPeerOrders'. -/
def fnPeerOrdersCard : Claim7 := { stood := { row := fnPeerOrdersRow, standIns := [], harness := (true, "62f8511eff498af2c679fa914269b0ed8bec8ee7f0fcb4ad41e3e12a613ff501"), looks := false }, kinds := [], alts := [], laidByText := true, laidKinds := [.sentinel, .sentinel, .sentinel, .sentinel, .sentinel, .sentinel], laidTests := true, laidLooks := .later }
def FnPeerOrdersCardSaid : Prop := Claim7.holds Tryd.pinned (.plain (OpenSpec.ofChange fnPeerOrdersSpec)) fnPeerOrdersCard

/-- THE TIED CARD OF 'laws.FnPeerEdge'. -/
def fnPeerEdgeCard : Claim7 := { stood := { row := fnPeerEdgeRow, standIns := [], harness := (true, "62f8511eff498af2c679fa914269b0ed8bec8ee7f0fcb4ad41e3e12a613ff501"), looks := false }, kinds := [], alts := [], laidByText := true, laidKinds := [.sentinel, .sentinel, .sentinel, .sentinel, .sentinel, .sentinel, .sentinel, .sentinel, .sentinel, .sentinel], laidTests := true, laidLooks := .later }
def FnPeerEdgeCardSaid : Prop := Claim7.holds Tryd.pinned (.plain (OpenSpec.ofChange fnPeerEdgeSpec)) fnPeerEdgeCard

/-- THE TIED CARD OF 'laws.FnPeerSorted'. -/
def fnPeerSortedCard : Claim7 := { stood := { row := fnPeerSortedRow, standIns := [], harness := (true, "62f8511eff498af2c679fa914269b0ed8bec8ee7f0fcb4ad41e3e12a613ff501"), looks := false }, kinds := [], alts := [], laidByText := true, laidKinds := [.sentinel, .sentinel, .sentinel, .sentinel, .sentinel, .sentinel], laidTests := true, laidLooks := .later }
def FnPeerSortedCardSaid : Prop := Claim7.holds Tryd.pinned (.plain (OpenSpec.ofChange fnPeerSortedSpec)) fnPeerSortedCard

/-- THE SECOND FORM's CARD OF 'laws.FnPeerCast'. -/
def fnPeerCastUptoCard : Claim7 := { stood := { row := fnPeerCastUptoRow, standIns := [], harness := (true, "62f8511eff498af2c679fa914269b0ed8bec8ee7f0fcb4ad41e3e12a613ff501"), looks := false }, kinds := [], alts := [], laidByText := true, laidKinds := [.sentinel, .sentinel, .sentinel, .sentinel, .sentinel, .sentinel], laidTests := true, laidLooks := .later }
def FnPeerCastUptoCardSaid : Prop := Claim7.holds Tryd.pinned (.plain (OpenSpec.upto fnPeerCastSpec)) fnPeerCastUptoCard

/-- THE SECOND FORM's CARD OF 'laws.FnPeerText'. -/
def fnPeerTextUptoCard : Claim7 := { stood := { row := fnPeerTextUptoRow, standIns := [], harness := (true, "62f8511eff498af2c679fa914269b0ed8bec8ee7f0fcb4ad41e3e12a613ff501"), looks := false }, kinds := [], alts := [], laidByText := true, laidKinds := [.sentinel, .sentinel, .sentinel, .sentinel, .sentinel, .sentinel], laidTests := true, laidLooks := .later }
def FnPeerTextUptoCardSaid : Prop := Claim7.holds Tryd.pinned (.plain (OpenSpec.upto fnPeerTextSpec)) fnPeerTextUptoCard

/-- THE SECOND FORM's CARD OF 'laws.FnPeerShort'. -/
def fnPeerShortUptoCard : Claim7 := { stood := { row := fnPeerShortUptoRow, standIns := [], harness := (true, "62f8511eff498af2c679fa914269b0ed8bec8ee7f0fcb4ad41e3e12a613ff501"), looks := false }, kinds := [], alts := [], laidByText := true, laidKinds := [.sentinel, .sentinel, .sentinel, .sentinel, .sentinel, .sentinel], laidTests := true, laidLooks := .later }
def FnPeerShortUptoCardSaid : Prop := Claim7.holds Tryd.pinned (.plain (OpenSpec.upto fnPeerShortSpec)) fnPeerShortUptoCard

/-- THE SECOND FORM's CARD OF 'laws.FnPeerOtherCid'. -/
def fnPeerOtherCidUptoCard : Claim7 := { stood := { row := fnPeerOtherCidUptoRow, standIns := [], harness := (true, "62f8511eff498af2c679fa914269b0ed8bec8ee7f0fcb4ad41e3e12a613ff501"), looks := false }, kinds := [], alts := [], laidByText := true, laidKinds := [.sentinel, .sentinel, .sentinel, .sentinel, .sentinel, .sentinel], laidTests := true, laidLooks := .later }
def FnPeerOtherCidUptoCardSaid : Prop := Claim7.holds Tryd.pinned (.plain (OpenSpec.upto fnPeerOtherCidSpec)) fnPeerOtherCidUptoCard

/-- THE SECOND FORM's CARD OF 'laws.FnPeerOrders'. -/
def fnPeerOrdersUptoCard : Claim7 := { stood := { row := fnPeerOrdersUptoRow, standIns := [], harness := (true, "62f8511eff498af2c679fa914269b0ed8bec8ee7f0fcb4ad41e3e12a613ff501"), looks := false }, kinds := [], alts := [], laidByText := true, laidKinds := [.sentinel, .sentinel, .sentinel, .sentinel, .sentinel, .sentinel], laidTests := true, laidLooks := .later }
def FnPeerOrdersUptoCardSaid : Prop := Claim7.holds Tryd.pinned (.plain (OpenSpec.upto fnPeerOrdersSpec)) fnPeerOrdersUptoCard

/-- THE SECOND FORM's CARD OF 'laws.FnPeerEdge'. -/
def fnPeerEdgeUptoCard : Claim7 := { stood := { row := fnPeerEdgeUptoRow, standIns := [], harness := (true, "62f8511eff498af2c679fa914269b0ed8bec8ee7f0fcb4ad41e3e12a613ff501"), looks := false }, kinds := [], alts := [], laidByText := true, laidKinds := [.sentinel, .sentinel, .sentinel, .sentinel, .sentinel, .sentinel, .sentinel, .sentinel, .sentinel, .sentinel], laidTests := true, laidLooks := .later }
def FnPeerEdgeUptoCardSaid : Prop := Claim7.holds Tryd.pinned (.plain (OpenSpec.upto fnPeerEdgeSpec)) fnPeerEdgeUptoCard

/-- THE SECOND FORM's CARD OF 'laws.FnPeerSorted'. -/
def fnPeerSortedUptoCard : Claim7 := { stood := { row := fnPeerSortedUptoRow, standIns := [], harness := (true, "62f8511eff498af2c679fa914269b0ed8bec8ee7f0fcb4ad41e3e12a613ff501"), looks := false }, kinds := [], alts := [], laidByText := true, laidKinds := [.sentinel, .sentinel, .sentinel, .sentinel, .sentinel, .sentinel], laidTests := true, laidLooks := .later }
def FnPeerSortedUptoCardSaid : Prop := Claim7.holds Tryd.pinned (.plain (OpenSpec.upto fnPeerSortedSpec)) fnPeerSortedUptoCard
end Rows
end Go.Proofs.YtnbpliccenanpaaDoor
