/-
  DERIVED. GIVEN WITH THE SEED: THE CARDS: each row of YthdbchahmbcfeaaDoorRows.lean that lists a variable, with what it lists TIED to the program's text (the seventh form; the later family's looks); each row that meets fmt, with fmt's text TOLD by the authors' own Lean function (tested against real Go, not proved from fmt's source: count such statements apart). THE CARD IS WHAT COUNTS. Prove the row's statement (the work); the ties are given (YthdbchahmbcfeaaDoorTie.lean); close each card by the builder's one call (the guide's Derived/Test/ToyasCard.lean, 'card_holds'). Laid BY PROGRAM, IN A SANDBOX (cutbox-door.mjs). By AI agents, Wed Nov 11 2026. No macro, syntax, notation, axiom, sorry.
-/
import Derived.Test.YthdbchahmbcfeaaDoorRows
import GoSem.ClaimSeven
namespace Go.Proofs.YthdbchahmbcfeaaDoor
namespace Rows

/-- THE TIED CARD OF 'laws.FnPeerEdge'. -/
def fnPeerEdgeCard : Claim7 := { stood := { row := fnPeerEdgeRow, standIns := [], harness := (true, "ebfc0b8441a71b9348339ba47d847c10e00126efaf5a09eba47891c066236ddb"), looks := false }, kinds := [], alts := [], laidByText := true, laidKinds := [.sentinel, .sentinel, .sentinel, .sentinel, .sentinel, .sentinel, .sentinel, .sentinel, .sentinel, .sentinel], laidTests := true, laidLooks := .later }
def FnPeerEdgeCardSaid : Prop := Claim7.holds Tryd.pinned (.plain (OpenSpec.ofChange fnPeerEdgeSpec)) fnPeerEdgeCard

/-- THE SECOND FORM's CARD OF 'laws.FnPeerEdge'. -/
def fnPeerEdgeUptoCard : Claim7 := { stood := { row := fnPeerEdgeUptoRow, standIns := [], harness := (true, "ebfc0b8441a71b9348339ba47d847c10e00126efaf5a09eba47891c066236ddb"), looks := false }, kinds := [], alts := [], laidByText := true, laidKinds := [.sentinel, .sentinel, .sentinel, .sentinel, .sentinel, .sentinel, .sentinel, .sentinel, .sentinel, .sentinel], laidTests := true, laidLooks := .later }
def FnPeerEdgeUptoCardSaid : Prop := Claim7.holds Tryd.pinned (.plain (OpenSpec.upto fnPeerEdgeSpec)) fnPeerEdgeUptoCard
end Rows
end Go.Proofs.YthdbchahmbcfeaaDoor
