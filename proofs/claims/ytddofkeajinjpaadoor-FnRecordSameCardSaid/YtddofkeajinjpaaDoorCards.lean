/-
  DERIVED. GIVEN WITH THE SEED: THE CARDS: each row of YtddofkeajinjpaaDoorRows.lean that lists a variable, with what it lists TIED to the program's text (the seventh form; the later family's looks); each row that meets fmt, with fmt's text TOLD by the authors' own Lean function (tested against real Go, not proved from fmt's source: count such statements apart). THE CARD IS WHAT COUNTS. Prove the row's statement (the work); the ties are given (YtddofkeajinjpaaDoorTie.lean); close each card by the builder's one call (the guide's Derived/Test/ToyasCard.lean, 'card_holds'). Laid BY PROGRAM, IN A SANDBOX (cutbox-door.mjs). By AI agents, Wed Nov 11 2026. No macro, syntax, notation, axiom, sorry.
-/
import Derived.Test.YtddofkeajinjpaaDoorRows
import GoSem.ClaimSeven
namespace Go.Proofs.YtddofkeajinjpaaDoor
namespace Rows

/-- THE TIED CARD OF 'laws.FnRecordNoKey'. -/
def fnRecordNoKeyCard : Claim7 := { stood := { row := fnRecordNoKeyRow, standIns := [], harness := (true, "d987f6577d58a0b2dc769df3f7cc76f4a34c7fcc30328542f80988f38e08a714"), looks := false }, kinds := [], alts := [], laidByText := true, laidKinds := [.sentinel, .sentinel, .sentinel, .sentinel, .sentinel, .sentinel, .sentinel, .sentinel, .sentinel, .sentinel, .sentinel, .sentinel, .sentinel], laidTests := true, laidLooks := .later }
def FnRecordNoKeyCardSaid : Prop := Claim7.holds Tryd.pinned (.plain (OpenSpec.ofChange fnRecordNoKeySpec)) fnRecordNoKeyCard

/-- THE TIED CARD OF 'laws.FnRecordTurned'. -/
def fnRecordTurnedCard : Claim7 := { stood := { row := fnRecordTurnedRow, standIns := [], harness := (true, "d987f6577d58a0b2dc769df3f7cc76f4a34c7fcc30328542f80988f38e08a714"), looks := false }, kinds := [], alts := [], laidByText := true, laidKinds := [.sentinel, .sentinel, .sentinel, .sentinel, .sentinel, .sentinel, .sentinel, .sentinel, .sentinel, .sentinel, .sentinel, .sentinel, .sentinel], laidTests := true, laidLooks := .later }
def FnRecordTurnedCardSaid : Prop := Claim7.holds Tryd.pinned (.plain (OpenSpec.ofChange fnRecordTurnedSpec)) fnRecordTurnedCard

/-- THE TIED CARD OF 'laws.FnRecordVerified'. -/
def fnRecordVerifiedCard : Claim7 := { stood := { row := fnRecordVerifiedRow, standIns := [], harness := (true, "d987f6577d58a0b2dc769df3f7cc76f4a34c7fcc30328542f80988f38e08a714"), looks := false }, kinds := [], alts := [], laidByText := true, laidKinds := [.sentinel, .sentinel, .sentinel, .sentinel, .sentinel, .sentinel, .sentinel, .sentinel, .sentinel, .sentinel, .sentinel, .sentinel, .sentinel], laidTests := true, laidLooks := .later }
def FnRecordVerifiedCardSaid : Prop := Claim7.holds Tryd.pinned (.plain (OpenSpec.ofChange fnRecordVerifiedSpec)) fnRecordVerifiedCard

/-- THE TIED CARD OF 'laws.FnRecordUnsigned'. -/
def fnRecordUnsignedCard : Claim7 := { stood := { row := fnRecordUnsignedRow, standIns := [], harness := (true, "d987f6577d58a0b2dc769df3f7cc76f4a34c7fcc30328542f80988f38e08a714"), looks := false }, kinds := [], alts := [], laidByText := true, laidKinds := [.sentinel, .sentinel, .sentinel, .sentinel, .sentinel, .sentinel, .sentinel, .sentinel, .sentinel, .sentinel, .sentinel, .sentinel, .sentinel], laidTests := true, laidLooks := .later }
def FnRecordUnsignedCardSaid : Prop := Claim7.holds Tryd.pinned (.plain (OpenSpec.ofChange fnRecordUnsignedSpec)) fnRecordUnsignedCard

/-- THE TIED CARD OF 'laws.FnRecordOpened'. -/
def fnRecordOpenedCard : Claim7 := { stood := { row := fnRecordOpenedRow, standIns := [], harness := (true, "d987f6577d58a0b2dc769df3f7cc76f4a34c7fcc30328542f80988f38e08a714"), looks := false }, kinds := [], alts := [], laidByText := true, laidKinds := [.sentinel, .sentinel, .sentinel, .sentinel, .sentinel, .sentinel, .sentinel, .sentinel, .sentinel, .sentinel, .sentinel, .sentinel, .sentinel], laidTests := true, laidLooks := .later }
def FnRecordOpenedCardSaid : Prop := Claim7.holds Tryd.pinned (.plain (OpenSpec.ofChange fnRecordOpenedSpec)) fnRecordOpenedCard

/-- THE TIED CARD OF 'laws.FnRecordTwice'. -/
def fnRecordTwiceCard : Claim7 := { stood := { row := fnRecordTwiceRow, standIns := [], harness := (true, "d987f6577d58a0b2dc769df3f7cc76f4a34c7fcc30328542f80988f38e08a714"), looks := false }, kinds := [], alts := [], laidByText := true, laidKinds := [.sentinel, .sentinel, .sentinel, .sentinel, .sentinel, .sentinel, .sentinel, .sentinel, .sentinel, .sentinel, .sentinel, .sentinel, .sentinel], laidTests := true, laidLooks := .later }
def FnRecordTwiceCardSaid : Prop := Claim7.holds Tryd.pinned (.plain (OpenSpec.ofChange fnRecordTwiceSpec)) fnRecordTwiceCard

/-- THE TIED CARD OF 'laws.FnRecordSame'. -/
def fnRecordSameCard : Claim7 := { stood := { row := fnRecordSameRow, standIns := [], harness := (true, "d987f6577d58a0b2dc769df3f7cc76f4a34c7fcc30328542f80988f38e08a714"), looks := false }, kinds := [], alts := [], laidByText := true, laidKinds := [.sentinel, .sentinel, .sentinel, .sentinel, .sentinel, .sentinel, .sentinel, .sentinel, .sentinel, .sentinel, .sentinel, .sentinel, .sentinel], laidTests := true, laidLooks := .later }
def FnRecordSameCardSaid : Prop := Claim7.holds Tryd.pinned (.plain (OpenSpec.ofChange fnRecordSameSpec)) fnRecordSameCard

/-- THE SECOND FORM's CARD OF 'laws.FnRecordNoKey'. -/
def fnRecordNoKeyUptoCard : Claim7 := { stood := { row := fnRecordNoKeyUptoRow, standIns := [], harness := (true, "d987f6577d58a0b2dc769df3f7cc76f4a34c7fcc30328542f80988f38e08a714"), looks := false }, kinds := [], alts := [], laidByText := true, laidKinds := [.sentinel, .sentinel, .sentinel, .sentinel, .sentinel, .sentinel, .sentinel, .sentinel, .sentinel, .sentinel, .sentinel, .sentinel, .sentinel], laidTests := true, laidLooks := .later }
def FnRecordNoKeyUptoCardSaid : Prop := Claim7.holds Tryd.pinned (.plain (OpenSpec.upto fnRecordNoKeySpec)) fnRecordNoKeyUptoCard

/-- THE SECOND FORM's CARD OF 'laws.FnRecordTurned'. -/
def fnRecordTurnedUptoCard : Claim7 := { stood := { row := fnRecordTurnedUptoRow, standIns := [], harness := (true, "d987f6577d58a0b2dc769df3f7cc76f4a34c7fcc30328542f80988f38e08a714"), looks := false }, kinds := [], alts := [], laidByText := true, laidKinds := [.sentinel, .sentinel, .sentinel, .sentinel, .sentinel, .sentinel, .sentinel, .sentinel, .sentinel, .sentinel, .sentinel, .sentinel, .sentinel], laidTests := true, laidLooks := .later }
def FnRecordTurnedUptoCardSaid : Prop := Claim7.holds Tryd.pinned (.plain (OpenSpec.upto fnRecordTurnedSpec)) fnRecordTurnedUptoCard

/-- THE SECOND FORM's CARD OF 'laws.FnRecordVerified'. -/
def fnRecordVerifiedUptoCard : Claim7 := { stood := { row := fnRecordVerifiedUptoRow, standIns := [], harness := (true, "d987f6577d58a0b2dc769df3f7cc76f4a34c7fcc30328542f80988f38e08a714"), looks := false }, kinds := [], alts := [], laidByText := true, laidKinds := [.sentinel, .sentinel, .sentinel, .sentinel, .sentinel, .sentinel, .sentinel, .sentinel, .sentinel, .sentinel, .sentinel, .sentinel, .sentinel], laidTests := true, laidLooks := .later }
def FnRecordVerifiedUptoCardSaid : Prop := Claim7.holds Tryd.pinned (.plain (OpenSpec.upto fnRecordVerifiedSpec)) fnRecordVerifiedUptoCard

/-- THE SECOND FORM's CARD OF 'laws.FnRecordUnsigned'. -/
def fnRecordUnsignedUptoCard : Claim7 := { stood := { row := fnRecordUnsignedUptoRow, standIns := [], harness := (true, "d987f6577d58a0b2dc769df3f7cc76f4a34c7fcc30328542f80988f38e08a714"), looks := false }, kinds := [], alts := [], laidByText := true, laidKinds := [.sentinel, .sentinel, .sentinel, .sentinel, .sentinel, .sentinel, .sentinel, .sentinel, .sentinel, .sentinel, .sentinel, .sentinel, .sentinel], laidTests := true, laidLooks := .later }
def FnRecordUnsignedUptoCardSaid : Prop := Claim7.holds Tryd.pinned (.plain (OpenSpec.upto fnRecordUnsignedSpec)) fnRecordUnsignedUptoCard

/-- THE SECOND FORM's CARD OF 'laws.FnRecordOpened'. -/
def fnRecordOpenedUptoCard : Claim7 := { stood := { row := fnRecordOpenedUptoRow, standIns := [], harness := (true, "d987f6577d58a0b2dc769df3f7cc76f4a34c7fcc30328542f80988f38e08a714"), looks := false }, kinds := [], alts := [], laidByText := true, laidKinds := [.sentinel, .sentinel, .sentinel, .sentinel, .sentinel, .sentinel, .sentinel, .sentinel, .sentinel, .sentinel, .sentinel, .sentinel, .sentinel], laidTests := true, laidLooks := .later }
def FnRecordOpenedUptoCardSaid : Prop := Claim7.holds Tryd.pinned (.plain (OpenSpec.upto fnRecordOpenedSpec)) fnRecordOpenedUptoCard

/-- THE SECOND FORM's CARD OF 'laws.FnRecordTwice'. -/
def fnRecordTwiceUptoCard : Claim7 := { stood := { row := fnRecordTwiceUptoRow, standIns := [], harness := (true, "d987f6577d58a0b2dc769df3f7cc76f4a34c7fcc30328542f80988f38e08a714"), looks := false }, kinds := [], alts := [], laidByText := true, laidKinds := [.sentinel, .sentinel, .sentinel, .sentinel, .sentinel, .sentinel, .sentinel, .sentinel, .sentinel, .sentinel, .sentinel, .sentinel, .sentinel], laidTests := true, laidLooks := .later }
def FnRecordTwiceUptoCardSaid : Prop := Claim7.holds Tryd.pinned (.plain (OpenSpec.upto fnRecordTwiceSpec)) fnRecordTwiceUptoCard

/-- THE SECOND FORM's CARD OF 'laws.FnRecordSame'. -/
def fnRecordSameUptoCard : Claim7 := { stood := { row := fnRecordSameUptoRow, standIns := [], harness := (true, "d987f6577d58a0b2dc769df3f7cc76f4a34c7fcc30328542f80988f38e08a714"), looks := false }, kinds := [], alts := [], laidByText := true, laidKinds := [.sentinel, .sentinel, .sentinel, .sentinel, .sentinel, .sentinel, .sentinel, .sentinel, .sentinel, .sentinel, .sentinel, .sentinel, .sentinel], laidTests := true, laidLooks := .later }
def FnRecordSameUptoCardSaid : Prop := Claim7.holds Tryd.pinned (.plain (OpenSpec.upto fnRecordSameSpec)) fnRecordSameUptoCard
end Rows
end Go.Proofs.YtddofkeajinjpaaDoor
