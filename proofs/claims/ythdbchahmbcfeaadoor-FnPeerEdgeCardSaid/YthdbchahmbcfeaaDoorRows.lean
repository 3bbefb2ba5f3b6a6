/-
  NARROWER THAN 'FOR EVERY INPUT', by the rows' own cells (each row's printed sentence says how): FnPeerEdge: laid.
  DERIVED. THE GIVEN ROWS OF THIS SEAT. 1 by the template 'for every input the law returns true; each argument reads behind the call as it read before'; 0 by the template 'total and deterministic' (their statements: YthdbchahmbcfeaaDoorTotals.lean).
  GIVEN WITH THE SEED: the statements are not yours to turn. If you find one false, say at which input.
  Laid BY PROGRAM, IN A SANDBOX (cutbox-rows.mjs): the forced cells as the released guide's own fill.sh prints them over the translation 96bbed5aa6ede7e5… (all of the seat's roots in one cut). By AI agents, Wed Nov 11 2026. No macro, syntax, notation, axiom, sorry.
-/
import Derived.Test.YthdbchahmbcfeaaDoorChecked
import GoSem.Claim
import GoSem.ClaimJoined
import GoSem.ClaimMapViews
import Derived.JoinedTies
import Derived.KernelRfl
namespace Go.Proofs.YthdbchahmbcfeaaDoor
/- THE CELL 'sum', in the pinned program and in every row, IS THE sha256 OF THE DUMP (.gsa) THAT YthdbchahmbcfeaaDoorProg.lean LOADS. Nothing in Lean hashes anything: it is a label: what it is worth is what the hold of that sum in a sandbox is worth. -/
noncomputable def Tryd.pinned : Pinned := { name := "ythdbchahmbcfeaadoor", sum := "96bbed5aa6ede7e5286e5f0cbc5c2017273a74dea5fbde13caada31c4a2fdd05", checked := Tryd.checked }
namespace Rows
def none {H : Type} : Left H := { results := [], args := [] }

/- WHAT THE LISTED PACKAGE-LEVEL VARIABLES READ AS WHEN THE CALL BEGINS. Each datum BY PROGRAM (the guide's laid-datum.mjs) off the statement by which the dump's own 'gosem.cut.vars' lays the variable. In a bare row this is a premise. The card (YthdbchahmbcfeaaDoorCards.lean) ties it to the program's text. -/
def laid_pub_symmory_pub_libp2p_core_crypto_pb_errRequired {H : Type} : DataW H := .iface "*errors.errorString" (.ptr (.agg [.lit (.string [112, 114, 111, 116, 111, 58, 32, 114, 101, 113, 117, 105, 114, 101, 100, 32, 102, 105, 101, 108, 100, 32, 110, 111, 116, 32, 115, 101, 116])]))
def laid_pub_symmory_pub_govarint_ErrOverflow {H : Type} : DataW H := .iface "*errors.errorString" (.ptr (.agg [.lit (.string [118, 97, 114, 105, 110, 116, 115, 32, 108, 97, 114, 103, 101, 114, 32, 116, 104, 97, 110, 32, 117, 105, 110, 116, 54, 51, 32, 110, 111, 116, 32, 115, 117, 112, 112, 111, 114, 116, 101, 100])]))
def laid_pub_symmory_pub_govarint_ErrUnderflow {H : Type} : DataW H := .iface "*errors.errorString" (.ptr (.agg [.lit (.string [118, 97, 114, 105, 110, 116, 115, 32, 109, 97, 108, 102, 111, 114, 109, 101, 100, 44, 32, 99, 111, 117, 108, 100, 32, 110, 111, 116, 32, 114, 101, 97, 99, 104, 32, 116, 104, 101, 32, 101, 110, 100])]))
def laid_pub_symmory_pub_govarint_ErrNotMinimal {H : Type} : DataW H := .iface "*errors.errorString" (.ptr (.agg [.lit (.string [118, 97, 114, 105, 110, 116, 32, 110, 111, 116, 32, 109, 105, 110, 105, 109, 97, 108, 108, 121, 32, 101, 110, 99, 111, 100, 101, 100])]))
def laid_pub_symmory_pub_gomultihash_core_ErrSumNotSupported {H : Type} : DataW H := .iface "*errors.errorString" (.ptr (.agg [.lit (.string [110, 111, 32, 115, 117, 99, 104, 32, 104, 97, 115, 104, 32, 114, 101, 103, 105, 115, 116, 101, 114, 101, 100])]))
def laid_pub_symmory_pub_gomultihash_core_ErrLenTooLarge {H : Type} : DataW H := .iface "*errors.errorString" (.ptr (.agg [.lit (.string [114, 101, 113, 117, 101, 115, 116, 101, 100, 32, 108, 101, 110, 103, 116, 104, 32, 119, 97, 115, 32, 116, 111, 111, 32, 108, 97, 114, 103, 101, 32, 102, 111, 114, 32, 100, 105, 103, 101, 115, 116])]))
def laid_pub_symmory_pub_gomultihash_ErrTooShort {H : Type} : DataW H := .iface "*errors.errorString" (.ptr (.agg [.lit (.string [109, 117, 108, 116, 105, 104, 97, 115, 104, 32, 116, 111, 111, 32, 115, 104, 111, 114, 116, 46, 32, 109, 117, 115, 116, 32, 98, 101, 32, 62, 61, 32, 50, 32, 98, 121, 116, 101, 115])]))
def laid_pub_symmory_pub_gomultihash_ErrVarintBufferShort {H : Type} : DataW H := .iface "*errors.errorString" (.ptr (.agg [.lit (.string [117, 118, 97, 114, 105, 110, 116, 58, 32, 98, 117, 102, 102, 101, 114, 32, 116, 111, 111, 32, 115, 109, 97, 108, 108])]))
def laid_pub_symmory_pub_gomultihash_ErrVarintTooLong {H : Type} : DataW H := .iface "*errors.errorString" (.ptr (.agg [.lit (.string [117, 118, 97, 114, 105, 110, 116, 58, 32, 118, 97, 114, 105, 110, 116, 32, 116, 111, 111, 32, 98, 105, 103, 32, 40, 109, 97, 120, 32, 54, 52, 98, 105, 116, 41])]))
def laid_pub_symmory_pub_libp2p_core_crypto_ErrBadKeyType {H : Type} : DataW H := .iface "*errors.errorString" (.ptr (.agg [.lit (.string [105, 110, 118, 97, 108, 105, 100, 32, 111, 114, 32, 117, 110, 115, 117, 112, 112, 111, 114, 116, 101, 100, 32, 107, 101, 121, 32, 116, 121, 112, 101])]))

/-- 'laws.FnPeerEdge': WHATEVER THE INPUT: true; the input reads as it did. -/
def fnPeerEdgeSpec : ChangeSpec := { name := "fnPeerEdge", fn := fun _ => fun
  | [d1, d2] => { results := [.lit (.bool true)], args := [d1, d2] }
  | _ => none }
def fnPeerEdgeRow : OpenClaim := { program := "ythdbchahmbcfeaadoor", sum := "96bbed5aa6ede7e5286e5f0cbc5c2017273a74dea5fbde13caada31c4a2fdd05", func := "pub-symmory/laws.FnPeerEdge", spec := "fnPeerEdge", unfollowed := true, recurses := true, named := ["pub-symmory/pub/libp2p/core/crypto.ErrBadKeyType", "pub-symmory/pub/libp2p/core/crypto/pb.errRequired", "pub-symmory/pub/gomultihash/core.ErrLenTooLarge", "pub-symmory/pub/gomultihash/core.ErrSumNotSupported", "pub-symmory/pub/gomultihash.ErrTooShort", "pub-symmory/pub/gomultihash.ErrVarintBufferShort", "pub-symmory/pub/gomultihash.ErrVarintTooLong", "pub-symmory/pub/govarint.ErrOverflow", "pub-symmory/pub/govarint.ErrNotMinimal", "pub-symmory/pub/govarint.ErrUnderflow"], apart := false, laid := [("pub-symmory/pub/libp2p/core/crypto/pb.errRequired", laid_pub_symmory_pub_libp2p_core_crypto_pb_errRequired), ("pub-symmory/pub/govarint.ErrOverflow", laid_pub_symmory_pub_govarint_ErrOverflow), ("pub-symmory/pub/govarint.ErrUnderflow", laid_pub_symmory_pub_govarint_ErrUnderflow), ("pub-symmory/pub/govarint.ErrNotMinimal", laid_pub_symmory_pub_govarint_ErrNotMinimal), ("pub-symmory/pub/gomultihash/core.ErrSumNotSupported", laid_pub_symmory_pub_gomultihash_core_ErrSumNotSupported), ("pub-symmory/pub/gomultihash/core.ErrLenTooLarge", laid_pub_symmory_pub_gomultihash_core_ErrLenTooLarge), ("pub-symmory/pub/gomultihash.ErrTooShort", laid_pub_symmory_pub_gomultihash_ErrTooShort), ("pub-symmory/pub/gomultihash.ErrVarintBufferShort", laid_pub_symmory_pub_gomultihash_ErrVarintBufferShort), ("pub-symmory/pub/gomultihash.ErrVarintTooLong", laid_pub_symmory_pub_gomultihash_ErrVarintTooLong), ("pub-symmory/pub/libp2p/core/crypto.ErrBadKeyType", laid_pub_symmory_pub_libp2p_core_crypto_ErrBadKeyType)] }
def FnPeerEdgeSaid : Prop := fnPeerEdgeRow.holds Tryd.pinned (OpenSpec.ofChange fnPeerEdgeSpec)

/-- ITS FALSE NEIGHBOUR: 'it returns false'. Refute it at one input. -/
def fnPeerEdgeWrong : ChangeSpec := { name := "fnPeerEdge", fn := fun _ => fun
  | [d1, d2] => { results := [.lit (.bool false)], args := [d1, d2] }
  | _ => none }
def FnPeerEdgeWrongFalsely : Prop := fnPeerEdgeRow.holds Tryd.pinned (OpenSpec.ofChange fnPeerEdgeWrong)

/- THE SECOND FORM. 'bulk': how many values and letters a reading holds, each counted each time it is reached (what is shared counts as often as it is met; a slice's spare places count too). A statement '..UptoSaid' is the law's where the arguments, and the package variables that the reading takes, are together of bulk at most 1048576: NARROWER than '..Said'. Prove '..Said' where nothing that the law and all that it calls make is longer than what came in: it says more and counts as full. Else prove '..UptoSaid'. A law counts once. -/
mutual
def uptoBulk {H : Type} : DataW H → Nat
  | .lit (.string bytes) => bytes.length + 1
  | .lit _ => 1
  | .nil => 1
  | .ptr d => uptoBulk d + 1
  | .slice elems spare => uptoBulkAll elems + uptoBulkAll spare + 1
  | .agg parts => uptoBulkAll parts + 1
  | .iface _ d => uptoBulk d + 1
  | .map entries => uptoBulkEntries entries + 1
  | .held _ => 1
def uptoBulkAll {H : Type} : List (DataW H) → Nat
  | [] => 0
  | d :: r => uptoBulk d + uptoBulkAll r
def uptoBulkEntries {H : Type} : List (Lit × DataW H) → Nat
  | [] => 0
  | x :: r => uptoBulkEntry x + uptoBulkEntries r
def uptoBulkEntry {H : Type} : Lit × DataW H → Nat
  | (.string bytes, d) => bytes.length + uptoBulk d + 1
  | (_, d) => uptoBulk d + 1
 end
def uptoSmall : (H : Type) → List (DataW H) → Bool := fun _ ds => decide (uptoBulkAll ds ≤ 1048576)
def OpenSpec.upto (s : _root_.Go.ChangeSpec) : _root_.Go.OpenSpec := { _root_.Go.OpenSpec.ofChange s with cond := some uptoSmall }

/-- 'laws.FnPeerEdge', WHERE WHAT IT READS IS OF BULK AT MOST 1048576: true; the input reads as it did. -/
def fnPeerEdgeUptoRow : OpenClaim := { program := "ythdbchahmbcfeaadoor", sum := "96bbed5aa6ede7e5286e5f0cbc5c2017273a74dea5fbde13caada31c4a2fdd05", func := "pub-symmory/laws.FnPeerEdge", spec := "fnPeerEdge", unfollowed := true, recurses := true, named := ["pub-symmory/pub/libp2p/core/crypto.ErrBadKeyType", "pub-symmory/pub/libp2p/core/crypto/pb.errRequired", "pub-symmory/pub/gomultihash/core.ErrLenTooLarge", "pub-symmory/pub/gomultihash/core.ErrSumNotSupported", "pub-symmory/pub/gomultihash.ErrTooShort", "pub-symmory/pub/gomultihash.ErrVarintBufferShort", "pub-symmory/pub/gomultihash.ErrVarintTooLong", "pub-symmory/pub/govarint.ErrOverflow", "pub-symmory/pub/govarint.ErrNotMinimal", "pub-symmory/pub/govarint.ErrUnderflow"], apart := false, laid := [("pub-symmory/pub/libp2p/core/crypto/pb.errRequired", laid_pub_symmory_pub_libp2p_core_crypto_pb_errRequired), ("pub-symmory/pub/govarint.ErrOverflow", laid_pub_symmory_pub_govarint_ErrOverflow), ("pub-symmory/pub/govarint.ErrUnderflow", laid_pub_symmory_pub_govarint_ErrUnderflow), ("pub-symmory/pub/govarint.ErrNotMinimal", laid_pub_symmory_pub_govarint_ErrNotMinimal), ("pub-symmory/pub/gomultihash/core.ErrSumNotSupported", laid_pub_symmory_pub_gomultihash_core_ErrSumNotSupported), ("pub-symmory/pub/gomultihash/core.ErrLenTooLarge", laid_pub_symmory_pub_gomultihash_core_ErrLenTooLarge), ("pub-symmory/pub/gomultihash.ErrTooShort", laid_pub_symmory_pub_gomultihash_ErrTooShort), ("pub-symmory/pub/gomultihash.ErrVarintBufferShort", laid_pub_symmory_pub_gomultihash_ErrVarintBufferShort), ("pub-symmory/pub/gomultihash.ErrVarintTooLong", laid_pub_symmory_pub_gomultihash_ErrVarintTooLong), ("pub-symmory/pub/libp2p/core/crypto.ErrBadKeyType", laid_pub_symmory_pub_libp2p_core_crypto_ErrBadKeyType)], narrowed := true }
def FnPeerEdgeUptoSaid : Prop := fnPeerEdgeUptoRow.holds Tryd.pinned (OpenSpec.upto fnPeerEdgeSpec)

end Rows
end Go.Proofs.YthdbchahmbcfeaaDoor
