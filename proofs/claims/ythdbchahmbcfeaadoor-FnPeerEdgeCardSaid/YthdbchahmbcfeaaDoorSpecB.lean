/- The reference's key: KeyBytes, KeyKind; the laws' keyField, keyNumber. -/
import Derived.Test.YthdbchahmbcfeaaDoorSpecA
namespace Go.Proofs.YthdbchahmbcfeaaDoor
open Go Go.RowKit
set_option linter.unusedVariables false
set_option linter.unusedSimpArgs false
set_option maxRecDepth 100000

theorem wrap_ku (k : Int) (h0 : -2147483648 ≤ k) (h1 : k ≤ 2147483647) : IntKind.u64.wrap k = ku k := by
  unfold ku
  have e : IntKind.u64.wrap k = k % 18446744073709551616 := by simp [IntKind.wrap, IntKind.bits, IntKind.signed]
  rw [e]
  split <;> omega
theorem wb_len (f : Int) (l : List Int) : (wb f l).length = 1 + (vint l.length).length + l.length := by simp only [wb, List.length_append, List.length_cons, List.length_nil]
theorem kb_len (k : Int) (l : List Int) : (kb k l).length ≤ 32 + l.length := by
  have a := (vint_len (ku k)).2
  have b := (vint_len l.length).2
  simp only [kb, List.length_append, List.length_cons, List.length_nil, wb_len]; omega
theorem kb_byt {k : Int} {l : List Int} (h0 : -2147483648 ≤ k) (h1 : k ≤ 2147483647) (hl : Byt l) (hn : l.length ≤ 1099511627776) : Byt (kb k l) :=
  ((Byt.one (by omega) (by omega)).app (vint_byt _ (ku_range k h0 h1).1 (ku_range k h0 h1).2)).app (wb_byt (by omega) (by omega) hl hn)

end Go.Proofs.YthdbchahmbcfeaaDoor
