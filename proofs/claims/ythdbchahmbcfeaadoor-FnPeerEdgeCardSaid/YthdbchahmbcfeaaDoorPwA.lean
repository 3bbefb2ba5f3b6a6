/- ConsumeVarint walked: its twenty ways. -/
import Derived.Test.YthdbchahmbcfeaaDoorProg
import Derived.Test.YthdbchahmbcfeaaDoorWire
import Derived.IntWalk
namespace Go.Proofs.YthdbchahmbcfeaaDoor
open Go Go.RowKit
set_option linter.unusedVariables false
set_option linter.unusedSimpArgs false
set_option maxRecDepth 100000

def CVo (r : Option (Int × Int)) (e : Ending) : Prop := match r with
  | some p => e = .returned (.tuple #[.int .u64 p.1, .int .i64 p.2])
  | none => ∃ k : Int, k < 0 ∧ -10 ≤ k ∧ e = .returned (.tuple #[.int .u64 0, .int .i64 k])
theorem CVo_some {v k v' k' : Int} (h : v' = v) (h' : k' = k) : CVo (some (v, k)) (.returned (.tuple #[.int .u64 v', .int .i64 k'])) := by subst h; subst h'; rfl
theorem CVo_none {k : Int} (h : k < 0) (h' : -10 ≤ k) : CVo none (.returned (.tuple #[.int .u64 0, .int .i64 k])) := ⟨k, h, h', rfl⟩

end Go.Proofs.YthdbchahmbcfeaaDoor
