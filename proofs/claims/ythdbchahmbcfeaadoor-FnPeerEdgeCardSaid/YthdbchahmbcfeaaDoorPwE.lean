/- Groups: whatever they are, the call returns, and takes no more than there is. ConsumeFieldValue. -/
import Derived.Test.YthdbchahmbcfeaaDoorPwD
namespace Go.Proofs.YthdbchahmbcfeaaDoor
open Go Go.RowKit
set_option linter.unusedVariables false
set_option linter.unusedSimpArgs false
set_option maxRecDepth 100000

def lenOf : Value → Nat | .slice _ n _ => n | _ => 0
def GrpRel (w : World) (n : Nat) (b : Value) (wr : World) : Prop := ∃ A' n' c' l', b = .slice A' n' c' ∧ Rd wr A' n' c' l' ∧ n' ≤ n ∧ Kp no w wr

theorem FVo3 {l : List Int} {m : Int} (h0 : -10 ≤ m) (h1 : m ≤ l.length) : FVo 3 l (.returned (.int .i64 m)) := ⟨m, rfl, h0, h1, fun h => absurd rfl h⟩

end Go.Proofs.YthdbchahmbcfeaaDoor
