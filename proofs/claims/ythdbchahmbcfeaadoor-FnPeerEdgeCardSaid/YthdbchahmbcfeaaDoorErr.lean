/- The errors that package-level variables hold; ParseError. -/
import Derived.Test.YthdbchahmbcfeaaDoorBase
import Derived.Test.YthdbchahmbcfeaaDoorProg
import Derived.IntWalk
namespace Go.Proofs.YthdbchahmbcfeaaDoor
open Go Go.RowKit
set_option linter.unusedVariables false
set_option linter.unusedSimpArgs false
set_option maxRecDepth 100000

theorem Tryd.und_bytes : Tryd.prog.underlying 22 = some (.slice 5) := by kernel_rfl
theorem Tryd.und_byte : Tryd.prog.underlying 5 = some (.int .u8) := by kernel_rfl
theorem Tryd.size_byte : (Tryd.prog.info? 5).map (fun i => i.size) = some 1 := by kernel_rfl
/-- Variable g holds an error. -/
def IsErr (w : World) (g : Nat) : Prop := ∃ t v, w.cell? ⟨g, 0, none⟩ = some (.iface t v)
theorem IsErr.keep {S : Nat → Prop} {w w' : World} {g : Nat} (h : IsErr w g) (k : Kp S w w') (hn : ¬ S g) : IsErr w' g := by
  obtain ⟨t, v, hc⟩ := h
  exact ⟨t, v, k.cell hc hn⟩
theorem IsErr.keepN {w w' : World} {g : Nat} (h : IsErr w g) (k : Kp no w w') : IsErr w' g := h.keep k (fun h => h)
/-- A value that is an error. -/
def Bad (e : Ending) : Prop := ∃ t v, e = .returned (.iface t v)

end Go.Proofs.YthdbchahmbcfeaaDoor
