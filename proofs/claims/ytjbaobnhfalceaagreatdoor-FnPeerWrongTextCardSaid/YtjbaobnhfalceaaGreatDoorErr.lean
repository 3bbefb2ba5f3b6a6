/- The errors that package-level variables hold; ParseError. -/
import Derived.Test.YtjbaobnhfalceaaGreatDoorBase
import Derived.Test.YtjbaobnhfalceaaGreatDoorProg
import Derived.IntWalk
namespace Go.Proofs.YtjbaobnhfalceaaGreatDoor
open Go Go.RowKit
set_option linter.unusedVariables false
set_option linter.unusedSimpArgs false
set_option maxRecDepth 100000

theorem Tryz.und_bytes : Tryz.prog.underlying 23 = some (.slice 5) := by kernel_rfl
theorem Tryz.und_byte : Tryz.prog.underlying 5 = some (.int .u8) := by kernel_rfl
theorem Tryz.size_byte : (Tryz.prog.info? 5).map (fun i => i.size) = some 1 := by kernel_rfl
/-- Variable g holds an error. -/
def IsErr (w : World) (g : Nat) : Prop := ∃ t v, w.cell? ⟨g, 0, none⟩ = some (.iface t v)
theorem IsErr.keep {S : Nat → Prop} {w w' : World} {g : Nat} (h : IsErr w g) (k : Kp S w w') (hn : ¬ S g) : IsErr w' g := by
  obtain ⟨t, v, hc⟩ := h
  exact ⟨t, v, k.cell hc hn⟩
theorem IsErr.keepN {w w' : World} {g : Nat} (h : IsErr w g) (k : Kp no w w') : IsErr w' g := h.keep k (fun h => h)
/-- A value that is an error. -/
def Bad (e : Ending) : Prop := ∃ t v, e = .returned (.iface t v)

end Go.Proofs.YtjbaobnhfalceaaGreatDoor
