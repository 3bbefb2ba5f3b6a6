/- More readers of protowire: bytes, four and eight bytes, the value of a field. -/
import Derived.Test.YthdbchahmbcfeaaDoorPwB
namespace Go.Proofs.YthdbchahmbcfeaaDoor
open Go Go.RowKit
set_option linter.unusedVariables false
set_option linter.unusedSimpArgs false
set_option maxRecDepth 100000

/-- Bytes behind their number: the number, and how many bytes it takes. -/
def bsz (l : List Int) : Option (Int × Int) := match rv 10 l with
  | none => none
  | some (v, k) => if v ≤ l.length - k then some (v, k) else none
theorem bsz_some {l : List Int} {v k : Int} (hb : Byt l) (h : bsz l = some (v, k)) : 0 ≤ v ∧ 1 ≤ k ∧ k + v ≤ l.length ∧ rv 10 l = some (v, k) := by
  unfold bsz at h
  split at h
  · cases h
  · rename_i v' k' hr
    split at h
    · injection h with h
      simp only [Prod.mk.injEq] at h
      obtain ⟨rfl, rfl⟩ := h
      have := rv_len 10 l _ _ hr
      have := rv_u64 hb hr
      exact ⟨by omega, by omega, by omega, hr⟩
    · cases h
/-- The bytes themselves. -/
def bval (l : List Int) (v k : Int) : List Int := (l.drop k.toNat).take v.toNat

end Go.Proofs.YthdbchahmbcfeaaDoor
