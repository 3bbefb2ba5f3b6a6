/- The readers of protowire: tags, bytes, four and eight bytes, the value of a field. -/
import Derived.Test.YthdbchahmbcfeaaDoorPwA
import Derived.Deep.QuietTactic
import Derived.BigQuiet
namespace Go.Proofs.YthdbchahmbcfeaaDoor
open Go Go.RowKit
set_option linter.unusedVariables false
set_option linter.unusedSimpArgs false
set_option maxRecDepth 100000

theorem Tryd.und_bytes : Tryd.prog.underlying 22 = some (.slice 5) := by kernel_rfl
theorem Tryd.und_byte : Tryd.prog.underlying 5 = some (.int .u8) := by kernel_rfl
theorem Tryd.size_byte : (Tryd.prog.info? 5).map (fun i => i.size) = some 1 := by kernel_rfl

theorem u64_and7 (x : Int) (h0 : 0 ≤ x) (h1 : x < 18446744073709551616) : bits .and .u64 x 7 = x % 8 := by
  rw [u64_and x 7 h0 h1 (by omega) (by omega)]
  have : x.toNat &&& 7 = x.toNat % 8 := Nat.and_two_pow_sub_one_eq_mod x.toNat 3
  rw [show (7 : Int).toNat = 7 from rfl, this]; omega

/-- What stands at the head of a field: its number, its wire, how many bytes. -/
def tag (l : List Int) : Option (Int × Int × Int) := match rv 10 l with
  | none => none
  | some (v, k) => if v / 8 < 1 ∨ 2147483647 < v / 8 then none else some (v / 8, v % 8, k)
theorem tag_some {l : List Int} {f t k : Int} (hb : Byt l) (h : tag l = some (f, t, k)) : 1 ≤ f ∧ f ≤ 2147483647 ∧ 0 ≤ t ∧ t < 8 ∧ 1 ≤ k ∧ k ≤ l.length ∧ rv 10 l = some (f * 8 + t, k) := by
  unfold tag at h
  split at h
  · cases h
  · rename_i v k' hr
    split at h
    · cases h
    · injection h with h
      simp only [Prod.mk.injEq] at h
      obtain ⟨rfl, rfl, rfl⟩ := h
      have := rv_len 10 l v k' hr
      have := rv_u64 hb hr
      refine ⟨by omega, by omega, by omega, by omega, by omega, by omega, ?_⟩
      rw [hr, show v / 8 * 8 + v % 8 = v from by omega]

end Go.Proofs.YthdbchahmbcfeaaDoor
