/- The reference's reader of numbers: wireNumber. -/
import Derived.Test.YthdbchahmbcfeaaDoorBytes
import Derived.Test.YthdbchahmbcfeaaDoorWire
namespace Go.Proofs.YthdbchahmbcfeaaDoor
open Go Go.RowKit
set_option linter.unusedVariables false
set_option linter.unusedSimpArgs false
set_option maxRecDepth 100000

theorem u8_and127 (c : Int) (h0 : 0 ≤ c) (h1 : c < 256) : bits .and .u8 c 127 = c % 128 := by
  rw [u8_and c 127 h0 h1 (by omega) (by omega)]
  have : c.toNat &&& (127 : Int).toNat = c.toNat % 128 := Nat.and_two_pow_sub_one_eq_mod c.toNat 7
  rw [this]; omega
theorem u64_join (i : Nat) (C : Nat) (hC : C = 2 ^ i) (x y : Int) (hx0 : 0 ≤ x) (hx : x < C) (hC2 : C ≤ 9223372036854775808) (hy0 : 0 ≤ y) (hy : y * C < 18446744073709551616) : bits .or .u64 x (y * C) = x + y * C := by
  have hy1 : 0 ≤ y * C := Int.mul_nonneg hy0 (by omega)
  rw [u64_or x _ hx0 (by omega) hy1 hy, Nat.or_comm]
  have e : (y * C).toNat = y.toNat * 2 ^ i := by
    obtain ⟨m, rfl⟩ := Int.eq_ofNat_of_zero_le hy0
    rw [← Int.natCast_mul, Int.toNat_natCast, Int.toNat_natCast, hC]
  rw [nat_join i _ _ (by rw [e, Nat.mul_mod_left]) (by omega)]
  omega

def rvf (x : Int) (k : Nat) (p : Int × Int) : Int × Int := (x + 128 ^ k * p.1, k + p.2)
/-- What is known behind k bytes. -/
def RvAt (l : List Int) (x : Int) (k : Nat) : Prop := rv 10 l = (rv (10 - k) (l.drop k)).map (rvf x k)
theorem RvAt.start (l : List Int) : RvAt l 0 0 := by
  unfold RvAt
  have : rvf 0 0 = id := by funext p; obtain ⟨a, b⟩ := p; simp [rvf]
  rw [this]; simp
theorem drop_at (l : List Int) (k : Nat) (h : k < l.length) : l.drop k = l.getD k 0 :: l.drop (k + 1) := by
  rw [List.drop_eq_getElem_cons h]; simp [List.getD_eq_getElem?_getD, List.getElem?_eq_getElem h]
theorem RvAt.next {l : List Int} {x y : Int} {k : Nat} (h : RvAt l x k) (hk : k ≤ 8) (hlt : k < l.length) (hy : l.getD k 0 = y) (hge : 128 ≤ y) : RvAt l (x + (y - 128) * 128 ^ k) (k + 1) := by
  unfold RvAt at *
  rw [h, drop_at l k hlt, hy, show 10 - k = (9 - k) + 1 from by omega, show 10 - (k + 1) = 9 - k from by omega, rv, if_neg (by omega), if_neg (by omega), Option.map_map]
  congr 1
  funext p
  simp only [Function.comp, rvf, Prod.mk.injEq]
  constructor
  · rw [Int.pow_succ, Int.mul_add, Int.mul_sub, Int.sub_mul, Int.mul_assoc (128 ^ k) 128 p.1, Int.mul_comm y (128 ^ k)]; omega
  · omega
theorem RvAt.end_ {l : List Int} {x y : Int} {k : Nat} (h : RvAt l x k) (hk : k ≤ 9) (hlt : k < l.length) (hy : l.getD k 0 = y) (hlt' : y < 128) (h9 : k = 9 → y < 2) : rv 10 l = some (x + y * 128 ^ k, (k : Int) + 1) := by
  unfold RvAt at *
  rw [h, drop_at l k hlt, hy, show 10 - k = (9 - k) + 1 from by omega, rv, if_pos hlt', if_neg (by omega)]
  simp [rvf, Int.mul_comm]
theorem RvAt.over {l : List Int} {x y : Int} (h : RvAt l x 9) (hlt : 9 < l.length) (hy : l.getD 9 0 = y) (h2 : 2 ≤ y) : rv 10 l = none := by
  unfold RvAt at *
  rw [h, drop_at l 9 hlt, hy, show 10 - 9 = 0 + 1 from rfl, rv]
  split
  · rw [if_pos ⟨rfl, h2⟩]; rfl
  · rw [if_pos rfl]; rfl
theorem RvAt.short {l : List Int} {x : Int} {k : Nat} (h : RvAt l x k) (hle : l.length ≤ k) : rv 10 l = none := by
  unfold RvAt at *
  rw [h, List.drop_eq_nil_of_le hle]
  cases (10 - k) <;> rfl

/-- How it ends. -/
def NumO (l : List Int) (e : Ending) : Prop := match rv 10 l with
  | some p => e = .returned (.tuple #[.int .u64 p.1, .int .i64 p.2])
  | none => e = .returned (.tuple #[.int .u64 0, .int .i64 0])
theorem NumO.some {l : List Int} {v k : Int} {e : Ending} (h : rv 10 l = some (v, k)) (he : e = .returned (.tuple #[.int .u64 v, .int .i64 k])) : NumO l e := by unfold NumO; rw [h]; exact he
theorem NumO.none {l : List Int} {e : Ending} (h : rv 10 l = none) (he : e = .returned (.tuple #[.int .u64 0, .int .i64 0])) : NumO l e := by unfold NumO; rw [h]; exact he
def NRel (l : List Int) (n : Nat) (a i : Value) : Prop := ∃ (x : Int) (k : Nat), a = .int .u64 x ∧ i = .int .i64 k ∧ k ≤ n ∧ k ≤ 9 ∧ 0 ≤ x ∧ x < 128 ^ k ∧ RvAt l x k

end Go.Proofs.YthdbchahmbcfeaaDoor
