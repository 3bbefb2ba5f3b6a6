/- Numbers of seven bits a byte, as they are read: plain. The reference's reader of numbers: wireNumber. AppendVarint: a number of seven bits a byte is put behind bytes of one's own. govarint's numbers, plain: those in the shortest form, of up to nine bytes; the errors of a multihash. slices.Grow of nothing, slices.Concat; lists of bytes that are read; AppendTag, AppendBytes. The reference's numbers and fields as they are written: wireVarint, wireBytes, KeyBytes. -/
import Derived.Test.YtflafpklphgbpaaGreatDoorBase
import Derived.Test.YtflafpklphgbpaaGreatDoorPlA
namespace Go.Proofs.YtflafpklphgbpaaGreatDoor
set_option linter.unusedVariables false
set_option linter.unusedSimpArgs false

/-- A number at the head of bytes, of at most k bytes, and how many it takes; the k-th byte is 0 or 1. -/
def rv : Nat → List Int → Option (Int × Int)
  | _, [] => none
  | 0, _ :: _ => none
  | k + 1, c :: l => if c < 128 then (if k = 0 ∧ 2 ≤ c then none else some (c, 1)) else if k = 0 then none else (rv k l).map fun p => (c - 128 + 128 * p.1, p.2 + 1)

theorem rv_len : ∀ (k : Nat) (l : List Int) (v n : Int), rv k l = some (v, n) → 1 ≤ n ∧ n ≤ l.length ∧ n ≤ k
  | _, [], _, _, h => by simp [rv] at h
  | 0, _ :: _, _, _, h => by simp [rv] at h
  | k + 1, c :: l, v, n, h => by
    unfold rv at h
    split at h
    · split at h
      · cases h
      · injection h with h; injection h with h1 h2; subst h2; simp; omega
    · split at h
      · cases h
      · rename_i hk
        cases hr : rv k l with
        | none => rw [hr] at h; cases h
        | some p =>
          rw [hr] at h
          obtain ⟨v', n'⟩ := p
          simp at h
          have := rv_len k l v' n' hr
          simp; omega
theorem pow_one_le : ∀ k : Nat, (1 : Int) ≤ 128 ^ k
  | 0 => by simp
  | k + 1 => by rw [Int.pow_succ]; have := pow_one_le k; omega
theorem rv_range : ∀ (k : Nat) (l : List Int) (v n : Int), Byt l → rv (k + 1) l = some (v, n) → 0 ≤ v ∧ v < 2 * 128 ^ k
  | k, [], _, _, _, h => by simp [rv] at h
  | 0, c :: l, v, n, hb, h => by
    have hc := hb c (by simp)
    simp [rv] at h
    omega
  | k + 1, c :: l, v, n, hb, h => by
    have hc := hb c (by simp)
    have hp : (1 : Int) ≤ 128 ^ k := pow_one_le k
    have hpp : (128 : Int) ^ (k + 1) = 128 ^ k * 128 := Int.pow_succ ..
    unfold rv at h
    split at h
    · simp at h; obtain ⟨rfl, _⟩ := h; omega
    · simp only [Nat.add_eq_zero_iff, Nat.succ_ne_zero, and_false, if_false] at h
      cases hr : rv (k + 1) l with
      | none => rw [hr] at h; simp at h
      | some p =>
        rw [hr] at h
        obtain ⟨v', n'⟩ := p
        simp at h
        have := rv_range k l v' n' (fun x hx => hb x (by simp [hx])) hr
        omega

theorem rv_u64 {l : List Int} {v n : Int} (hb : Byt l) (h : rv 10 l = some (v, n)) : 0 ≤ v ∧ v < 18446744073709551616 := by
  have := rv_range 9 l v n hb h
  omega

def cvN (n : Int) (b0 b1 b2 b3 b4 b5 b6 b7 b8 b9 : Int) : Option (Int × Int) :=
  if b0 < 128 then some (b0, 1) else if n ≤ 1 then none else
  if b1 < 128 then some ((b0 - 128) * 1 + b1 * 128, 2) else if n ≤ 2 then none else
  if b2 < 128 then some ((b0 - 128) * 1 + (b1 - 128) * 128 + b2 * 16384, 3) else if n ≤ 3 then none else
  if b3 < 128 then some ((b0 - 128) * 1 + (b1 - 128) * 128 + (b2 - 128) * 16384 + b3 * 2097152, 4) else if n ≤ 4 then none else
  if b4 < 128 then some ((b0 - 128) * 1 + (b1 - 128) * 128 + (b2 - 128) * 16384 + (b3 - 128) * 2097152 + b4 * 268435456, 5) else if n ≤ 5 then none else
  if b5 < 128 then some ((b0 - 128) * 1 + (b1 - 128) * 128 + (b2 - 128) * 16384 + (b3 - 128) * 2097152 + (b4 - 128) * 268435456 + b5 * 34359738368, 6) else if n ≤ 6 then none else
  if b6 < 128 then some ((b0 - 128) * 1 + (b1 - 128) * 128 + (b2 - 128) * 16384 + (b3 - 128) * 2097152 + (b4 - 128) * 268435456 + (b5 - 128) * 34359738368 + b6 * 4398046511104, 7) else if n ≤ 7 then none else
  if b7 < 128 then some ((b0 - 128) * 1 + (b1 - 128) * 128 + (b2 - 128) * 16384 + (b3 - 128) * 2097152 + (b4 - 128) * 268435456 + (b5 - 128) * 34359738368 + (b6 - 128) * 4398046511104 + b7 * 562949953421312, 8) else if n ≤ 8 then none else
  if b8 < 128 then some ((b0 - 128) * 1 + (b1 - 128) * 128 + (b2 - 128) * 16384 + (b3 - 128) * 2097152 + (b4 - 128) * 268435456 + (b5 - 128) * 34359738368 + (b6 - 128) * 4398046511104 + (b7 - 128) * 562949953421312 + b8 * 72057594037927936, 9) else if n ≤ 9 then none else
  if b9 < 2 then some ((b0 - 128) * 1 + (b1 - 128) * 128 + (b2 - 128) * 16384 + (b3 - 128) * 2097152 + (b4 - 128) * 268435456 + (b5 - 128) * 34359738368 + (b6 - 128) * 4398046511104 + (b7 - 128) * 562949953421312 + (b8 - 128) * 72057594037927936 + b9 * 9223372036854775808, 10) else none

theorem rv_step (k : Nat) (l : List Int) : rv (k + 1) l = if l.length = 0 then none else if l.getD 0 0 < 128 then (if k = 0 ∧ 2 ≤ l.getD 0 0 then none else some (l.getD 0 0, 1)) else if k = 0 then none else (rv k (l.drop 1)).map fun p => (l.getD 0 0 - 128 + 128 * p.1, p.2 + 1) := by
  cases l with
  | nil => simp [rv]
  | cons c l => simp [rv]

theorem cvN_eq (l : List Int) (h : 0 < l.length) : cvN l.length (l.getD 0 0) (l.getD 1 0) (l.getD 2 0) (l.getD 3 0) (l.getD 4 0) (l.getD 5 0) (l.getD 6 0) (l.getD 7 0) (l.getD 8 0) (l.getD 9 0) = rv 10 l := by
  have g : ∀ i j, (l.drop i).getD j 0 = l.getD (i + j) 0 := fun i j => by simp [List.getD_eq_getElem?_getD, List.getElem?_drop]
  unfold cvN
  simp only [rv_step, g, List.drop_drop, List.length_drop, Nat.reduceAdd, Nat.reduceEqDiff, Nat.succ_ne_zero, false_and, if_false, Nat.add_zero, true_and]
  have m0 : ¬ (l.length = 0) := by omega
  by_cases c0 : l.getD 0 0 < 128
  · simp only [m0, c0, if_true, if_false, Option.map_some] <;> first | rfl | (congr 2 <;> omega) 
  by_cases n0 : (l.length : Int) ≤ 1
  · have q : l.length - 1 = 0 := by omega
    simp only [m0, c0, n0, q, if_true, if_false, Option.map_none]
  have m1 : ¬ (l.length - 1 = 0) := by omega
  by_cases c1 : l.getD 1 0 < 128
  · simp only [m0, m1, c0, c1, n0, if_true, if_false, Option.map_some] <;> first | rfl | (congr 2 <;> omega) 
  by_cases n1 : (l.length : Int) ≤ 2
  · have q : l.length - 2 = 0 := by omega
    simp only [m0, m1, c0, c1, n0, n1, q, if_true, if_false, Option.map_none]
  have m2 : ¬ (l.length - 2 = 0) := by omega
  by_cases c2 : l.getD 2 0 < 128
  · simp only [m0, m1, m2, c0, c1, c2, n0, n1, if_true, if_false, Option.map_some] <;> first | rfl | (congr 2 <;> omega) 
  by_cases n2 : (l.length : Int) ≤ 3
  · have q : l.length - 3 = 0 := by omega
    simp only [m0, m1, m2, c0, c1, c2, n0, n1, n2, q, if_true, if_false, Option.map_none]
  have m3 : ¬ (l.length - 3 = 0) := by omega
  by_cases c3 : l.getD 3 0 < 128
  · simp only [m0, m1, m2, m3, c0, c1, c2, c3, n0, n1, n2, if_true, if_false, Option.map_some] <;> first | rfl | (congr 2 <;> omega) 
  by_cases n3 : (l.length : Int) ≤ 4
  · have q : l.length - 4 = 0 := by omega
    simp only [m0, m1, m2, m3, c0, c1, c2, c3, n0, n1, n2, n3, q, if_true, if_false, Option.map_none]
  have m4 : ¬ (l.length - 4 = 0) := by omega
  by_cases c4 : l.getD 4 0 < 128
  · simp only [m0, m1, m2, m3, m4, c0, c1, c2, c3, c4, n0, n1, n2, n3, if_true, if_false, Option.map_some] <;> first | rfl | (congr 2 <;> omega) 
  by_cases n4 : (l.length : Int) ≤ 5
  · have q : l.length - 5 = 0 := by omega
    simp only [m0, m1, m2, m3, m4, c0, c1, c2, c3, c4, n0, n1, n2, n3, n4, q, if_true, if_false, Option.map_none]
  have m5 : ¬ (l.length - 5 = 0) := by omega
  by_cases c5 : l.getD 5 0 < 128
  · simp only [m0, m1, m2, m3, m4, m5, c0, c1, c2, c3, c4, c5, n0, n1, n2, n3, n4, if_true, if_false, Option.map_some] <;> first | rfl | (congr 2 <;> omega) 
  by_cases n5 : (l.length : Int) ≤ 6
  · have q : l.length - 6 = 0 := by omega
    simp only [m0, m1, m2, m3, m4, m5, c0, c1, c2, c3, c4, c5, n0, n1, n2, n3, n4, n5, q, if_true, if_false, Option.map_none]
  have m6 : ¬ (l.length - 6 = 0) := by omega
  by_cases c6 : l.getD 6 0 < 128
  · simp only [m0, m1, m2, m3, m4, m5, m6, c0, c1, c2, c3, c4, c5, c6, n0, n1, n2, n3, n4, n5, if_true, if_false, Option.map_some] <;> first | rfl | (congr 2 <;> omega) 
  by_cases n6 : (l.length : Int) ≤ 7
  · have q : l.length - 7 = 0 := by omega
    simp only [m0, m1, m2, m3, m4, m5, m6, c0, c1, c2, c3, c4, c5, c6, n0, n1, n2, n3, n4, n5, n6, q, if_true, if_false, Option.map_none]
  have m7 : ¬ (l.length - 7 = 0) := by omega
  by_cases c7 : l.getD 7 0 < 128
  · simp only [m0, m1, m2, m3, m4, m5, m6, m7, c0, c1, c2, c3, c4, c5, c6, c7, n0, n1, n2, n3, n4, n5, n6, if_true, if_false, Option.map_some] <;> first | rfl | (congr 2 <;> omega) 
  by_cases n7 : (l.length : Int) ≤ 8
  · have q : l.length - 8 = 0 := by omega
    simp only [m0, m1, m2, m3, m4, m5, m6, m7, c0, c1, c2, c3, c4, c5, c6, c7, n0, n1, n2, n3, n4, n5, n6, n7, q, if_true, if_false, Option.map_none]
  have m8 : ¬ (l.length - 8 = 0) := by omega
  by_cases c8 : l.getD 8 0 < 128
  · simp only [m0, m1, m2, m3, m4, m5, m6, m7, m8, c0, c1, c2, c3, c4, c5, c6, c7, c8, n0, n1, n2, n3, n4, n5, n6, n7, if_true, if_false, Option.map_some] <;> first | rfl | (congr 2 <;> omega) 
  by_cases n8 : (l.length : Int) ≤ 9
  · have q : l.length - 9 = 0 := by omega
    simp only [m0, m1, m2, m3, m4, m5, m6, m7, m8, c0, c1, c2, c3, c4, c5, c6, c7, c8, n0, n1, n2, n3, n4, n5, n6, n7, n8, q, if_true, if_false, Option.map_none]
  have m9 : ¬ (l.length - 9 = 0) := by omega
  by_cases c9 : l.getD 9 0 < 128
  · by_cases d : l.getD 9 0 < 2
    · have d' : ¬ 2 ≤ l.getD 9 0 := by omega
      simp only [m0, m1, m2, m3, m4, m5, m6, m7, m8, m9, c0, c1, c2, c3, c4, c5, c6, c7, c8, c9, n0, n1, n2, n3, n4, n5, n6, n7, n8, d, d', if_true, if_false, Option.map_some] <;> first | rfl | (congr 2 <;> omega)
    · have d' : 2 ≤ l.getD 9 0 := by omega
      simp only [m0, m1, m2, m3, m4, m5, m6, m7, m8, m9, c0, c1, c2, c3, c4, c5, c6, c7, c8, c9, n0, n1, n2, n3, n4, n5, n6, n7, n8, d, d', if_true, if_false, Option.map_none]
  · have d : ¬ l.getD 9 0 < 2 := by omega
    simp only [m0, m1, m2, m3, m4, m5, m6, m7, m8, m9, c0, c1, c2, c3, c4, c5, c6, c7, c8, c9, n0, n1, n2, n3, n4, n5, n6, n7, n8, d, if_true, if_false, Option.map_none]
end Go.Proofs.YtflafpklphgbpaaGreatDoor
namespace Go.Proofs.YtflafpklphgbpaaGreatDoor
open Go Go.RowKit
set_option linter.unusedVariables false
set_option linter.unusedSimpArgs false
set_option maxRecDepth 100000

theorem u8_and127 (c : Int) (h0 : 0 ≤ c) (h1 : c < 256) : bits .and .u8 c 127 = c % 128 := by
  rw [u8_and c 127 h0 h1 (by omega) (by omega)]
  have : c.toNat &&& (127 : Int).toNat = c.toNat % 128 := Nat.and_two_pow_sub_one_eq_mod c.toNat 7
  rw [this]; omega
theorem u64_join (i : Nat) (C : Nat) (hC : C = 2 ^ i) (x y : Int) (hx0 : 0 ≤ x) (hx : x < C) (hC2 : C ≤ 9223372036854775808) (hy0 : 0 ≤ y) (hy : y * C < 18446744073709551616) : bits .or .u64 x (y * C) = x + y * C := by
  have hy1 : 0 ≤ y * C := Int.mul_nonneg hy0 (by omega)
  rw [u64_or x _ hx0 (by omega) hy1 hy, Nat.or_comm]
  have e : (y * C).toNat = y.toNat * 2 ^ i := by
    obtain ⟨m, rfl⟩ := Int.eq_ofNat_of_zero_le hy0
    rw [← Int.natCast_mul, Int.toNat_natCast, Int.toNat_natCast, hC]
  rw [nat_join i _ _ (by rw [e, Nat.mul_mod_left]) (by omega)]
  omega

def rvf (x : Int) (k : Nat) (p : Int × Int) : Int × Int := (x + 128 ^ k * p.1, k + p.2)
/-- What is known behind k bytes. -/
def RvAt (l : List Int) (x : Int) (k : Nat) : Prop := rv 10 l = (rv (10 - k) (l.drop k)).map (rvf x k)
theorem RvAt.start (l : List Int) : RvAt l 0 0 := by
  unfold RvAt
  have : rvf 0 0 = id := by funext p; obtain ⟨a, b⟩ := p; simp [rvf]
  rw [this]; simp
theorem drop_at (l : List Int) (k : Nat) (h : k < l.length) : l.drop k = l.getD k 0 :: l.drop (k + 1) := by
  rw [List.drop_eq_getElem_cons h]; simp [List.getD_eq_getElem?_getD, List.getElem?_eq_getElem h]
theorem RvAt.next {l : List Int} {x y : Int} {k : Nat} (h : RvAt l x k) (hk : k ≤ 8) (hlt : k < l.length) (hy : l.getD k 0 = y) (hge : 128 ≤ y) : RvAt l (x + (y - 128) * 128 ^ k) (k + 1) := by
  unfold RvAt at *
  rw [h, drop_at l k hlt, hy, show 10 - k = (9 - k) + 1 from by omega, show 10 - (k + 1) = 9 - k from by omega, rv, if_neg (by omega), if_neg (by omega), Option.map_map]
  congr 1
  funext p
  simp only [Function.comp, rvf, Prod.mk.injEq]
  constructor
  · rw [Int.pow_succ, Int.mul_add, Int.mul_sub, Int.sub_mul, Int.mul_assoc (128 ^ k) 128 p.1, Int.mul_comm y (128 ^ k)]; omega
  · omega
theorem RvAt.end_ {l : List Int} {x y : Int} {k : Nat} (h : RvAt l x k) (hk : k ≤ 9) (hlt : k < l.length) (hy : l.getD k 0 = y) (hlt' : y < 128) (h9 : k = 9 → y < 2) : rv 10 l = some (x + y * 128 ^ k, (k : Int) + 1) := by
  unfold RvAt at *
  rw [h, drop_at l k hlt, hy, show 10 - k = (9 - k) + 1 from by omega, rv, if_pos hlt', if_neg (by omega)]
  simp [rvf, Int.mul_comm]
theorem RvAt.over {l : List Int} {x y : Int} (h : RvAt l x 9) (hlt : 9 < l.length) (hy : l.getD 9 0 = y) (h2 : 2 ≤ y) : rv 10 l = none := by
  unfold RvAt at *
  rw [h, drop_at l 9 hlt, hy, show 10 - 9 = 0 + 1 from rfl, rv]
  split
  · rw [if_pos ⟨rfl, h2⟩]; rfl
  · rw [if_pos rfl]; rfl
theorem RvAt.short {l : List Int} {x : Int} {k : Nat} (h : RvAt l x k) (hle : l.length ≤ k) : rv 10 l = none := by
  unfold RvAt at *
  rw [h, List.drop_eq_nil_of_le hle]
  cases (10 - k) <;> rfl

/-- How it ends. -/
def NumO (l : List Int) (e : Ending) : Prop := match rv 10 l with
  | some p => e = .returned (.tuple #[.int .u64 p.1, .int .i64 p.2])
  | none => e = .returned (.tuple #[.int .u64 0, .int .i64 0])
theorem NumO.some {l : List Int} {v k : Int} {e : Ending} (h : rv 10 l = some (v, k)) (he : e = .returned (.tuple #[.int .u64 v, .int .i64 k])) : NumO l e := by unfold NumO; rw [h]; exact he
theorem NumO.none {l : List Int} {e : Ending} (h : rv 10 l = none) (he : e = .returned (.tuple #[.int .u64 0, .int .i64 0])) : NumO l e := by unfold NumO; rw [h]; exact he
def NRel (l : List Int) (n : Nat) (a i : Value) : Prop := ∃ (x : Int) (k : Nat), a = .int .u64 x ∧ i = .int .i64 k ∧ k ≤ n ∧ k ≤ 9 ∧ 0 ≤ x ∧ x < 128 ^ k ∧ RvAt l x k

end Go.Proofs.YtflafpklphgbpaaGreatDoor
namespace Go.Proofs.YtflafpklphgbpaaGreatDoor
open Go Go.RowKit
set_option linter.unusedVariables false
set_option linter.unusedSimpArgs false
set_option maxRecDepth 100000

/-- A number in groups of seven bits. -/
def vi : Nat → Int → List Int
  | 0, v => [v]
  | k + 1, v => if v < 128 then [v] else (v % 128 + 128) :: vi k (v / 128)
def vint (v : Int) : List Int := vi 9 v
theorem vi_len : ∀ (k : Nat) (v : Int), 1 ≤ (vi k v).length ∧ (vi k v).length ≤ k + 1
  | 0, v => by simp [vi]
  | k + 1, v => by
    unfold vi
    split
    · simp
    · have := vi_len k (v / 128); simp; omega
theorem vint_len (v : Int) : 1 ≤ (vint v).length ∧ (vint v).length ≤ 10 := vi_len 9 v
theorem vi_byt : ∀ (k : Nat) (v : Int), 0 ≤ v → v < 2 * 128 ^ (k + 1) → Byt (vi k v)
  | 0, v, h0, h1 => by simp [vi]; exact Byt.one h0 (by simp at h1; omega)
  | k + 1, v, h0, h1 => by
    unfold vi
    split
    · exact Byt.one h0 (by omega)
    · intro x hx
      rcases List.mem_cons.1 hx with rfl | hx
      · omega
      · refine vi_byt k (v / 128) (by omega) ?_ x hx
        rw [Int.pow_succ] at h1
        omega
theorem vint_byt (v : Int) (h0 : 0 ≤ v) (h1 : v < 18446744073709551616) : Byt (vint v) := vi_byt 9 v h0 (by omega)
/-- What is read of it: the number, and all of its bytes. -/
theorem rv_vi : ∀ (k : Nat) (v : Int) (r : List Int), 0 ≤ v → v < 2 * 128 ^ k → rv (k + 1) (vi k v ++ r) = some (v, ((vi k v).length : Int))
  | 0, v, r, h0, h1 => by
    simp at h1
    have a : v < 128 := by omega
    have b : ¬ 2 ≤ v := by omega
    simp [vi, rv, a, b]
  | k + 1, v, r, h0, h1 => by
    unfold vi
    split
    · simp [rv, *]
    · rw [Int.pow_succ] at h1
      have ih := rv_vi k (v / 128) r (by omega) (by omega)
      have hc : ¬ (v % 128 + 128 < 128) := by omega
      simp only [List.cons_append, rv, if_neg hc, Nat.add_eq_zero_iff, Nat.succ_ne_zero, and_false, if_false, ih, Option.map_some]
      simp
      omega
theorem rv_vint (v : Int) (r : List Int) (h0 : 0 ≤ v) (h1 : v < 18446744073709551616) : rv 10 (vint v ++ r) = some (v, ((vint v).length : Int)) := rv_vi 9 v r h0 (by omega)

theorem u64_grp (x : Int) (h0 : 0 ≤ x) (h1 : x < 18446744073709551616) : IntKind.u8.wrap (bits .or .u64 (bits .and .u64 x 127) 128) = x % 128 + 128 := by
  rw [u64_and x 127 h0 h1 (by omega) (by omega)]
  have e : x.toNat &&& (127 : Int).toNat = x.toNat % 128 := Nat.and_two_pow_sub_one_eq_mod x.toNat 7
  rw [e, u64_or _ 128 (by omega) (by omega) (by omega) (by omega), Int.toNat_natCast, Nat.or_comm]
  have e2 : (128 : Int).toNat ||| x.toNat % 128 = 128 + x.toNat % 128 := nat_join 7 128 _ (by decide) (Nat.mod_lt _ (by decide))
  rw [e2, IntKind.wrap_u8]
  omega

/-- An append's outcome. -/
structure GrownAt (w w' : World) (B : Nat) (u : Value) (A : Option Addr) (c : Nat) (l : List Int) : Prop where
  own : Own w' 5 B (.slice A l.length c) l
  rd : Rd w' A l.length c l
  kp : Kp (Of u) w w'
  went : Went w u (.slice A l.length c)
def Grown1 (w : World) (B : Nat) (u : Value) (l : List Int) (e : Ending) (w' : World) : Prop :=
  ∃ A c, e = .returned (.slice A l.length c) ∧ GrownAt w w' B u A c l
theorem Grown1.of {w w' : World} {B : Nat} {u v : Value} {l : List Int} (h : Own w' 5 B v l) (hk : Kp (Of u) w w') (hw : Went w u v) : Grown1 w B u l (.returned v) w' := by
  obtain ⟨A, c, rfl, hr, _⟩ := h.rd
  exact ⟨A, c, rfl, h, hr, hk, hw⟩
theorem Own.nonnil {w : World} {e : TypeId} {B : Nat} {v : Value} {l : List Int} (h : Own w e B v l) (hl : l ≠ []) : v ≠ .slice none 0 0 := by
  intro hv
  obtain ⟨A, c, he, hr, _⟩ := h.rd
  rw [hv] at he
  injection he with _ h1 _
  exact hl (List.eq_nil_of_length_eq_zero h1.symm)
theorem grown_lit {w w1 : World} {o : Obj} {B : Nat} {u v1 : Value} {l : List Int} (hO : Own w1 5 B v1 l) (hk : Kp (Of u) (w.alloc o) w1) (hw : Went (w.alloc o) u v1) : Grown1 w B u l (.returned v1) w1 :=
  Grown1.of hO (((Kp.refl (Of u) w).alloc o).trans hk (fun i _ h => h)) (hw.imp_right (fun ⟨b, h1, h2⟩ => ⟨b, h1, by simp at h2; omega⟩))

theorem vint_eq (v : Int) : vint v = vi 9 v := rfl
attribute [irreducible] vint
end Go.Proofs.YtflafpklphgbpaaGreatDoor
namespace Go.Proofs.YtflafpklphgbpaaGreatDoor
open Go
set_option linter.unusedVariables false
set_option linter.unusedSimpArgs false
set_option maxRecDepth 100000

structure MErrs (w : World) : Prop where
  a : IsErr w 3
  b : IsErr w 5
  c : IsErr w 4
  d : IsErr w 10
theorem MErrs.keepN {w w' : World} (h : MErrs w) (k : Kp no w w') : MErrs w' := ⟨h.a.keepN k, h.b.keepN k, h.c.keepN k, h.d.keepN k⟩

theorem vi_lt : ∀ (j k : Nat) (v : Int), v < 128 ^ k → 0 < k → (vi j v).length ≤ k
  | 0, k, v, _, hk => by simp [vi]; omega
  | j + 1, k, v, h, hk => by
    unfold vi
    split
    · simp; omega
    · rename_i hv
      cases k with
      | zero => omega
      | succ k =>
        rw [Int.pow_succ] at h
        cases k with
        | zero => simp at h; omega
        | succ k =>
          have := vi_lt j (k + 1) (v / 128) (by omega) (by omega)
          simp only [List.length_cons]; omega
theorem vi_ge : ∀ (j k : Nat) (v : Int), k ≤ j → 128 ^ k ≤ v → k + 1 ≤ (vi j v).length
  | j, 0, v, _, _ => (vi_len j v).1
  | 0, k + 1, v, h, _ => by omega
  | j + 1, k + 1, v, hj, h => by
    have hp := pow_one_le k
    rw [Int.pow_succ] at h
    unfold vi
    rw [if_neg (by omega)]
    have := vi_ge j k (v / 128) (by omega) (by omega)
    simp only [List.length_cons]; omega

/-- What FromUvarint reads. -/
def FU (l : List Int) : Option (Int × Int) := match rv 10 l with
  | some p => if p.2 ≤ 9 ∧ p.2 = ((vint p.1).length : Int) then some p else none
  | none => none
theorem FU_end {l : List Int} {x y : Int} {k : Nat} (h : RvAt l x k) (hk : k ≤ 8) (hlt : k < l.length) (hy : l.getD k 0 = y) (x0 : 0 ≤ x) (hx : x < 128 ^ k) (y0 : 0 ≤ y) (y1 : y < 128) (hm : y = 0 → k = 0) : FU l = some (x + y * 128 ^ k, (k : Int) + 1) := by
  have R := h.end_ (by omega) hlt hy y1 (by omega)
  unfold FU
  rw [R]
  simp only
  have hp := pow_one_le k
  have hl : (vint (x + y * 128 ^ k)).length = k + 1 := by
    have h1 : y * 128 ^ k ≤ 127 * 128 ^ k := Int.mul_le_mul_of_nonneg_right (by omega) (by omega)
    have hlt := vi_lt 9 (k + 1) (x + y * 128 ^ k) (by rw [Int.pow_succ]; omega) (by omega)
    rcases Int.lt_or_le 0 y with h0 | h0
    · have h2 : 1 * 128 ^ k ≤ y * 128 ^ k := Int.mul_le_mul_of_nonneg_right (by omega) (by omega)
      have := vi_ge 9 k (x + y * 128 ^ k) (by omega) (by omega)
      unfold vint; omega
    · obtain rfl := hm (by omega)
      have := (vint_len (x + y * 128 ^ 0)).1
      unfold vint at *; omega
  rw [if_pos ⟨by omega, by rw [hl]; simp⟩]
theorem FU_min {l : List Int} {x : Int} {k : Nat} (h : RvAt l x k) (hk : k ≤ 8) (hlt : k < l.length) (hy : l.getD k 0 = 0) (hx : x < 128 ^ k) (h0 : 0 < k) : FU l = none := by
  have R := h.end_ (by omega) hlt hy (by omega) (by omega)
  unfold FU
  rw [R]
  simp only
  have := vi_lt 9 k (x + 0 * 128 ^ k) (by omega) h0
  rw [if_neg]
  unfold vint
  omega
theorem FU_over {l : List Int} {x y : Int} (h : RvAt l x 8) (hlt : 8 < l.length) (hy : l.getD 8 0 = y) (hge : 128 ≤ y) : FU l = none := by
  have R := h.next (by omega) hlt hy hge
  unfold RvAt at R
  unfold FU
  cases hr : rv 10 l with
  | none => rfl
  | some p =>
    rw [hr] at R
    cases h1 : rv (10 - (8 + 1)) (l.drop (8 + 1)) with
    | none => rw [h1] at R; cases R
    | some q =>
      rw [h1] at R
      simp [rvf] at R
      obtain ⟨q1, q2⟩ := q
      have := rv_len _ _ _ _ h1
      simp only
      rw [if_neg]
      subst R
      simp only
      omega
theorem FU_short {l : List Int} {x : Int} {k : Nat} (h : RvAt l x k) (hle : l.length ≤ k) : FU l = none := by
  unfold FU
  rw [h.short hle]
theorem FU_some {l : List Int} {v k : Int} (hb : Byt l) (h : FU l = some (v, k)) : rv 10 l = some (v, k) ∧ k ≤ 9 ∧ k = ((vint v).length : Int) ∧ 0 ≤ v ∧ v < 18446744073709551616 ∧ 1 ≤ k ∧ k ≤ l.length := by
  unfold FU at h
  cases hr : rv 10 l with
  | none => rw [hr] at h; cases h
  | some p =>
    rw [hr] at h
    simp only at h
    split at h
    · rename_i hc
      injection h with h
      subst h
      have := rv_u64 hb hr
      have := rv_len _ _ _ _ hr
      exact ⟨rfl, hc.1, hc.2, by omega, by omega, by omega, by omega⟩
    · cases h
/-- How it ends. -/
def FuO (l : List Int) (e : Ending) : Prop := match FU l with
  | some p => e = .returned (.tuple #[.int .u64 p.1, .int .i64 p.2, Value.nilIface])
  | none => ∃ t v, e = .returned (.tuple #[.int .u64 0, .int .i64 0, .iface t v])
theorem FuO.some {l : List Int} {v k : Int} {e : Ending} (h : FU l = some (v, k)) (he : e = .returned (.tuple #[.int .u64 v, .int .i64 k, Value.nilIface])) : FuO l e := by unfold FuO; rw [h]; exact he
theorem FuO.none {l : List Int} {t : TypeId} {v : Value} {e : Ending} (h : FU l = none) (he : e = .returned (.tuple #[.int .u64 0, .int .i64 0, .iface t v])) : FuO l e := by unfold FuO; rw [h]; exact ⟨t, v, he⟩
end Go.Proofs.YtflafpklphgbpaaGreatDoor
namespace Go.Proofs.YtflafpklphgbpaaGreatDoor
open Go Go.RowKit
set_option linter.unusedVariables false
set_option linter.unusedSimpArgs false
set_option maxRecDepth 100000

theorem Tryz.und_int : Tryz.prog.underlying 3 = some (.int .i64) := by kernel_rfl
theorem Tryz.und_bytess : Tryz.prog.underlying 49 = some (.slice 23) := by kernel_rfl

section
variable {P : Program} {ops : Array Oper} {rest : List Oper} {o : Oper} {a : Act} {Q : Exit → Act → World → Prop}
/-- An append whose run is known, behind 'at_builtin'. -/
theorem append_step {w w1 : World} {v : Value} (hgd : o.guard = none) (s x : Operand) (ts : Array TypeId)
    (ho : o.op = .call { callee := .builtin .append, args := #[s, x], argTypes := ts }) (vs vx : Value) (hs : a.eval s = vs) (hx : a.eval x = vx)
    (hr : (Builtin.append_ ts o.type #[vs, vx]).run P w = .ok v w1) (h : wpList P ops Q rest (a.put o.dst v) w1) : wpList P ops Q (o :: rest) a w := by
  refine wpList_plain hgd fun K hK => ?_
  unfold Oper.wp execOp
  simp only [ho, resolve, invoke, builtin, Sem.run_bind, Sem.run_pure, Result.andThen_ok, List.map_toArray, List.map_cons, List.map_nil, hs, hx, hr]
  exact hK _ _ h

theorem run_grow_nil (w : World) (t ti ty e : TypeId) (ht : P.underlying t = some (.slice e)) {k : IntKind} (hti : P.underlying ti = some (.int k))
    (hinfo : (P.info? e).map (fun i => (i.zero, i.size, i.bytes)) = some (some (.int .u8 0), 1, 1)) (m : Nat) (h0 : 0 < m) (hm : m ≤ 140737488355328) :
    (Builtin.append_ #[t, ti] ty #[.slice none 0 0, .int .i64 m]).run P w = .ok (.slice (some ⟨w.heap.size, 0, none⟩) m (grownCap w m 0 e))
      (w.drew.alloc (.cells (Builtin.zeroCells #[.int .u8 0] m ++ Builtin.zeroCells #[.int .u8 0] (grownCap w m 0 e - m)) e)) := by
  obtain ⟨i, hi, hzz⟩ := Option.map_eq_some_iff.1 hinfo
  simp only [Prod.mk.injEq] at hzz
  obtain ⟨hz0, hz1, hz2⟩ := hzz
  have hw : IntKind.i64.wrap (m : Int) = m := IntWalk.i64_in _ (by omega)
  have hneg : ¬ ((m : Int) < 0) := by omega
  have hbig : ¬ (281474976710656 < (m : Int)) := by omega
  have hn : m ≠ 0 := by omega
  have h63' : ¬ (9223372036854775807 < (m : Int)) := by omega
  have h48' : ¬ (281474976710656 < Builtin.nextslicecap m 0) := by rw [nextslicecap_zero h0]; omega
  simp [Builtin.append_, run_underlying ht, run_underlying hti, sizeOf, typeInfo, zeroValue, hi, hz0, hz1, hz2, asInt, asIntOf, hw, hneg, hbig, hn, h63', h48', Question.forced, newRow, grownCap, Builtin.firstCells, Value.cells]
end

theorem size_zeros (m : Nat) : (Builtin.zeroCells #[.int .u8 0] m).size = m := by simp [Builtin.zeroCells]
/-- Room of one's own. -/
theorem Own.room (W : World) (e : TypeId) (B : Nat) (cur : Array Value) (cap : Nat) (hb : B ≤ W.heap.size) (hs : cur.size = cap) (hm : cap ≤ 9223372036854775807) :
    Own (W.alloc (.cells cur e)) e B (.slice (some ⟨W.heap.size, 0, none⟩) 0 cap) [] :=
  ⟨⟨by simp [nums], .inr ⟨W.heap.size, cap, cur, rfl, hb, heap_alloc_new W _, Nat.zero_le _, by simpa [maxLen] using hm, by omega, by simp [nums]⟩⟩, Byt.nil⟩

theorem Grow_nil {w : World} (m : Nat) (hm : m ≤ 140737488355328) :
    Calls Tryz.prog 21 #[.slice none 0 0, .int .i64 m] w (Made w []) := by
  rcases Nat.eq_zero_or_pos m with h0 | h0
  · subst h0
    go_enter Tryz.func21, Tryz.ntmps21
    go_wp2
    go_ret
    exact Made.of (Own.nil _ _ _) (Kp.refl _ _)
  · have hr := run_grow_nil (P := Tryz.prog) w 23 3 23 5 Tryz.und_bytes Tryz.und_int Tryz.info_byte m h0 hm
    have hge := grownCap_ge w m 0 5
    have hle : grownCap w m 0 5 ≤ 9223372036854775807 := by
      have := grownCap_le_maxLen w m 0 5 (by simp only [maxLen]; omega)
      simpa [maxLen] using this
    have HR := Lib.hid hr
    clear hr
    generalize hgc : grownCap w m 0 5 = cap at *
    clear hgc
    have m0 : (0 : Int) < (m : Int) := by omega
    have m1 : ¬ (m : Int) < 0 := by omega
    have HO : Own (w.drew.alloc (.cells (Builtin.zeroCells #[.int .u8 0] m ++ Builtin.zeroCells #[.int .u8 0] (cap - m)) 5)) 5 w.heap.size (.slice (some ⟨w.heap.size, 0, none⟩) 0 cap) [] :=
      Own.room w.drew _ _ _ cap (Nat.le_refl _) (by rw [Array.size_append, size_zeros, size_zeros]; omega) hle
    go_enter Tryz.func21, Tryz.ntmps21
    go_wp2_with (first | (at_builtin; refine append_step rfl (.tmp 20) (.tmp 21) #[23, 3] rfl (.slice none 0 0) (.int .i64 m) rfl rfl HR.out ?_))
    go_ret
    exact Made.of HO ((Kp.refl no w).drew.alloc _)

/-- A list of bytes that is read. -/
structure RdS (w : World) (A : Option Addr) (n c : Nat) (L : List (List Int)) : Prop where
  len : L.length = n
  cap : n ≤ c
  max : c ≤ 9223372036854775807
  at_ : 0 < n → ∃ g o, A = some ⟨g, o, none⟩ ∧ ∀ j, j < n → ∃ A' c', w.cell? ⟨g, o + j, none⟩ = some (.slice A' (L.getD j []).length c') ∧ Rd w A' (L.getD j []).length c' (L.getD j [])
theorem RdS.nil (w : World) (A : Option Addr) (c : Nat) (hc : c ≤ 9223372036854775807) : RdS w A 0 c [] := ⟨rfl, Nat.zero_le _, hc, fun h => absurd h (by omega)⟩
theorem RdS.keepN {w w' : World} {A : Option Addr} {n c : Nat} {L : List (List Int)} (h : RdS w A n c L) (k : Kp no w w') : RdS w' A n c L :=
  ⟨h.len, h.cap, h.max, fun hp => by
    obtain ⟨g, o, rfl, hc⟩ := h.at_ hp
    refine ⟨g, o, rfl, fun j hj => ?_⟩
    obtain ⟨A', c', h1, h2⟩ := hc j hj
    exact ⟨A', c', k.cellN h1, h2.keepN k⟩⟩
theorem take_flat (L : List (List Int)) (k : Nat) (hk : k < L.length) : (L.take (k + 1)).flatten = (L.take k).flatten ++ L.getD k [] := by
  rw [List.take_succ_eq_append_getElem hk, List.flatten_append]
  simp [List.getD_eq_getElem?_getD, List.getElem?_eq_getElem hk]
/-- How long the first k of them are, together. -/
def tot (L : List (List Int)) (k : Nat) : Nat := (L.take k).flatten.length
theorem tot_succ (L : List (List Int)) (k : Nat) (hk : k < L.length) : tot L (k + 1) = tot L k + (L.getD k []).length := by
  unfold tot; rw [take_flat L k hk, List.length_append]
theorem tot_le (L : List (List Int)) (k : Nat) : tot L k ≤ L.flatten.length := by
  unfold tot
  have : L.flatten = (L.take k).flatten ++ (L.drop k).flatten := by rw [← List.flatten_append, List.take_append_drop]
  rw [this, List.length_append]; omega
theorem tot_all (L : List (List Int)) : tot L L.length = L.flatten.length := by unfold tot; rw [List.take_length]
theorem flat_byt {w : World} {A : Option Addr} {n c : Nat} {L : List (List Int)} (h : RdS w A n c L) (j : Nat) (hj : j < n) : Byt (L.getD j []) := by
  obtain ⟨g, o, _, hc⟩ := h.at_ (by omega)
  obtain ⟨_, _, _, h2⟩ := hc j hj
  exact h2.byt

set_option maxHeartbeats 1000000 in
theorem Concat_calls {w : World} {A : Option Addr} {n c : Nat} {L : List (List Int)} (h : RdS w A n c L) (hs : L.flatten.length ≤ 1099511627776) :
    Calls Tryz.prog 11 #[.slice A n c] w (Made w L.flatten) := by
  have hl := h.len
  have hcap := h.cap
  have hmax := h.max
  have hf : ∀ k, tot L k ≤ 1099511627776 := fun k => Nat.le_trans (tot_le L k) hs
  have hfull : L.take n = L := by rw [← hl]; exact List.take_length
  have HT := Lib.hid (tot_all L)
  have HS := Lib.hid (tot_succ L)
  have HL := Lib.hid hl
  have HFULL := Lib.hid hfull
  have HF := Lib.hid hf
  clear hl hfull hf hs
  go_enter Tryz.func11, Tryz.ntmps11
  go_wp2
  go_loop [3, 11] (fun s i => ∃ k : Nat, k ≤ n ∧ i = .int .i64 k ∧ s = .int .i64 (tot L k)) (fun _ i => n - (intOf i).toNat)
  case atStart => exact ⟨0, Nat.zero_le _, rfl, rfl⟩
  case round =>
    obtain ⟨k, hk, rfl, rfl⟩ := hrel
    have hb0 := HF.out k
    by_cases hlt : k < n
    · obtain ⟨g, o, rfl, hc⟩ := h.at_ (by omega)
      obtain ⟨A', c', h1, h2⟩ := hc k hlt
      have ht := Lib.hid (HS.out k (by rw [HL.out]; exact hlt))
      have hb := HF.out (k + 1)
      rw [ht.out] at hb
      clear hc h2
      generalize (L.getD k []).length = m at *
      go_wp2
      go_round
      case rel => exact ⟨k + 1, by omega, by go_num, by rw [ht.out]; go_num⟩
      case measure => simp [intOf]; omega
    · obtain rfl : k = n := by omega
      have D1 := Lib.hid (Grow_nil (w := w) (tot L k) (by omega))
      go_wp2_with (first | (go_at_call 21; refine D1.out.mono ?_; rintro e w1 ⟨A1, c1, rfl, hO, _, hk1⟩))
      clear D1
      go_loopw [6, 27] (fun v i wr => ∃ j : Nat, j ≤ k ∧ i = .int .i64 j ∧ Own wr 5 w.heap.size v (L.take j).flatten ∧ Kp no w wr) (fun _ i _ => k - (intOf i).toNat)
      case atStart => exact ⟨0, Nat.zero_le _, rfl, hO, hk1⟩
      case round =>
        obtain ⟨j, hj, rfl, hO, hkr⟩ := hrel
        by_cases hlt2 : j < k
        · have hr := h.keepN hkr
          obtain ⟨g, o, rfl, hc⟩ := hr.at_ (by omega)
          obtain ⟨A', c', h1, h2⟩ := hc j hlt2
          have ht := Lib.hid (take_flat L j (by rw [HL.out]; exact hlt2))
          have hb := HF.out (j + 1)
          rw [HS.out j (by rw [HL.out]; exact hlt2)] at hb
          unfold tot at hb
          have hB := hkr.size
          clear hc hr h
          generalize L.getD j [] = y at *
          have hyl := h2.cap
          go_wp2_with (first | (at_builtin; refine own_append w.heap.size rfl (.tmp 31) (.tmp 32) 23 5 rfl Tryz.und_bytes Tryz.info_byte u6 (L.take j).flatten y A' y.length c' rfl rfl hO h2 hB (by omega) ?_; intro v2 w2 hO2 hk2 _ _))
          go_roundw
          case rel => exact ⟨j + 1, by omega, by go_num, by rw [ht.out]; exact hO2, hkr.own hO (Nat.le_refl _) hk2⟩
          case measure => simp [intOf]; omega
        · obtain rfl : j = k := by omega
          rw [HFULL.out] at hO
          go_wp2
          go_ret
          exact Made.of hO hkr
end Go.Proofs.YtflafpklphgbpaaGreatDoor
namespace Go.Proofs.YtflafpklphgbpaaGreatDoor
open Go Go.RowKit
set_option linter.unusedVariables false
set_option linter.unusedSimpArgs false
set_option maxRecDepth 100000

/-- A slice that is read, as a row of a list of them. -/
structure Sl where
  A : Option Addr
  n : Nat
  c : Nat
  l : List Int
def Sl.v (s : Sl) : Value := .slice s.A s.n s.c
theorem RdS.lit (W : World) (e : TypeId) (ss : List Sl) (h : ∀ s ∈ ss, Rd W s.A s.n s.c s.l) (hm : ss.length ≤ 9223372036854775807) :
    RdS (W.alloc (.cells (ss.map Sl.v).toArray e)) (some ⟨W.heap.size, 0, none⟩) ss.length ss.length (ss.map (·.l)) := by
  refine ⟨by simp, Nat.le_refl _, hm, fun hp => ⟨W.heap.size, 0, rfl, fun j hj => ?_⟩⟩
  have hs := h ss[j] (List.getElem_mem hj)
  refine ⟨ss[j].A, ss[j].c, ?_, ?_⟩
  · rw [Nat.zero_add, (Blk.new W (ss.map Sl.v).toArray e).cell j]
    simp [List.getD_eq_getElem?_getD, List.getElem?_eq_getElem hj, Sl.v, hs.len]
  · have := hs.keepN ((Kp.refl no W).alloc (.cells (ss.map Sl.v).toArray e))
    simpa [List.getD_eq_getElem?_getD, List.getElem?_eq_getElem hj, hs.len] using this

theorem Concat_to {w : World} {A : Option Addr} {n c : Nat} {L : List (List Int)} {l : List Int} (h : RdS w A n c L) (hs : L.flatten.length ≤ 1099511627776) (hl : L.flatten = l) :
    Calls Tryz.prog 11 #[.slice A n c] w (Made w l) := hl ▸ Concat_calls h hs
theorem MadeAt.up {w w2 w3 : World} {A : Option Addr} {c : Nat} {l : List Int} (h : MadeAt w2 w3 A c l) (k : Kp no w w2) : MadeAt w w3 A c l :=
  ⟨h.own.lower k.size, h.rd, k.then h.kp⟩

theorem u8_low (x : Int) (h0 : 0 ≤ x) (h1 : x < 18446744073709551616) : bits .or .u8 (x % 256) 128 = x % 128 + 128 := by
  rw [u8_or _ 128 (by omega) (by omega) (by omega) (by omega)]
  have e : (x % 256).toNat = (x % 256).toNat / 128 * 128 + (x % 128).toNat := by omega
  rcases (show (x % 256).toNat / 128 = 0 ∨ (x % 256).toNat / 128 = 1 from by omega) with h | h
  · rw [h] at e
    rw [e, Nat.zero_mul, Nat.zero_add, Nat.or_comm]
    have e2 : (128 : Int).toNat ||| (x % 128).toNat = 128 + (x % 128).toNat := nat_join 7 128 _ (by decide) (by omega)
    rw [e2]; omega
  · rw [h] at e
    have e2 : 128 ||| (x % 128).toNat = 128 + (x % 128).toNat := nat_join 7 128 _ (by decide) (by omega)
    rw [e, Nat.one_mul, ← e2, Nat.or_comm, ← Nat.or_assoc]
    show (((128 ||| 128 ||| (x % 128).toNat : Nat)) : Int) = _
    rw [Nat.or_self, e2]; omega

/-- A field of bytes, as it is written. -/
def wb (f : Int) (l : List Int) : List Int := [f * 8 + 2] ++ vint l.length ++ l
theorem wb_byt {f : Int} {l : List Int} (h0 : 0 ≤ f) (h1 : f ≤ 30) (hl : Byt l) (hn : l.length ≤ 1099511627776) : Byt (wb f l) :=
  ((Byt.one (by omega) (by omega)).app (vint_byt _ (by omega) (by omega))).app hl



/-- A kind as it stands in a message: a number of 64 bits. -/
def ku (k : Int) : Int := if k < 0 then k + 18446744073709551616 else k
theorem ku_range (k : Int) (h0 : -2147483648 ≤ k) (h1 : k ≤ 2147483647) : 0 ≤ ku k ∧ ku k < 18446744073709551616 := by unfold ku; split <;> omega
/-- A key's message. -/
def kb (k : Int) (l : List Int) : List Int := [8] ++ vint (ku k) ++ wb 2 l
end Go.Proofs.YtflafpklphgbpaaGreatDoor
