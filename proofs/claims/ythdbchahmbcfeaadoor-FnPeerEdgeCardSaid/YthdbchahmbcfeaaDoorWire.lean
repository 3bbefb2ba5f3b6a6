/- Numbers of seven bits a byte, as they are read: plain. -/
import Derived.Test.YthdbchahmbcfeaaDoorBase
namespace Go.Proofs.YthdbchahmbcfeaaDoor
set_option linter.unusedVariables false
set_option linter.unusedSimpArgs false

/-- A number at the head of bytes, of at most k bytes, and how many it takes; the k-th byte is 0 or 1. -/
def rv : Nat → List Int → Option (Int × Int)
  | _, [] => none
  | 0, _ :: _ => none
  | k + 1, c :: l => if c < 128 then (if k = 0 ∧ 2 ≤ c then none else some (c, 1)) else if k = 0 then none else (rv k l).map fun p => (c - 128 + 128 * p.1, p.2 + 1)

theorem rv_len : ∀ (k : Nat) (l : List Int) (v n : Int), rv k l = some (v, n) → 1 ≤ n ∧ n ≤ l.length ∧ n ≤ k
  | _, [], _, _, h => by simp [rv] at h
  | 0, _ :: _, _, _, h => by simp [rv] at h
  | k + 1, c :: l, v, n, h => by
    unfold rv at h
    split at h
    · split at h
      · cases h
      · injection h with h; injection h with h1 h2; subst h2; simp; omega
    · split at h
      · cases h
      · rename_i hk
        cases hr : rv k l with
        | none => rw [hr] at h; cases h
        | some p =>
          rw [hr] at h
          obtain ⟨v', n'⟩ := p
          simp at h
          have := rv_len k l v' n' hr
          simp; omega
theorem pow_one_le : ∀ k : Nat, (1 : Int) ≤ 128 ^ k
  | 0 => by simp
  | k + 1 => by rw [Int.pow_succ]; have := pow_one_le k; omega
theorem rv_range : ∀ (k : Nat) (l : List Int) (v n : Int), Byt l → rv (k + 1) l = some (v, n) → 0 ≤ v ∧ v < 2 * 128 ^ k
  | k, [], _, _, _, h => by simp [rv] at h
  | 0, c :: l, v, n, hb, h => by
    have hc := hb c (by simp)
    simp [rv] at h
    omega
  | k + 1, c :: l, v, n, hb, h => by
    have hc := hb c (by simp)
    have hp : (1 : Int) ≤ 128 ^ k := pow_one_le k
    have hpp : (128 : Int) ^ (k + 1) = 128 ^ k * 128 := Int.pow_succ ..
    unfold rv at h
    split at h
    · simp at h; obtain ⟨rfl, _⟩ := h; omega
    · simp only [Nat.add_eq_zero_iff, Nat.succ_ne_zero, and_false, if_false] at h
      cases hr : rv (k + 1) l with
      | none => rw [hr] at h; simp at h
      | some p =>
        rw [hr] at h
        obtain ⟨v', n'⟩ := p
        simp at h
        have := rv_range k l v' n' (fun x hx => hb x (by simp [hx])) hr
        omega

theorem rv_u64 {l : List Int} {v n : Int} (hb : Byt l) (h : rv 10 l = some (v, n)) : 0 ≤ v ∧ v < 18446744073709551616 := by
  have := rv_range 9 l v n hb h
  omega

def cvN (n : Int) (b0 b1 b2 b3 b4 b5 b6 b7 b8 b9 : Int) : Option (Int × Int) :=
  if b0 < 128 then some (b0, 1) else if n ≤ 1 then none else
  if b1 < 128 then some ((b0 - 128) * 1 + b1 * 128, 2) else if n ≤ 2 then none else
  if b2 < 128 then some ((b0 - 128) * 1 + (b1 - 128) * 128 + b2 * 16384, 3) else if n ≤ 3 then none else
  if b3 < 128 then some ((b0 - 128) * 1 + (b1 - 128) * 128 + (b2 - 128) * 16384 + b3 * 2097152, 4) else if n ≤ 4 then none else
  if b4 < 128 then some ((b0 - 128) * 1 + (b1 - 128) * 128 + (b2 - 128) * 16384 + (b3 - 128) * 2097152 + b4 * 268435456, 5) else if n ≤ 5 then none else
  if b5 < 128 then some ((b0 - 128) * 1 + (b1 - 128) * 128 + (b2 - 128) * 16384 + (b3 - 128) * 2097152 + (b4 - 128) * 268435456 + b5 * 34359738368, 6) else if n ≤ 6 then none else
  if b6 < 128 then some ((b0 - 128) * 1 + (b1 - 128) * 128 + (b2 - 128) * 16384 + (b3 - 128) * 2097152 + (b4 - 128) * 268435456 + (b5 - 128) * 34359738368 + b6 * 4398046511104, 7) else if n ≤ 7 then none else
  if b7 < 128 then some ((b0 - 128) * 1 + (b1 - 128) * 128 + (b2 - 128) * 16384 + (b3 - 128) * 2097152 + (b4 - 128) * 268435456 + (b5 - 128) * 34359738368 + (b6 - 128) * 4398046511104 + b7 * 562949953421312, 8) else if n ≤ 8 then none else
  if b8 < 128 then some ((b0 - 128) * 1 + (b1 - 128) * 128 + (b2 - 128) * 16384 + (b3 - 128) * 2097152 + (b4 - 128) * 268435456 + (b5 - 128) * 34359738368 + (b6 - 128) * 4398046511104 + (b7 - 128) * 562949953421312 + b8 * 72057594037927936, 9) else if n ≤ 9 then none else
  if b9 < 2 then some ((b0 - 128) * 1 + (b1 - 128) * 128 + (b2 - 128) * 16384 + (b3 - 128) * 2097152 + (b4 - 128) * 268435456 + (b5 - 128) * 34359738368 + (b6 - 128) * 4398046511104 + (b7 - 128) * 562949953421312 + (b8 - 128) * 72057594037927936 + b9 * 9223372036854775808, 10) else none

theorem rv_step (k : Nat) (l : List Int) : rv (k + 1) l = if l.length = 0 then none else if l.getD 0 0 < 128 then (if k = 0 ∧ 2 ≤ l.getD 0 0 then none else some (l.getD 0 0, 1)) else if k = 0 then none else (rv k (l.drop 1)).map fun p => (l.getD 0 0 - 128 + 128 * p.1, p.2 + 1) := by
  cases l with
  | nil => simp [rv]
  | cons c l => simp [rv]

theorem cvN_eq (l : List Int) (h : 0 < l.length) : cvN l.length (l.getD 0 0) (l.getD 1 0) (l.getD 2 0) (l.getD 3 0) (l.getD 4 0) (l.getD 5 0) (l.getD 6 0) (l.getD 7 0) (l.getD 8 0) (l.getD 9 0) = rv 10 l := by
  have g : ∀ i j, (l.drop i).getD j 0 = l.getD (i + j) 0 := fun i j => by simp [List.getD_eq_getElem?_getD, List.getElem?_drop]
  unfold cvN
  simp only [rv_step, g, List.drop_drop, List.length_drop, Nat.reduceAdd, Nat.reduceEqDiff, Nat.succ_ne_zero, false_and, if_false, Nat.add_zero, true_and]
  have m0 : ¬ (l.length = 0) := by omega
  by_cases c0 : l.getD 0 0 < 128
  · simp only [m0, c0, if_true, if_false, Option.map_some] <;> first | rfl | (congr 2 <;> omega) 
  by_cases n0 : (l.length : Int) ≤ 1
  · have q : l.length - 1 = 0 := by omega
    simp only [m0, c0, n0, q, if_true, if_false, Option.map_none]
  have m1 : ¬ (l.length - 1 = 0) := by omega
  by_cases c1 : l.getD 1 0 < 128
  · simp only [m0, m1, c0, c1, n0, if_true, if_false, Option.map_some] <;> first | rfl | (congr 2 <;> omega) 
  by_cases n1 : (l.length : Int) ≤ 2
  · have q : l.length - 2 = 0 := by omega
    simp only [m0, m1, c0, c1, n0, n1, q, if_true, if_false, Option.map_none]
  have m2 : ¬ (l.length - 2 = 0) := by omega
  by_cases c2 : l.getD 2 0 < 128
  · simp only [m0, m1, m2, c0, c1, c2, n0, n1, if_true, if_false, Option.map_some] <;> first | rfl | (congr 2 <;> omega) 
  by_cases n2 : (l.length : Int) ≤ 3
  · have q : l.length - 3 = 0 := by omega
    simp only [m0, m1, m2, c0, c1, c2, n0, n1, n2, q, if_true, if_false, Option.map_none]
  have m3 : ¬ (l.length - 3 = 0) := by omega
  by_cases c3 : l.getD 3 0 < 128
  · simp only [m0, m1, m2, m3, c0, c1, c2, c3, n0, n1, n2, if_true, if_false, Option.map_some] <;> first | rfl | (congr 2 <;> omega) 
  by_cases n3 : (l.length : Int) ≤ 4
  · have q : l.length - 4 = 0 := by omega
    simp only [m0, m1, m2, m3, c0, c1, c2, c3, n0, n1, n2, n3, q, if_true, if_false, Option.map_none]
  have m4 : ¬ (l.length - 4 = 0) := by omega
  by_cases c4 : l.getD 4 0 < 128
  · simp only [m0, m1, m2, m3, m4, c0, c1, c2, c3, c4, n0, n1, n2, n3, if_true, if_false, Option.map_some] <;> first | rfl | (congr 2 <;> omega) 
  by_cases n4 : (l.length : Int) ≤ 5
  · have q : l.length - 5 = 0 := by omega
    simp only [m0, m1, m2, m3, m4, c0, c1, c2, c3, c4, n0, n1, n2, n3, n4, q, if_true, if_false, Option.map_none]
  have m5 : ¬ (l.length - 5 = 0) := by omega
  by_cases c5 : l.getD 5 0 < 128
  · simp only [m0, m1, m2, m3, m4, m5, c0, c1, c2, c3, c4, c5, n0, n1, n2, n3, n4, if_true, if_false, Option.map_some] <;> first | rfl | (congr 2 <;> omega) 
  by_cases n5 : (l.length : Int) ≤ 6
  · have q : l.length - 6 = 0 := by omega
    simp only [m0, m1, m2, m3, m4, m5, c0, c1, c2, c3, c4, c5, n0, n1, n2, n3, n4, n5, q, if_true, if_false, Option.map_none]
  have m6 : ¬ (l.length - 6 = 0) := by omega
  by_cases c6 : l.getD 6 0 < 128
  · simp only [m0, m1, m2, m3, m4, m5, m6, c0, c1, c2, c3, c4, c5, c6, n0, n1, n2, n3, n4, n5, if_true, if_false, Option.map_some] <;> first | rfl | (congr 2 <;> omega) 
  by_cases n6 : (l.length : Int) ≤ 7
  · have q : l.length - 7 = 0 := by omega
    simp only [m0, m1, m2, m3, m4, m5, m6, c0, c1, c2, c3, c4, c5, c6, n0, n1, n2, n3, n4, n5, n6, q, if_true, if_false, Option.map_none]
  have m7 : ¬ (l.length - 7 = 0) := by omega
  by_cases c7 : l.getD 7 0 < 128
  · simp only [m0, m1, m2, m3, m4, m5, m6, m7, c0, c1, c2, c3, c4, c5, c6, c7, n0, n1, n2, n3, n4, n5, n6, if_true, if_false, Option.map_some] <;> first | rfl | (congr 2 <;> omega) 
  by_cases n7 : (l.length : Int) ≤ 8
  · have q : l.length - 8 = 0 := by omega
    simp only [m0, m1, m2, m3, m4, m5, m6, m7, c0, c1, c2, c3, c4, c5, c6, c7, n0, n1, n2, n3, n4, n5, n6, n7, q, if_true, if_false, Option.map_none]
  have m8 : ¬ (l.length - 8 = 0) := by omega
  by_cases c8 : l.getD 8 0 < 128
  · simp only [m0, m1, m2, m3, m4, m5, m6, m7, m8, c0, c1, c2, c3, c4, c5, c6, c7, c8, n0, n1, n2, n3, n4, n5, n6, n7, if_true, if_false, Option.map_some] <;> first | rfl | (congr 2 <;> omega) 
  by_cases n8 : (l.length : Int) ≤ 9
  · have q : l.length - 9 = 0 := by omega
    simp only [m0, m1, m2, m3, m4, m5, m6, m7, m8, c0, c1, c2, c3, c4, c5, c6, c7, c8, n0, n1, n2, n3, n4, n5, n6, n7, n8, q, if_true, if_false, Option.map_none]
  have m9 : ¬ (l.length - 9 = 0) := by omega
  by_cases c9 : l.getD 9 0 < 128
  · by_cases d : l.getD 9 0 < 2
    · have d' : ¬ 2 ≤ l.getD 9 0 := by omega
      simp only [m0, m1, m2, m3, m4, m5, m6, m7, m8, m9, c0, c1, c2, c3, c4, c5, c6, c7, c8, c9, n0, n1, n2, n3, n4, n5, n6, n7, n8, d, d', if_true, if_false, Option.map_some] <;> first | rfl | (congr 2 <;> omega)
    · have d' : 2 ≤ l.getD 9 0 := by omega
      simp only [m0, m1, m2, m3, m4, m5, m6, m7, m8, m9, c0, c1, c2, c3, c4, c5, c6, c7, c8, c9, n0, n1, n2, n3, n4, n5, n6, n7, n8, d, d', if_true, if_false, Option.map_none]
  · have d : ¬ l.getD 9 0 < 2 := by omega
    simp only [m0, m1, m2, m3, m4, m5, m6, m7, m8, m9, c0, c1, c2, c3, c4, c5, c6, c7, c8, c9, n0, n1, n2, n3, n4, n5, n6, n7, n8, d, if_true, if_false, Option.map_none]
end Go.Proofs.YthdbchahmbcfeaaDoor
