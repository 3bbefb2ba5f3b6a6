/- AppendVarint: a number of seven bits a byte is put behind bytes of one's own. -/
import Derived.Test.YtjbaobnhfalceaaGreatDoorBytes
import Derived.Test.YtjbaobnhfalceaaGreatDoorNum
namespace Go.Proofs.YtjbaobnhfalceaaGreatDoor
open Go Go.RowKit
set_option linter.unusedVariables false
set_option linter.unusedSimpArgs false
set_option maxRecDepth 100000

/-- A number in groups of seven bits. -/
def vi : Nat → Int → List Int
  | 0, v => [v]
  | k + 1, v => if v < 128 then [v] else (v % 128 + 128) :: vi k (v / 128)
def vint (v : Int) : List Int := vi 9 v
theorem vi_len : ∀ (k : Nat) (v : Int), 1 ≤ (vi k v).length ∧ (vi k v).length ≤ k + 1
  | 0, v => by simp [vi]
  | k + 1, v => by
    unfold vi
    split
    · simp
    · have := vi_len k (v / 128); simp; omega
theorem vint_len (v : Int) : 1 ≤ (vint v).length ∧ (vint v).length ≤ 10 := vi_len 9 v
theorem vi_byt : ∀ (k : Nat) (v : Int), 0 ≤ v → v < 2 * 128 ^ (k + 1) → Byt (vi k v)
  | 0, v, h0, h1 => by simp [vi]; exact Byt.one h0 (by simp at h1; omega)
  | k + 1, v, h0, h1 => by
    unfold vi
    split
    · exact Byt.one h0 (by omega)
    · intro x hx
      rcases List.mem_cons.1 hx with rfl | hx
      · omega
      · refine vi_byt k (v / 128) (by omega) ?_ x hx
        rw [Int.pow_succ] at h1
        omega
theorem vint_byt (v : Int) (h0 : 0 ≤ v) (h1 : v < 18446744073709551616) : Byt (vint v) := vi_byt 9 v h0 (by omega)
/-- What is read of it: the number, and all of its bytes. -/
theorem rv_vi : ∀ (k : Nat) (v : Int) (r : List Int), 0 ≤ v → v < 2 * 128 ^ k → rv (k + 1) (vi k v ++ r) = some (v, ((vi k v).length : Int))
  | 0, v, r, h0, h1 => by
    simp at h1
    have a : v < 128 := by omega
    have b : ¬ 2 ≤ v := by omega
    simp [vi, rv, a, b]
  | k + 1, v, r, h0, h1 => by
    unfold vi
    split
    · simp [rv, *]
    · rw [Int.pow_succ] at h1
      have ih := rv_vi k (v / 128) r (by omega) (by omega)
      have hc : ¬ (v % 128 + 128 < 128) := by omega
      simp only [List.cons_append, rv, if_neg hc, Nat.add_eq_zero_iff, Nat.succ_ne_zero, and_false, if_false, ih, Option.map_some]
      simp
      omega
theorem rv_vint (v : Int) (r : List Int) (h0 : 0 ≤ v) (h1 : v < 18446744073709551616) : rv 10 (vint v ++ r) = some (v, ((vint v).length : Int)) := rv_vi 9 v r h0 (by omega)

theorem u64_grp (x : Int) (h0 : 0 ≤ x) (h1 : x < 18446744073709551616) : IntKind.u8.wrap (bits .or .u64 (bits .and .u64 x 127) 128) = x % 128 + 128 := by
  rw [u64_and x 127 h0 h1 (by omega) (by omega)]
  have e : x.toNat &&& (127 : Int).toNat = x.toNat % 128 := Nat.and_two_pow_sub_one_eq_mod x.toNat 7
  rw [e, u64_or _ 128 (by omega) (by omega) (by omega) (by omega), Int.toNat_natCast, Nat.or_comm]
  have e2 : (128 : Int).toNat ||| x.toNat % 128 = 128 + x.toNat % 128 := nat_join 7 128 _ (by decide) (Nat.mod_lt _ (by decide))
  rw [e2, IntKind.wrap_u8]
  omega

/-- An append's outcome. -/
structure GrownAt (w w' : World) (B : Nat) (u : Value) (A : Option Addr) (c : Nat) (l : List Int) : Prop where
  own : Own w' 5 B (.slice A l.length c) l
  rd : Rd w' A l.length c l
  kp : Kp (Of u) w w'
  went : Went w u (.slice A l.length c)
def Grown1 (w : World) (B : Nat) (u : Value) (l : List Int) (e : Ending) (w' : World) : Prop :=
  ∃ A c, e = .returned (.slice A l.length c) ∧ GrownAt w w' B u A c l
theorem Grown1.of {w w' : World} {B : Nat} {u v : Value} {l : List Int} (h : Own w' 5 B v l) (hk : Kp (Of u) w w') (hw : Went w u v) : Grown1 w B u l (.returned v) w' := by
  obtain ⟨A, c, rfl, hr, _⟩ := h.rd
  exact ⟨A, c, rfl, h, hr, hk, hw⟩
theorem Own.nonnil {w : World} {e : TypeId} {B : Nat} {v : Value} {l : List Int} (h : Own w e B v l) (hl : l ≠ []) : v ≠ .slice none 0 0 := by
  intro hv
  obtain ⟨A, c, he, hr, _⟩ := h.rd
  rw [hv] at he
  injection he with _ h1 _
  exact hl (List.eq_nil_of_length_eq_zero h1.symm)
theorem grown_lit {w w1 : World} {o : Obj} {B : Nat} {u v1 : Value} {l : List Int} (hO : Own w1 5 B v1 l) (hk : Kp (Of u) (w.alloc o) w1) (hw : Went (w.alloc o) u v1) : Grown1 w B u l (.returned v1) w1 :=
  Grown1.of hO (((Kp.refl (Of u) w).alloc o).trans hk (fun i _ h => h)) (hw.imp_right (fun ⟨b, h1, h2⟩ => ⟨b, h1, by simp at h2; omega⟩))

theorem vint_eq (v : Int) : vint v = vi 9 v := rfl
attribute [irreducible] vint
end Go.Proofs.YtjbaobnhfalceaaGreatDoor
