/- govarint's numbers, plain: those in the shortest form, of up to nine bytes; the errors of a multihash. -/
import Derived.Test.YthdbchahmbcfeaaDoorNum
import Derived.Test.YthdbchahmbcfeaaDoorAv
namespace Go.Proofs.YthdbchahmbcfeaaDoor
open Go
set_option linter.unusedVariables false
set_option linter.unusedSimpArgs false
set_option maxRecDepth 100000

structure MErrs (w : World) : Prop where
  a : IsErr w 7
  b : IsErr w 9
  c : IsErr w 8
  d : IsErr w 4
theorem MErrs.keepN {w w' : World} (h : MErrs w) (k : Kp no w w') : MErrs w' := ⟨h.a.keepN k, h.b.keepN k, h.c.keepN k, h.d.keepN k⟩

theorem vi_lt : ∀ (j k : Nat) (v : Int), v < 128 ^ k → 0 < k → (vi j v).length ≤ k
  | 0, k, v, _, hk => by simp [vi]; omega
  | j + 1, k, v, h, hk => by
    unfold vi
    split
    · simp; omega
    · rename_i hv
      cases k with
      | zero => omega
      | succ k =>
        rw [Int.pow_succ] at h
        cases k with
        | zero => simp at h; omega
        | succ k =>
          have := vi_lt j (k + 1) (v / 128) (by omega) (by omega)
          simp only [List.length_cons]; omega
theorem vi_ge : ∀ (j k : Nat) (v : Int), k ≤ j → 128 ^ k ≤ v → k + 1 ≤ (vi j v).length
  | j, 0, v, _, _ => (vi_len j v).1
  | 0, k + 1, v, h, _ => by omega
  | j + 1, k + 1, v, hj, h => by
    have hp := pow_one_le k
    rw [Int.pow_succ] at h
    unfold vi
    rw [if_neg (by omega)]
    have := vi_ge j k (v / 128) (by omega) (by omega)
    simp only [List.length_cons]; omega

/-- What FromUvarint reads. -/
def FU (l : List Int) : Option (Int × Int) := match rv 10 l with
  | some p => if p.2 ≤ 9 ∧ p.2 = ((vint p.1).length : Int) then some p else none
  | none => none
theorem FU_end {l : List Int} {x y : Int} {k : Nat} (h : RvAt l x k) (hk : k ≤ 8) (hlt : k < l.length) (hy : l.getD k 0 = y) (x0 : 0 ≤ x) (hx : x < 128 ^ k) (y0 : 0 ≤ y) (y1 : y < 128) (hm : y = 0 → k = 0) : FU l = some (x + y * 128 ^ k, (k : Int) + 1) := by
  have R := h.end_ (by omega) hlt hy y1 (by omega)
  unfold FU
  rw [R]
  simp only
  have hp := pow_one_le k
  have hl : (vint (x + y * 128 ^ k)).length = k + 1 := by
    have h1 : y * 128 ^ k ≤ 127 * 128 ^ k := Int.mul_le_mul_of_nonneg_right (by omega) (by omega)
    have hlt := vi_lt 9 (k + 1) (x + y * 128 ^ k) (by rw [Int.pow_succ]; omega) (by omega)
    rcases Int.lt_or_le 0 y with h0 | h0
    · have h2 : 1 * 128 ^ k ≤ y * 128 ^ k := Int.mul_le_mul_of_nonneg_right (by omega) (by omega)
      have := vi_ge 9 k (x + y * 128 ^ k) (by omega) (by omega)
      unfold vint; omega
    · obtain rfl := hm (by omega)
      have := (vint_len (x + y * 128 ^ 0)).1
      unfold vint at *; omega
  rw [if_pos ⟨by omega, by rw [hl]; simp⟩]
theorem FU_min {l : List Int} {x : Int} {k : Nat} (h : RvAt l x k) (hk : k ≤ 8) (hlt : k < l.length) (hy : l.getD k 0 = 0) (hx : x < 128 ^ k) (h0 : 0 < k) : FU l = none := by
  have R := h.end_ (by omega) hlt hy (by omega) (by omega)
  unfold FU
  rw [R]
  simp only
  have := vi_lt 9 k (x + 0 * 128 ^ k) (by omega) h0
  rw [if_neg]
  unfold vint
  omega
theorem FU_over {l : List Int} {x y : Int} (h : RvAt l x 8) (hlt : 8 < l.length) (hy : l.getD 8 0 = y) (hge : 128 ≤ y) : FU l = none := by
  have R := h.next (by omega) hlt hy hge
  unfold RvAt at R
  unfold FU
  cases hr : rv 10 l with
  | none => rfl
  | some p =>
    rw [hr] at R
    cases h1 : rv (10 - (8 + 1)) (l.drop (8 + 1)) with
    | none => rw [h1] at R; cases R
    | some q =>
      rw [h1] at R
      simp [rvf] at R
      obtain ⟨q1, q2⟩ := q
      have := rv_len _ _ _ _ h1
      simp only
      rw [if_neg]
      subst R
      simp only
      omega
theorem FU_short {l : List Int} {x : Int} {k : Nat} (h : RvAt l x k) (hle : l.length ≤ k) : FU l = none := by
  unfold FU
  rw [h.short hle]
theorem FU_some {l : List Int} {v k : Int} (hb : Byt l) (h : FU l = some (v, k)) : rv 10 l = some (v, k) ∧ k ≤ 9 ∧ k = ((vint v).length : Int) ∧ 0 ≤ v ∧ v < 18446744073709551616 ∧ 1 ≤ k ∧ k ≤ l.length := by
  unfold FU at h
  cases hr : rv 10 l with
  | none => rw [hr] at h; cases h
  | some p =>
    rw [hr] at h
    simp only at h
    split at h
    · rename_i hc
      injection h with h
      subst h
      have := rv_u64 hb hr
      have := rv_len _ _ _ _ hr
      exact ⟨rfl, hc.1, hc.2, by omega, by omega, by omega, by omega⟩
    · cases h
/-- How it ends. -/
def FuO (l : List Int) (e : Ending) : Prop := match FU l with
  | some p => e = .returned (.tuple #[.int .u64 p.1, .int .i64 p.2, Value.nilIface])
  | none => ∃ t v, e = .returned (.tuple #[.int .u64 0, .int .i64 0, .iface t v])
theorem FuO.some {l : List Int} {v k : Int} {e : Ending} (h : FU l = some (v, k)) (he : e = .returned (.tuple #[.int .u64 v, .int .i64 k, Value.nilIface])) : FuO l e := by unfold FuO; rw [h]; exact he
theorem FuO.none {l : List Int} {t : TypeId} {v : Value} {e : Ending} (h : FU l = none) (he : e = .returned (.tuple #[.int .u64 0, .int .i64 0, .iface t v])) : FuO l e := by unfold FuO; rw [h]; exact ⟨t, v, he⟩
end Go.Proofs.YthdbchahmbcfeaaDoor
