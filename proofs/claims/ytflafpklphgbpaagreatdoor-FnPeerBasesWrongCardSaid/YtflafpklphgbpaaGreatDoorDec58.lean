/- base58.FastBase58DecodingAlphabet. -/
import Derived.Test.YtflafpklphgbpaaGreatDoorB58D
import Derived.Test.YtflafpklphgbpaaGreatDoorDgX
import Derived.Test.YtflafpklphgbpaaGreatDoorPlA
import Derived.Test.YtflafpklphgbpaaGreatDoorQTail
import Derived.Deep.Cut
import Derived.Deep.CutRange
import Derived.Deep.CutBlock
namespace Go.Proofs.YtflafpklphgbpaaGreatDoor
open Go Go.RowKit
set_option linter.unusedVariables false
set_option linter.unusedSimpArgs false
set_option maxRecDepth 100000

theorem Tryz.info_u32 : (Tryz.prog.info? 46).map (fun i => (i.zero, i.size, i.bytes)) = some (some (.int .u32 0), 1, 4) := by kernel_rfl
theorem Tryz.und_runes : Tryz.prog.underlying 126 = some (.slice 21) := by kernel_rfl
theorem Tryz.und_rune : Tryz.prog.underlying 21 = some (.int .i32) := by kernel_rfl
theorem Tryz.und_words : Tryz.prog.underlying 113 = some (.slice 46) := by kernel_rfl
theorem errNewX {w : World} (s : ByteArray) : Calls Tryz.prog 24 #[.string s] w fun e w' => ∃ t x, e = .returned (.iface t x) ∧ Kp no w w' := by
  go_enter Tryz.func24, Tryz.ntmps24
  go_wp2
  go_ret
  exact ⟨_, _, rfl, (Kp.refl _ _).alloc _⟩

/-- A letter that has no digit. -/
def NoDig (b : Int) : Prop := 0 ≤ b ∧ b < 128 ∧ (tab58 58).getD b.toNat 0 = -1
theorem sign_rng {d : Int} (h0 : 0 ≤ d) (h1 : d < 58) : 0 ≤ sign d ∧ sign d < 128 ∧ (tab58 58).getD (sign d).toNat 0 = d ∧ (sign d = 49 ↔ d = 0) := by
  have h : ∀ i : Nat, i < 58 → 0 ≤ alpha.getD i 0 ∧ alpha.getD i 0 < 128 ∧ (alpha.getD i 0 = 49 ↔ i = 0) := by decide
  have := h d.toNat (by omega)
  have ht := tab58_sign d.toNat (by omega)
  unfold sign
  refine ⟨this.1, this.2.1, by rw [ht]; omega, ?_⟩
  rw [this.2.2]; omega
theorem signs_asc {D : List Int} (h : DgB 58 D) : Asc (D.map sign) := fun x hx => by
  obtain ⟨d, hd, rfl⟩ := List.mem_map.1 hx
  have := sign_rng (h d hd).1 (h d hd).2
  omega
/-- Some digits' letters; behind them nothing, or a letter that has none. -/
structure Txt (D R : List Int) : Prop where
  d : DgB 58 D
  r : Asc R
  bad : ∀ b r, R = b :: r → NoDig b
theorem Txt.asc {D R : List Int} (h : Txt D R) : Asc (D.map sign ++ R) := (signs_asc h.d).app h.r
theorem Txt.get {D R : List Int} (h : Txt D R) {i : Nat} (hi : i < D.length) : (D.map sign ++ R).getD i 0 = sign (D.getD i 0) := by
  rw [List.getD_eq_getElem?_getD, List.getElem?_append_left (by simpa using hi)]
  simp [List.getD_eq_getElem?_getD, List.getElem?_eq_getElem hi]
theorem Txt.end_ {D R : List Int} {b : Int} {r : List Int} (e : R = b :: r) : (D.map sign ++ R).getD D.length 0 = b := by
  subst e
  rw [List.getD_eq_getElem?_getD, List.getElem?_append_right (by simp)]; simp
/-- What stands at a place: as a letter's number; its digit. -/
theorem Txt.at_ {D R : List Int} (h : Txt D R) {i : Nat} (hi : i < D.length) : ∃ b : Nat, (b : Int) = (D.map sign ++ R).getD i 0 ∧ b < 128 ∧ (tab58 58).getD b 0 = D.getD i 0 ∧ 0 ≤ D.getD i 0 ∧ D.getD i 0 < 58 ∧ ((b : Int) = 49 ↔ D.getD i 0 = 0) := by
  have hd := h.d.getD hi
  have hs := sign_rng hd.1 hd.2
  rw [h.get hi]
  exact ⟨(sign (D.getD i 0)).toNat, by omega, by omega, hs.2.2.1, hd.1, hd.2, by rw [Int.toNat_of_nonneg hs.1]; exact hs.2.2.2⟩
theorem Txt.at_end {D R : List Int} (h : Txt D R) (hR : R ≠ []) : ∃ b : Nat, (b : Int) = (D.map sign ++ R).getD D.length 0 ∧ b < 128 ∧ (tab58 58).getD b 0 = -1 ∧ ¬ (b : Int) = 49 := by
  cases R with
  | nil => exact absurd rfl hR
  | cons b r =>
    obtain ⟨h0, h1, h2⟩ := h.bad b r rfl
    rw [Txt.end_ rfl]
    refine ⟨b.toNat, by omega, by omega, h2, fun e => ?_⟩
    have : b.toNat = 49 := by omega
    rw [this] at h2
    revert h2; decide +kernel
/-- The mask of the bytes that must stay empty. -/
def zm (r : Nat) : Int := if r = 1 then 4294967040 else if r = 2 then 4294901760 else if r = 3 then 4278190080 else 0
theorem zm_and {x : Int} {r : Nat} (h0 : 0 ≤ x) (h1 : x < 256 ^ r) (r1 : 1 ≤ r) (r4 : r ≤ 4) : bits .and .u32 x (zm r) = 0 := by
  obtain ⟨X, rfl⟩ := Int.eq_ofNat_of_zero_le h0
  rcases (show r = 1 ∨ r = 2 ∨ r = 3 ∨ r = 4 by omega) with rfl | rfl | rfl | rfl
  · have := and_hi 8 X 16777215 (by omega)
    rw [show zm 1 = ((4294967040 : Nat) : Int) from rfl, u32_and_nat X 4294967040 (by omega) (by omega), show (4294967040 : Nat) = 2 ^ 8 * 16777215 from rfl, this]; rfl
  · have := and_hi 16 X 65535 (by omega)
    rw [show zm 2 = ((4294901760 : Nat) : Int) from rfl, u32_and_nat X 4294901760 (by omega) (by omega), show (4294901760 : Nat) = 2 ^ 16 * 65535 from rfl, this]; rfl
  · have := and_hi 24 X 255 (by omega)
    rw [show zm 3 = ((4278190080 : Nat) : Int) from rfl, u32_and_nat X 4278190080 (by omega) (by omega), show (4278190080 : Nat) = 2 ^ 24 * 255 from rfl, this]; rfl
  · rw [show zm 4 = ((0 : Nat) : Int) from rfl, u32_and_nat X 0 (by omega) (by omega)]; simp
theorem zm_rng (r : Nat) : 0 ≤ zm r ∧ zm r < 4294967296 := by
  unfold zm; split <;> (try split) <;> (try split) <;> omega
/-- How many bytes the first word has. -/
def fr (n : Nat) : Nat := if n % 4 = 0 then 4 else n % 4
theorem fr_rng (n : Nat) : 1 ≤ fr n ∧ fr n ≤ 4 := by unfold fr; split <;> omega
theorem fr_eq {n : Nat} (h : 1 ≤ n) : 4 * ((n + 3) / 4) = n + (4 - fr n) ∧ n = 4 * ((n + 3) / 4 - 1) + fr n := by unfold fr; split <;> omega
/-- The first word is small. -/
theorem first_small {L : List Int} {n : Nat} (h : W32 L) (hn : 1 ≤ n) (hl : L.length = (n + 3) / 4) (hv : v32 L < 256 ^ n) : L.getD 0 0 < 256 ^ fr n := by
  cases L with
  | nil => simp at hl; omega
  | cons x L =>
    have h2 := v32_nonneg h.tail
    have he := (fr_eq hn).2
    have hl2 : (n + 3) / 4 - 1 = L.length := by simp only [List.length_cons] at hl; omega
    rw [hl2] at he
    simp only [v32] at hv
    have e : (256 : Int) ^ n = 256 ^ fr n * 4294967296 ^ L.length := by
      rw [p32_256, ← Int.pow_add]; congr 1; omega
    rw [e] at hv
    have hp := p32_pos L.length
    show x < _
    rcases Int.lt_or_le x (256 ^ fr n) with hh | hh
    · exact hh
    · have := Int.mul_le_mul_of_nonneg_right hh (Int.le_of_lt hp)
      omega
/-- One word more of the round. -/
theorem row_set (N M : List Int) (r : Nat) (v : Int) (hr : r < N.length) : (N.take (r + 1) ++ M).set r v = N.take r ++ v :: M := by
  rw [List.take_succ_eq_append_getElem hr, List.append_assoc, List.set_append_right _ _ (by simp; omega)]
  rw [show r - (N.take r).length = 0 from by simp; omega]; rfl
theorem row_get (N M : List Int) (r : Nat) (hr : r < N.length) : (N.take (r + 1) ++ M).getD r 0 = N.getD r 0 := by
  rw [List.getD_eq_getElem?_getD, List.getElem?_append_left (by simp; omega), List.getElem?_take, if_pos (by omega), ← List.getD_eq_getElem?_getD]
theorem rowF_take (b : Int) (D N : List Int) (i : Nat) (hi : i < D.length) : rowF b (D.take (i + 1)) N = (mulw b (D.getD i 0) (rowF b (D.take i) N)).2 := by
  unfold rowF
  rw [List.take_succ_eq_append_getElem hi, List.foldl_append]
  simp [List.getD_eq_getElem?_getD, List.getElem?_eq_getElem hi]
/-- Behind i digits: the words fit. -/
theorem row_fit {D : List Int} {n : Nat} (hD : DgB 58 D) (hn : D.length ≤ n) (i : Nat) (hi : i < D.length) :
    (mulw 58 (D.getD i 0) (rowF 58 (D.take i) (List.replicate ((n + 3) / 4) 0))).1 = 0 ∧ W32 (rowF 58 (D.take i) (List.replicate ((n + 3) / 4) 0)) ∧
      W32 (rowF 58 (D.take (i + 1)) (List.replicate ((n + 3) / 4) 0)) ∧ v32 (rowF 58 (D.take (i + 1)) (List.replicate ((n + 3) / 4) 0)) < 256 ^ n := by
  have hd := hD.getD hi
  have hw := rowF_ok (b := 58) (by omega) (by omega) (D.take i) _ (hD.take i) (W32.zero ((n + 3) / 4))
  have hw2 := rowF_ok (b := 58) (by omega) (by omega) (D.take (i + 1)) _ (hD.take (i + 1)) (W32.zero ((n + 3) / 4))
  have hv := rowF_v (b := 58) (by omega) (by omega) (hD.take i) (m := (n + 3) / 4) (by rw [List.length_take]; omega)
  have hv2 := rowF_v (b := 58) (by omega) (by omega) (hD.take (i + 1)) (m := (n + 3) / 4) (by rw [List.length_take]; omega)
  have hlt := vf_lt0 (b := 58) (by omega) (hD.take (i + 1))
  have hle : (58 : Int) ^ (D.take (i + 1)).length ≤ 256 ^ n := by
    have h1 := pow_le 58 (by omega) (by omega) (D.take (i + 1)).length
    have h2 := p256_mono (D.take (i + 1)).length (n - (D.take (i + 1)).length)
    rw [show (D.take (i + 1)).length + (n - (D.take (i + 1)).length) = n from by rw [List.length_take]; omega] at h2
    omega
  have hroom := p256_room (b := 256) (by omega) (by omega) (n := n) (m := (n + 3) / 4) (by omega)
  have hs : vf 58 (D.take (i + 1)) 0 = vf 58 (D.take i) 0 * 58 + D.getD i 0 := by
    rw [List.take_succ_eq_append_getElem hi, vf_app]
    simp [vf, List.getD_eq_getElem?_getD, List.getElem?_eq_getElem hi]
  refine ⟨?_, hw, hw2, by omega⟩
  exact (mulw_fit (by omega) (by omega) hd.1 hd.2 hw (by rw [hv, rowF_len, List.length_replicate]; omega)).1
/-- Bytes as they are written. -/
theorem out_set (o : List Int) (nb c : Nat) (hc : c < o.length) (hb : o.length ≤ nb) : (o.take c ++ List.replicate (nb - c) 0).set c (o.getD c 0) = o.take (c + 1) ++ List.replicate (nb - (c + 1)) 0 := by
  rw [List.set_append_right _ _ (by simp; omega), List.take_succ_eq_append_getElem hc, List.append_assoc]
  congr 1
  rw [show c - (o.take c).length = 0 from by simp; omega, show nb - c = (nb - (c + 1)) + 1 from by omega, List.replicate_succ, List.set_cons_zero]
  simp [List.getD_eq_getElem?_getD, List.getElem?_eq_getElem hc]
theorem zs_zeros : ∀ n : Nat, zs (List.replicate n 0) = n
  | 0 => rfl
  | n + 1 => by simp [List.replicate_succ, zs, zs_zeros n]
theorem zs_app : ∀ (a b : List Int), zs (a ++ b) = if zs a = a.length then a.length + zs b else zs a
  | [], b => by simp [zs]
  | x :: a, b => by
    have ih := zs_app a b
    by_cases hx : x = 0
    · subst hx
      have e1 : zs ((0 : Int) :: a ++ b) = zs (a ++ b) + 1 := by simp [zs]
      have e2 : zs ((0 : Int) :: a) = zs a + 1 := by simp [zs]
      rw [e1, e2, ih]
      by_cases h : zs a = a.length
      · rw [if_pos h, if_pos (by rw [h]; rfl), List.length_cons]; omega
      · rw [if_neg h, if_neg (by rw [List.length_cons]; omega)]
    · have e1 : zs (x :: a ++ b) = 0 := by simp [zs, hx]
      have e2 : zs (x :: a) = 0 := by simp [zs, hx]
      rw [e1, e2, if_neg (by rw [List.length_cons]; omega)]
end Go.Proofs.YtflafpklphgbpaaGreatDoor
