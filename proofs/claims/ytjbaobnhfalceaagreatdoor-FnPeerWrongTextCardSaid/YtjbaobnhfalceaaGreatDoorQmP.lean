/- How the texts of IDs begin, plain: those of SHA2-256 with Qm, those inlined with 1. -/
import Derived.Test.YtjbaobnhfalceaaGreatDoorD58P
namespace Go.Proofs.YtjbaobnhfalceaaGreatDoor
open Go
set_option linter.unusedVariables false
set_option linter.unusedSimpArgs false
set_option maxRecDepth 100000

theorem vf_lin (b : Int) : ∀ (D : List Int) (v : Int), vf b D v = v * b ^ D.length + vf b D 0
  | [], v => by simp [vf]
  | d :: D, v => by
    have h1 := vf_lin b D (v * b + d)
    have h2 := vf_lin b D (0 * b + d)
    simp only [vf, List.foldl_cons] at h1 h2 ⊢
    rw [h1, h2]
    simp only [List.length_cons, Int.pow_succ]
    generalize b ^ D.length = p
    grind
theorem v256_two (x y : Int) (S : List Int) : v256 (x :: y :: S) = (x * 256 + y) * 256 ^ S.length + v256 S := by
  rw [v256_vf]
  show vf 256 S ((0 * 256 + x) * 256 + y) = _
  rw [vf_lin]
  simp [v256_vf]
theorem p58_lt {m n : Nat} (h : m < n) : (58 : Int) ^ m * 58 ≤ 58 ^ n := by
  have := p58_mono (m + 1) (n - (m + 1))
  rw [show m + 1 + (n - (m + 1)) = n from by omega, Int.pow_succ] at this
  exact this
theorem dig58_sha {S : List Int} (hS : S.length = 32) (hb : Byt S) : ∃ E, dig58 (18 :: 32 :: S) = 23 :: 44 :: E ∧ E.length = 44 := by
  have hB : Byt (18 :: 32 :: S) := fun x hx => by
    rcases List.mem_cons.1 hx with rfl | hx
    · omega
    rcases List.mem_cons.1 hx with rfl | hx
    · omega
    exact hb x hx
  have hv := v58_dig58 hB
  rw [v256_two, hS] at hv
  have h0 := v256_nonneg hb
  have h1 := v256_lt hb
  rw [hS] at h1
  have hD := dig58_ok hB
  have hT := dig58_tip hB
  generalize dig58 (18 :: 32 :: S) = D at *
  generalize v256 S = V at *
  have c1 : (1378 : Int) * 58 ^ 44 ≤ 4640 * 256 ^ 32 := by decide +kernel
  have c2 : (4641 : Int) * 256 ^ 32 ≤ 1379 * 58 ^ 44 := by decide +kernel
  have c3 : (1379 : Int) * 58 ^ 44 ≤ 58 ^ 46 := by decide +kernel
  have c4 : (58 : Int) ^ 45 ≤ 1378 * 58 ^ 44 := by decide +kernel
  have c5 : (58 : Int) ^ 45 = 58 ^ 44 * 58 := by decide +kernel
  have hlt : v58 D < 58 ^ D.length := by
    have := vf_lt0 (b := 58) (by omega) (D := D) (fun x hx => hD x hx)
    rw [vf_v58] at this
    simpa using this
  have hlen : D.length = 46 := by
    rcases Nat.lt_trichotomy D.length 46 with h | h | h
    · have := p58_mono D.length (45 - D.length)
      rw [show D.length + (45 - D.length) = 45 from by omega] at this
      omega
    · exact h
    · rcases hT with hT | hT
      · rw [hT] at h; simp at h
      · cases D with
        | nil => simp at h
        | cons d D =>
          have ht := v58_tip hD (by simpa using hT)
          have := p58_mono 46 (D.length - 46)
          rw [show 46 + (D.length - 46) = D.length from by simp only [List.length_cons] at h; omega] at this
          omega
  match D, hlen, hD, hv with
  | d0 :: d1 :: E, hlen, hD, hv =>
    have hE : E.length = 44 := by simpa using hlen
    refine ⟨E, ?_, hE⟩
    have hd0 := hD d0 (by simp)
    have hd1 := hD d1 (by simp)
    have hE0 := v58_nonneg hD.tail.tail
    have hE1 : v58 E < 58 ^ 44 := by
      have := vf_lt0 (b := 58) (by omega) (D := E) (fun x hx => hD.tail.tail x hx)
      rw [vf_v58, hE] at this
      simpa using this
    simp only [v58, List.length_cons, hE] at hv
    rw [show (58 : Int) ^ (44 + 1) = 58 ^ 44 * 58 from by decide +kernel] at hv
    have h2 : d0 * (58 ^ 44 * 58) + (d1 * 58 ^ 44 + v58 E) = (d0 * 58 + d1) * 58 ^ 44 + v58 E := by
      generalize (58 : Int) ^ 44 = p; grind
    rw [h2] at hv
    generalize hq : d0 * 58 + d1 = q at *
    have hp : (0 : Int) < 58 ^ 44 := by decide +kernel
    have hqq : q = 1378 := by
      rcases Int.lt_trichotomy q 1378 with h | h | h
      · have : (q + 1) * 58 ^ 44 ≤ 1378 * 58 ^ 44 := Int.mul_le_mul_of_nonneg_right (by omega) (Int.le_of_lt hp)
        rw [Int.add_mul] at this
        omega
      · exact h
      · have : 1379 * 58 ^ 44 ≤ q * 58 ^ 44 := Int.mul_le_mul_of_nonneg_right (by omega) (Int.le_of_lt hp)
        omega
    have e0 : d0 = 23 := by omega
    have e1 : d1 = 44 := by omega
    rw [e0, e1]
theorem text_sha {S : List Int} (hS : S.length = 32) (hb : Byt S) : ∃ T, text58 (18 :: 32 :: S) = 81 :: 109 :: T := by
  obtain ⟨E, hE, _⟩ := dig58_sha hS hb
  refine ⟨E.map sign, ?_⟩
  unfold text58
  rw [hE, show zs (18 :: 32 :: S) = 0 from by simp [zs]]
  rfl
theorem text_inl (x : Int) (S : List Int) : ∃ T, text58 (0 :: x :: S) = 49 :: T := by
  refine ⟨List.replicate (zs (x :: S)) 49 ++ (dig58 (0 :: x :: S)).map sign, ?_⟩
  unfold text58
  rw [show zs (0 :: x :: S) = zs (x :: S) + 1 from by simp [zs], List.replicate_succ]
  rfl
end Go.Proofs.YtjbaobnhfalceaaGreatDoor
