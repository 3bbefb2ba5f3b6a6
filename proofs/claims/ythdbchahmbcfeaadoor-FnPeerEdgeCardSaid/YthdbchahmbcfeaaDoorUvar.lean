/- govarint.FromUvarint. -/
import Derived.Test.YthdbchahmbcfeaaDoorFuP
namespace Go.Proofs.YthdbchahmbcfeaaDoor
open Go Go.RowKit
set_option linter.unusedVariables false
set_option linter.unusedSimpArgs false
set_option maxRecDepth 100000

def FRel (l : List Int) (n : Nat) (a s i : Value) : Prop := ∃ (x : Int) (k : Nat) (r : Int), a = .int .u64 x ∧ s = .int .u64 r ∧ r = 7 * k ∧ i = .int .i64 k ∧ k ≤ n ∧ k ≤ 8 ∧ 0 ≤ x ∧ x < 128 ^ k ∧ RvAt l x k

set_option maxHeartbeats 8000000 in
theorem fromUvarint_calls {w : World} {A : Option Addr} {n c : Nat} {l : List Int} (h : Rd w A n c l) (hE : MErrs w) :
    Calls Tryd.prog 53 #[.slice A n c] w fun e w' => FuO l e ∧ Kp no w w' := by
  have hl := h.len
  have hcap := h.cap
  have hmax := h.max
  have HL := Lib.hid hl
  clear hl
  obtain ⟨⟨ta, va, ca⟩, ⟨tb, vb, cb⟩, ⟨tc, vc, cc⟩, _⟩ := hE
  go_enter Tryd.func53, Tryd.ntmps53
  go_wp2
  go_loop [5, 6, 11] (FRel l n) (fun _ _ i => n - (intOf i).toNat)
  case atStart => exact ⟨0, 0, 0, rfl, rfl, by omega, rfl, by omega, by omega, by omega, by simp, RvAt.start l⟩
  case round =>
    obtain ⟨x, k, r, rfl, rfl, hr, rfl, hkn, hk8, hx0, hx, hrv⟩ := hrel
    by_cases hlt : k < n
    · obtain ⟨g, o, rfl, hc⟩ := h.at_ (by omega)
      have hcell := hc k hlt
      have hbd := h.byt.getD k
      have hlen : k < l.length := by rw [HL.out]; exact hlt
      obtain ⟨y, hy⟩ : ∃ y, l.getD k 0 = y := ⟨_, rfl⟩
      rw [hy] at hcell hbd
      have HY := Lib.hid hy
      obtain ⟨y0, y1⟩ := hbd
      have HX := Lib.hid hx
      clear hc hy hx
      rcases (show k = 0 ∨ k = 1 ∨ k = 2 ∨ k = 3 ∨ k = 4 ∨ k = 5 ∨ k = 6 ∨ k = 7 ∨ k = 8 from by omega) with rfl | rfl | rfl | rfl | rfl | rfl | rfl | rfl | rfl
      · obtain rfl : r = 0 := by omega
        clear hr
        rw [Nat.add_zero] at hcell
        by_cases hy : y < 128
        · have hx00 : x = 0 := by have := HX.out; omega
          subst hx00
          have R := Lib.hid (FU_end hrv (by omega) hlen HY.out (by omega) HX.out y0 hy (fun _ => rfl))
          have ev : (y : Int) = 0 + y * 128 ^ 0 := by omega
          have EV := Lib.hid ev
          clear ev
          have e2 : bits .or .u64 0 y = y := by have := u64_join 0 1 (by decide) 0 y (by omega) (by omega) (by omega) (by omega) (by omega); simpa using this
          rcases hq : (y == 0) with _ | _
          all_goals
            go_wp2
            go_ret3
            exact ⟨FuO.some R.out (by rw [← EV.out]; rfl), Kp.refl _ _⟩
        · have R := hrv.next (by omega) hlen HY.out (by omega)
          have ev : (y % 128 : Int) = x + (y - 128) * 128 ^ 0 := by have := HX.out; omega
          rw [← ev] at R
          have hxn : (y % 128 : Int) < 128 ^ 1 := by have := HX.out; omega
          have HXN := Lib.hid hxn
          clear ev hxn
          have e1 := u8_and127 y y0 y1
          have hx00 : x = 0 := by have := HX.out; omega
          subst hx00
          have e2 : bits .or .u64 0 (y % 128) = y % 128 := by have := u64_join 0 1 (by decide) 0 (y % 128) (by omega) (by omega) (by omega) (by omega) (by omega); simpa using this
          go_wp2
          go_round
          case rel => exact ⟨_, 1, _, rfl, rfl, by omega, rfl, by omega, by omega, by omega, HXN.out, R⟩
          case measure => simp [intOf]; omega
      · obtain rfl : r = 7 := by omega
        clear hr
        by_cases hy : y < 128
        · by_cases hyz : 0 < y
          · have R := Lib.hid (FU_end hrv (by omega) hlen HY.out hx0 HX.out y0 hy (fun h => by omega))
            have EV := Lib.hid (show (x + y * 128 : Int) = x + y * 128 ^ 1 from by omega)
            have e2 : bits .or .u64 x (y * 128) = x + y * 128 := u64_join 7 128 (by decide) x y hx0 (by have := HX.out; omega) (by omega) (by omega) (by omega)
            have hyb : (y == 0) = false := by simp; omega
            go_wp2
            go_ret3
            exact ⟨FuO.some R.out (by rw [← EV.out]; rfl), Kp.refl _ _⟩
          · obtain rfl : y = 0 := by omega
            have R := Lib.hid (FU_min hrv (by omega) hlen HY.out HX.out (by omega))
            go_wp2
            go_region
            all_goals
              go_wp2
              go_ret3
              exact ⟨FuO.none R.out rfl, (Kp.refl _ _).drew⟩
        · have R := hrv.next (by omega) hlen HY.out (by omega)
          have ev : (x + y % 128 * 128 : Int) = x + (y - 128) * 128 ^ 1 := by have := HX.out; omega
          rw [← ev] at R
          have hxn : (x + y % 128 * 128 : Int) < 128 ^ 2 := by have := HX.out; omega
          have HXN := Lib.hid hxn
          clear ev hxn
          have e1 := u8_and127 y y0 y1
          have e2 : bits .or .u64 x (y % 128 * 128) = x + y % 128 * 128 := u64_join 7 128 (by decide) x (y % 128) hx0 (by have := HX.out; omega) (by omega) (by omega) (by omega)
          go_wp2
          go_round
          case rel => exact ⟨_, 2, _, rfl, rfl, by omega, rfl, by omega, by omega, by omega, HXN.out, R⟩
          case measure => simp [intOf]; omega
      · obtain rfl : r = 14 := by omega
        clear hr
        by_cases hy : y < 128
        · by_cases hyz : 0 < y
          · have R := Lib.hid (FU_end hrv (by omega) hlen HY.out hx0 HX.out y0 hy (fun h => by omega))
            have EV := Lib.hid (show (x + y * 16384 : Int) = x + y * 128 ^ 2 from by omega)
            have e2 : bits .or .u64 x (y * 16384) = x + y * 16384 := u64_join 14 16384 (by decide) x y hx0 (by have := HX.out; omega) (by omega) (by omega) (by omega)
            have hyb : (y == 0) = false := by simp; omega
            go_wp2
            go_ret3
            exact ⟨FuO.some R.out (by rw [← EV.out]; rfl), Kp.refl _ _⟩
          · obtain rfl : y = 0 := by omega
            have R := Lib.hid (FU_min hrv (by omega) hlen HY.out HX.out (by omega))
            go_wp2
            go_region
            all_goals
              go_wp2
              go_ret3
              exact ⟨FuO.none R.out rfl, (Kp.refl _ _).drew⟩
        · have R := hrv.next (by omega) hlen HY.out (by omega)
          have ev : (x + y % 128 * 16384 : Int) = x + (y - 128) * 128 ^ 2 := by have := HX.out; omega
          rw [← ev] at R
          have hxn : (x + y % 128 * 16384 : Int) < 128 ^ 3 := by have := HX.out; omega
          have HXN := Lib.hid hxn
          clear ev hxn
          have e1 := u8_and127 y y0 y1
          have e2 : bits .or .u64 x (y % 128 * 16384) = x + y % 128 * 16384 := u64_join 14 16384 (by decide) x (y % 128) hx0 (by have := HX.out; omega) (by omega) (by omega) (by omega)
          go_wp2
          go_round
          case rel => exact ⟨_, 3, _, rfl, rfl, by omega, rfl, by omega, by omega, by omega, HXN.out, R⟩
          case measure => simp [intOf]; omega
      · obtain rfl : r = 21 := by omega
        clear hr
        by_cases hy : y < 128
        · by_cases hyz : 0 < y
          · have R := Lib.hid (FU_end hrv (by omega) hlen HY.out hx0 HX.out y0 hy (fun h => by omega))
            have EV := Lib.hid (show (x + y * 2097152 : Int) = x + y * 128 ^ 3 from by omega)
            have e2 : bits .or .u64 x (y * 2097152) = x + y * 2097152 := u64_join 21 2097152 (by decide) x y hx0 (by have := HX.out; omega) (by omega) (by omega) (by omega)
            have hyb : (y == 0) = false := by simp; omega
            go_wp2
            go_ret3
            exact ⟨FuO.some R.out (by rw [← EV.out]; rfl), Kp.refl _ _⟩
          · obtain rfl : y = 0 := by omega
            have R := Lib.hid (FU_min hrv (by omega) hlen HY.out HX.out (by omega))
            go_wp2
            go_region
            all_goals
              go_wp2
              go_ret3
              exact ⟨FuO.none R.out rfl, (Kp.refl _ _).drew⟩
        · have R := hrv.next (by omega) hlen HY.out (by omega)
          have ev : (x + y % 128 * 2097152 : Int) = x + (y - 128) * 128 ^ 3 := by have := HX.out; omega
          rw [← ev] at R
          have hxn : (x + y % 128 * 2097152 : Int) < 128 ^ 4 := by have := HX.out; omega
          have HXN := Lib.hid hxn
          clear ev hxn
          have e1 := u8_and127 y y0 y1
          have e2 : bits .or .u64 x (y % 128 * 2097152) = x + y % 128 * 2097152 := u64_join 21 2097152 (by decide) x (y % 128) hx0 (by have := HX.out; omega) (by omega) (by omega) (by omega)
          go_wp2
          go_round
          case rel => exact ⟨_, 4, _, rfl, rfl, by omega, rfl, by omega, by omega, by omega, HXN.out, R⟩
          case measure => simp [intOf]; omega
      · obtain rfl : r = 28 := by omega
        clear hr
        by_cases hy : y < 128
        · by_cases hyz : 0 < y
          · have R := Lib.hid (FU_end hrv (by omega) hlen HY.out hx0 HX.out y0 hy (fun h => by omega))
            have EV := Lib.hid (show (x + y * 268435456 : Int) = x + y * 128 ^ 4 from by omega)
            have e2 : bits .or .u64 x (y * 268435456) = x + y * 268435456 := u64_join 28 268435456 (by decide) x y hx0 (by have := HX.out; omega) (by omega) (by omega) (by omega)
            have hyb : (y == 0) = false := by simp; omega
            go_wp2
            go_ret3
            exact ⟨FuO.some R.out (by rw [← EV.out]; rfl), Kp.refl _ _⟩
          · obtain rfl : y = 0 := by omega
            have R := Lib.hid (FU_min hrv (by omega) hlen HY.out HX.out (by omega))
            go_wp2
            go_region
            all_goals
              go_wp2
              go_ret3
              exact ⟨FuO.none R.out rfl, (Kp.refl _ _).drew⟩
        · have R := hrv.next (by omega) hlen HY.out (by omega)
          have ev : (x + y % 128 * 268435456 : Int) = x + (y - 128) * 128 ^ 4 := by have := HX.out; omega
          rw [← ev] at R
          have hxn : (x + y % 128 * 268435456 : Int) < 128 ^ 5 := by have := HX.out; omega
          have HXN := Lib.hid hxn
          clear ev hxn
          have e1 := u8_and127 y y0 y1
          have e2 : bits .or .u64 x (y % 128 * 268435456) = x + y % 128 * 268435456 := u64_join 28 268435456 (by decide) x (y % 128) hx0 (by have := HX.out; omega) (by omega) (by omega) (by omega)
          go_wp2
          go_round
          case rel => exact ⟨_, 5, _, rfl, rfl, by omega, rfl, by omega, by omega, by omega, HXN.out, R⟩
          case measure => simp [intOf]; omega
      · obtain rfl : r = 35 := by omega
        clear hr
        by_cases hy : y < 128
        · by_cases hyz : 0 < y
          · have R := Lib.hid (FU_end hrv (by omega) hlen HY.out hx0 HX.out y0 hy (fun h => by omega))
            have EV := Lib.hid (show (x + y * 34359738368 : Int) = x + y * 128 ^ 5 from by omega)
            have e2 : bits .or .u64 x (y * 34359738368) = x + y * 34359738368 := u64_join 35 34359738368 (by decide) x y hx0 (by have := HX.out; omega) (by omega) (by omega) (by omega)
            have hyb : (y == 0) = false := by simp; omega
            go_wp2
            go_ret3
            exact ⟨FuO.some R.out (by rw [← EV.out]; rfl), Kp.refl _ _⟩
          · obtain rfl : y = 0 := by omega
            have R := Lib.hid (FU_min hrv (by omega) hlen HY.out HX.out (by omega))
            go_wp2
            go_region
            all_goals
              go_wp2
              go_ret3
              exact ⟨FuO.none R.out rfl, (Kp.refl _ _).drew⟩
        · have R := hrv.next (by omega) hlen HY.out (by omega)
          have ev : (x + y % 128 * 34359738368 : Int) = x + (y - 128) * 128 ^ 5 := by have := HX.out; omega
          rw [← ev] at R
          have hxn : (x + y % 128 * 34359738368 : Int) < 128 ^ 6 := by have := HX.out; omega
          have HXN := Lib.hid hxn
          clear ev hxn
          have e1 := u8_and127 y y0 y1
          have e2 : bits .or .u64 x (y % 128 * 34359738368) = x + y % 128 * 34359738368 := u64_join 35 34359738368 (by decide) x (y % 128) hx0 (by have := HX.out; omega) (by omega) (by omega) (by omega)
          go_wp2
          go_round
          case rel => exact ⟨_, 6, _, rfl, rfl, by omega, rfl, by omega, by omega, by omega, HXN.out, R⟩
          case measure => simp [intOf]; omega
      · obtain rfl : r = 42 := by omega
        clear hr
        by_cases hy : y < 128
        · by_cases hyz : 0 < y
          · have R := Lib.hid (FU_end hrv (by omega) hlen HY.out hx0 HX.out y0 hy (fun h => by omega))
            have EV := Lib.hid (show (x + y * 4398046511104 : Int) = x + y * 128 ^ 6 from by omega)
            have e2 : bits .or .u64 x (y * 4398046511104) = x + y * 4398046511104 := u64_join 42 4398046511104 (by decide) x y hx0 (by have := HX.out; omega) (by omega) (by omega) (by omega)
            have hyb : (y == 0) = false := by simp; omega
            go_wp2
            go_ret3
            exact ⟨FuO.some R.out (by rw [← EV.out]; rfl), Kp.refl _ _⟩
          · obtain rfl : y = 0 := by omega
            have R := Lib.hid (FU_min hrv (by omega) hlen HY.out HX.out (by omega))
            go_wp2
            go_region
            all_goals
              go_wp2
              go_ret3
              exact ⟨FuO.none R.out rfl, (Kp.refl _ _).drew⟩
        · have R := hrv.next (by omega) hlen HY.out (by omega)
          have ev : (x + y % 128 * 4398046511104 : Int) = x + (y - 128) * 128 ^ 6 := by have := HX.out; omega
          rw [← ev] at R
          have hxn : (x + y % 128 * 4398046511104 : Int) < 128 ^ 7 := by have := HX.out; omega
          have HXN := Lib.hid hxn
          clear ev hxn
          have e1 := u8_and127 y y0 y1
          have e2 : bits .or .u64 x (y % 128 * 4398046511104) = x + y % 128 * 4398046511104 := u64_join 42 4398046511104 (by decide) x (y % 128) hx0 (by have := HX.out; omega) (by omega) (by omega) (by omega)
          go_wp2
          go_round
          case rel => exact ⟨_, 7, _, rfl, rfl, by omega, rfl, by omega, by omega, by omega, HXN.out, R⟩
          case measure => simp [intOf]; omega
      · obtain rfl : r = 49 := by omega
        clear hr
        by_cases hy : y < 128
        · by_cases hyz : 0 < y
          · have R := Lib.hid (FU_end hrv (by omega) hlen HY.out hx0 HX.out y0 hy (fun h => by omega))
            have EV := Lib.hid (show (x + y * 562949953421312 : Int) = x + y * 128 ^ 7 from by omega)
            have e2 : bits .or .u64 x (y * 562949953421312) = x + y * 562949953421312 := u64_join 49 562949953421312 (by decide) x y hx0 (by have := HX.out; omega) (by omega) (by omega) (by omega)
            have hyb : (y == 0) = false := by simp; omega
            go_wp2
            go_ret3
            exact ⟨FuO.some R.out (by rw [← EV.out]; rfl), Kp.refl _ _⟩
          · obtain rfl : y = 0 := by omega
            have R := Lib.hid (FU_min hrv (by omega) hlen HY.out HX.out (by omega))
            go_wp2
            go_region
            all_goals
              go_wp2
              go_ret3
              exact ⟨FuO.none R.out rfl, (Kp.refl _ _).drew⟩
        · have R := hrv.next (by omega) hlen HY.out (by omega)
          have ev : (x + y % 128 * 562949953421312 : Int) = x + (y - 128) * 128 ^ 7 := by have := HX.out; omega
          rw [← ev] at R
          have hxn : (x + y % 128 * 562949953421312 : Int) < 128 ^ 8 := by have := HX.out; omega
          have HXN := Lib.hid hxn
          clear ev hxn
          have e1 := u8_and127 y y0 y1
          have e2 : bits .or .u64 x (y % 128 * 562949953421312) = x + y % 128 * 562949953421312 := u64_join 49 562949953421312 (by decide) x (y % 128) hx0 (by have := HX.out; omega) (by omega) (by omega) (by omega)
          go_wp2
          go_round
          case rel => exact ⟨_, 8, _, rfl, rfl, by omega, rfl, by omega, by omega, by omega, HXN.out, R⟩
          case measure => simp [intOf]; omega
      · obtain rfl : r = 56 := by omega
        clear hr
        by_cases hy : y < 128
        · by_cases hyz : 0 < y
          · have R := Lib.hid (FU_end hrv (by omega) hlen HY.out hx0 HX.out y0 hy (fun h => by omega))
            have EV := Lib.hid (show (x + y * 72057594037927936 : Int) = x + y * 128 ^ 8 from by omega)
            have e2 : bits .or .u64 x (y * 72057594037927936) = x + y * 72057594037927936 := u64_join 56 72057594037927936 (by decide) x y hx0 (by have := HX.out; omega) (by omega) (by omega) (by omega)
            have hyb : (y == 0) = false := by simp; omega
            go_wp2
            go_ret3
            exact ⟨FuO.some R.out (by rw [← EV.out]; rfl), Kp.refl _ _⟩
          · obtain rfl : y = 0 := by omega
            have R := Lib.hid (FU_min hrv (by omega) hlen HY.out HX.out (by omega))
            go_wp2
            go_region
            all_goals
              go_wp2
              go_ret3
              exact ⟨FuO.none R.out rfl, (Kp.refl _ _).drew⟩
        · have R := Lib.hid (FU_over hrv hlen HY.out (by omega))
          go_wp2
          go_region
          all_goals
            go_wp2
            go_ret3
            exact ⟨FuO.none R.out rfl, (Kp.refl _ _).drew⟩
    · have R := Lib.hid (FU_short hrv (by rw [HL.out]; omega))
      go_wp2
      go_region
      all_goals
        go_wp2
        go_ret3
        exact ⟨FuO.none R.out rfl, (Kp.refl _ _).drew⟩
end Go.Proofs.YthdbchahmbcfeaaDoor
