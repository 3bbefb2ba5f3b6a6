/- govarint.FromUvarint. gomultihash: uvarint, readMultihashFromBuf. gomultihash: decode, Decode, Cast. IDs out of bytes: IDFromBytes, PeerOf, PeerOfBinary. -/
import Derived.Test.YtflafpklphgbpaaGreatDoorNuA
import Derived.Deep.Cut
import Derived.Deep.CutRange
import Derived.Deep.CutBlock
import Derived.Test.YtflafpklphgbpaaGreatDoorPlA
namespace Go.Proofs.YtflafpklphgbpaaGreatDoor
open Go Go.RowKit
set_option linter.unusedVariables false
set_option linter.unusedSimpArgs false
set_option maxRecDepth 100000

def FRel (l : List Int) (n : Nat) (a s i : Value) : Prop := ∃ (x : Int) (k : Nat) (r : Int), a = .int .u64 x ∧ s = .int .u64 r ∧ r = 7 * k ∧ i = .int .i64 k ∧ k ≤ n ∧ k ≤ 8 ∧ 0 ≤ x ∧ x < 128 ^ k ∧ RvAt l x k

set_option maxHeartbeats 8000000 in
theorem fromUvarint_calls {w : World} {A : Option Addr} {n c : Nat} {l : List Int} (h : Rd w A n c l) (hE : MErrs w) :
    Calls Tryz.prog 62 #[.slice A n c] w fun e w' => FuO l e ∧ Kp no w w' := by
  have hl := h.len
  have hcap := h.cap
  have hmax := h.max
  have HL := Lib.hid hl
  clear hl
  obtain ⟨⟨ta, va, ca⟩, ⟨tb, vb, cb⟩, ⟨tc, vc, cc⟩, _⟩ := hE
  go_enter Tryz.func62, Tryz.ntmps62
  go_wp2
  go_loop [5, 6, 11] (FRel l n) (fun _ _ i => n - (intOf i).toNat)
  case atStart => exact ⟨0, 0, 0, rfl, rfl, by omega, rfl, by omega, by omega, by omega, by simp, RvAt.start l⟩
  case round =>
    obtain ⟨x, k, r, rfl, rfl, hr, rfl, hkn, hk8, hx0, hx, hrv⟩ := hrel
    by_cases hlt : k < n
    · obtain ⟨g, o, rfl, hc⟩ := h.at_ (by omega)
      have hcell := hc k hlt
      have hbd := h.byt.getD k
      have hlen : k < l.length := by rw [HL.out]; exact hlt
      obtain ⟨y, hy⟩ : ∃ y, l.getD k 0 = y := ⟨_, rfl⟩
      rw [hy] at hcell hbd
      have HY := Lib.hid hy
      obtain ⟨y0, y1⟩ := hbd
      have HX := Lib.hid hx
      clear hc hy hx
      rcases (show k = 0 ∨ k = 1 ∨ k = 2 ∨ k = 3 ∨ k = 4 ∨ k = 5 ∨ k = 6 ∨ k = 7 ∨ k = 8 from by omega) with rfl | rfl | rfl | rfl | rfl | rfl | rfl | rfl | rfl
      · obtain rfl : r = 0 := by omega
        clear hr
        rw [Nat.add_zero] at hcell
        by_cases hy : y < 128
        · have hx00 : x = 0 := by have := HX.out; omega
          subst hx00
          have R := Lib.hid (FU_end hrv (by omega) hlen HY.out (by omega) HX.out y0 hy (fun _ => rfl))
          have ev : (y : Int) = 0 + y * 128 ^ 0 := by omega
          have EV := Lib.hid ev
          clear ev
          have e2 : bits .or .u64 0 y = y := by have := u64_join 0 1 (by decide) 0 y (by omega) (by omega) (by omega) (by omega) (by omega); simpa using this
          rcases hq : (y == 0) with _ | _
          all_goals
            go_wp2
            go_ret3
            exact ⟨FuO.some R.out (by rw [← EV.out]; rfl), Kp.refl _ _⟩
        · have R := hrv.next (by omega) hlen HY.out (by omega)
          have ev : (y % 128 : Int) = x + (y - 128) * 128 ^ 0 := by have := HX.out; omega
          rw [← ev] at R
          have hxn : (y % 128 : Int) < 128 ^ 1 := by have := HX.out; omega
          have HXN := Lib.hid hxn
          clear ev hxn
          have e1 := u8_and127 y y0 y1
          have hx00 : x = 0 := by have := HX.out; omega
          subst hx00
          have e2 : bits .or .u64 0 (y % 128) = y % 128 := by have := u64_join 0 1 (by decide) 0 (y % 128) (by omega) (by omega) (by omega) (by omega) (by omega); simpa using this
          go_wp2
          go_round
          case rel => exact ⟨_, 1, _, rfl, rfl, by omega, rfl, by omega, by omega, by omega, HXN.out, R⟩
          case measure => simp [intOf]; omega
      · obtain rfl : r = 7 := by omega
        clear hr
        by_cases hy : y < 128
        · by_cases hyz : 0 < y
          · have R := Lib.hid (FU_end hrv (by omega) hlen HY.out hx0 HX.out y0 hy (fun h => by omega))
            have EV := Lib.hid (show (x + y * 128 : Int) = x + y * 128 ^ 1 from by omega)
            have e2 : bits .or .u64 x (y * 128) = x + y * 128 := u64_join 7 128 (by decide) x y hx0 (by have := HX.out; omega) (by omega) (by omega) (by omega)
            have hyb : (y == 0) = false := by simp; omega
            go_wp2
            go_ret3
            exact ⟨FuO.some R.out (by rw [← EV.out]; rfl), Kp.refl _ _⟩
          · obtain rfl : y = 0 := by omega
            have R := Lib.hid (FU_min hrv (by omega) hlen HY.out HX.out (by omega))
            go_wp2
            go_region
            all_goals
              go_wp2
              go_ret3
              exact ⟨FuO.none R.out rfl, (Kp.refl _ _).drew⟩
        · have R := hrv.next (by omega) hlen HY.out (by omega)
          have ev : (x + y % 128 * 128 : Int) = x + (y - 128) * 128 ^ 1 := by have := HX.out; omega
          rw [← ev] at R
          have hxn : (x + y % 128 * 128 : Int) < 128 ^ 2 := by have := HX.out; omega
          have HXN := Lib.hid hxn
          clear ev hxn
          have e1 := u8_and127 y y0 y1
          have e2 : bits .or .u64 x (y % 128 * 128) = x + y % 128 * 128 := u64_join 7 128 (by decide) x (y % 128) hx0 (by have := HX.out; omega) (by omega) (by omega) (by omega)
          go_wp2
          go_round
          case rel => exact ⟨_, 2, _, rfl, rfl, by omega, rfl, by omega, by omega, by omega, HXN.out, R⟩
          case measure => simp [intOf]; omega
      · obtain rfl : r = 14 := by omega
        clear hr
        by_cases hy : y < 128
        · by_cases hyz : 0 < y
          · have R := Lib.hid (FU_end hrv (by omega) hlen HY.out hx0 HX.out y0 hy (fun h => by omega))
            have EV := Lib.hid (show (x + y * 16384 : Int) = x + y * 128 ^ 2 from by omega)
            have e2 : bits .or .u64 x (y * 16384) = x + y * 16384 := u64_join 14 16384 (by decide) x y hx0 (by have := HX.out; omega) (by omega) (by omega) (by omega)
            have hyb : (y == 0) = false := by simp; omega
            go_wp2
            go_ret3
            exact ⟨FuO.some R.out (by rw [← EV.out]; rfl), Kp.refl _ _⟩
          · obtain rfl : y = 0 := by omega
            have R := Lib.hid (FU_min hrv (by omega) hlen HY.out HX.out (by omega))
            go_wp2
            go_region
            all_goals
              go_wp2
              go_ret3
              exact ⟨FuO.none R.out rfl, (Kp.refl _ _).drew⟩
        · have R := hrv.next (by omega) hlen HY.out (by omega)
          have ev : (x + y % 128 * 16384 : Int) = x + (y - 128) * 128 ^ 2 := by have := HX.out; omega
          rw [← ev] at R
          have hxn : (x + y % 128 * 16384 : Int) < 128 ^ 3 := by have := HX.out; omega
          have HXN := Lib.hid hxn
          clear ev hxn
          have e1 := u8_and127 y y0 y1
          have e2 : bits .or .u64 x (y % 128 * 16384) = x + y % 128 * 16384 := u64_join 14 16384 (by decide) x (y % 128) hx0 (by have := HX.out; omega) (by omega) (by omega) (by omega)
          go_wp2
          go_round
          case rel => exact ⟨_, 3, _, rfl, rfl, by omega, rfl, by omega, by omega, by omega, HXN.out, R⟩
          case measure => simp [intOf]; omega
      · obtain rfl : r = 21 := by omega
        clear hr
        by_cases hy : y < 128
        · by_cases hyz : 0 < y
          · have R := Lib.hid (FU_end hrv (by omega) hlen HY.out hx0 HX.out y0 hy (fun h => by omega))
            have EV := Lib.hid (show (x + y * 2097152 : Int) = x + y * 128 ^ 3 from by omega)
            have e2 : bits .or .u64 x (y * 2097152) = x + y * 2097152 := u64_join 21 2097152 (by decide) x y hx0 (by have := HX.out; omega) (by omega) (by omega) (by omega)
            have hyb : (y == 0) = false := by simp; omega
            go_wp2
            go_ret3
            exact ⟨FuO.some R.out (by rw [← EV.out]; rfl), Kp.refl _ _⟩
          · obtain rfl : y = 0 := by omega
            have R := Lib.hid (FU_min hrv (by omega) hlen HY.out HX.out (by omega))
            go_wp2
            go_region
            all_goals
              go_wp2
              go_ret3
              exact ⟨FuO.none R.out rfl, (Kp.refl _ _).drew⟩
        · have R := hrv.next (by omega) hlen HY.out (by omega)
          have ev : (x + y % 128 * 2097152 : Int) = x + (y - 128) * 128 ^ 3 := by have := HX.out; omega
          rw [← ev] at R
          have hxn : (x + y % 128 * 2097152 : Int) < 128 ^ 4 := by have := HX.out; omega
          have HXN := Lib.hid hxn
          clear ev hxn
          have e1 := u8_and127 y y0 y1
          have e2 : bits .or .u64 x (y % 128 * 2097152) = x + y % 128 * 2097152 := u64_join 21 2097152 (by decide) x (y % 128) hx0 (by have := HX.out; omega) (by omega) (by omega) (by omega)
          go_wp2
          go_round
          case rel => exact ⟨_, 4, _, rfl, rfl, by omega, rfl, by omega, by omega, by omega, HXN.out, R⟩
          case measure => simp [intOf]; omega
      · obtain rfl : r = 28 := by omega
        clear hr
        by_cases hy : y < 128
        · by_cases hyz : 0 < y
          · have R := Lib.hid (FU_end hrv (by omega) hlen HY.out hx0 HX.out y0 hy (fun h => by omega))
            have EV := Lib.hid (show (x + y * 268435456 : Int) = x + y * 128 ^ 4 from by omega)
            have e2 : bits .or .u64 x (y * 268435456) = x + y * 268435456 := u64_join 28 268435456 (by decide) x y hx0 (by have := HX.out; omega) (by omega) (by omega) (by omega)
            have hyb : (y == 0) = false := by simp; omega
            go_wp2
            go_ret3
            exact ⟨FuO.some R.out (by rw [← EV.out]; rfl), Kp.refl _ _⟩
          · obtain rfl : y = 0 := by omega
            have R := Lib.hid (FU_min hrv (by omega) hlen HY.out HX.out (by omega))
            go_wp2
            go_region
            all_goals
              go_wp2
              go_ret3
              exact ⟨FuO.none R.out rfl, (Kp.refl _ _).drew⟩
        · have R := hrv.next (by omega) hlen HY.out (by omega)
          have ev : (x + y % 128 * 268435456 : Int) = x + (y - 128) * 128 ^ 4 := by have := HX.out; omega
          rw [← ev] at R
          have hxn : (x + y % 128 * 268435456 : Int) < 128 ^ 5 := by have := HX.out; omega
          have HXN := Lib.hid hxn
          clear ev hxn
          have e1 := u8_and127 y y0 y1
          have e2 : bits .or .u64 x (y % 128 * 268435456) = x + y % 128 * 268435456 := u64_join 28 268435456 (by decide) x (y % 128) hx0 (by have := HX.out; omega) (by omega) (by omega) (by omega)
          go_wp2
          go_round
          case rel => exact ⟨_, 5, _, rfl, rfl, by omega, rfl, by omega, by omega, by omega, HXN.out, R⟩
          case measure => simp [intOf]; omega
      · obtain rfl : r = 35 := by omega
        clear hr
        by_cases hy : y < 128
        · by_cases hyz : 0 < y
          · have R := Lib.hid (FU_end hrv (by omega) hlen HY.out hx0 HX.out y0 hy (fun h => by omega))
            have EV := Lib.hid (show (x + y * 34359738368 : Int) = x + y * 128 ^ 5 from by omega)
            have e2 : bits .or .u64 x (y * 34359738368) = x + y * 34359738368 := u64_join 35 34359738368 (by decide) x y hx0 (by have := HX.out; omega) (by omega) (by omega) (by omega)
            have hyb : (y == 0) = false := by simp; omega
            go_wp2
            go_ret3
            exact ⟨FuO.some R.out (by rw [← EV.out]; rfl), Kp.refl _ _⟩
          · obtain rfl : y = 0 := by omega
            have R := Lib.hid (FU_min hrv (by omega) hlen HY.out HX.out (by omega))
            go_wp2
            go_region
            all_goals
              go_wp2
              go_ret3
              exact ⟨FuO.none R.out rfl, (Kp.refl _ _).drew⟩
        · have R := hrv.next (by omega) hlen HY.out (by omega)
          have ev : (x + y % 128 * 34359738368 : Int) = x + (y - 128) * 128 ^ 5 := by have := HX.out; omega
          rw [← ev] at R
          have hxn : (x + y % 128 * 34359738368 : Int) < 128 ^ 6 := by have := HX.out; omega
          have HXN := Lib.hid hxn
          clear ev hxn
          have e1 := u8_and127 y y0 y1
          have e2 : bits .or .u64 x (y % 128 * 34359738368) = x + y % 128 * 34359738368 := u64_join 35 34359738368 (by decide) x (y % 128) hx0 (by have := HX.out; omega) (by omega) (by omega) (by omega)
          go_wp2
          go_round
          case rel => exact ⟨_, 6, _, rfl, rfl, by omega, rfl, by omega, by omega, by omega, HXN.out, R⟩
          case measure => simp [intOf]; omega
      · obtain rfl : r = 42 := by omega
        clear hr
        by_cases hy : y < 128
        · by_cases hyz : 0 < y
          · have R := Lib.hid (FU_end hrv (by omega) hlen HY.out hx0 HX.out y0 hy (fun h => by omega))
            have EV := Lib.hid (show (x + y * 4398046511104 : Int) = x + y * 128 ^ 6 from by omega)
            have e2 : bits .or .u64 x (y * 4398046511104) = x + y * 4398046511104 := u64_join 42 4398046511104 (by decide) x y hx0 (by have := HX.out; omega) (by omega) (by omega) (by omega)
            have hyb : (y == 0) = false := by simp; omega
            go_wp2
            go_ret3
            exact ⟨FuO.some R.out (by rw [← EV.out]; rfl), Kp.refl _ _⟩
          · obtain rfl : y = 0 := by omega
            have R := Lib.hid (FU_min hrv (by omega) hlen HY.out HX.out (by omega))
            go_wp2
            go_region
            all_goals
              go_wp2
              go_ret3
              exact ⟨FuO.none R.out rfl, (Kp.refl _ _).drew⟩
        · have R := hrv.next (by omega) hlen HY.out (by omega)
          have ev : (x + y % 128 * 4398046511104 : Int) = x + (y - 128) * 128 ^ 6 := by have := HX.out; omega
          rw [← ev] at R
          have hxn : (x + y % 128 * 4398046511104 : Int) < 128 ^ 7 := by have := HX.out; omega
          have HXN := Lib.hid hxn
          clear ev hxn
          have e1 := u8_and127 y y0 y1
          have e2 : bits .or .u64 x (y % 128 * 4398046511104) = x + y % 128 * 4398046511104 := u64_join 42 4398046511104 (by decide) x (y % 128) hx0 (by have := HX.out; omega) (by omega) (by omega) (by omega)
          go_wp2
          go_round
          case rel => exact ⟨_, 7, _, rfl, rfl, by omega, rfl, by omega, by omega, by omega, HXN.out, R⟩
          case measure => simp [intOf]; omega
      · obtain rfl : r = 49 := by omega
        clear hr
        by_cases hy : y < 128
        · by_cases hyz : 0 < y
          · have R := Lib.hid (FU_end hrv (by omega) hlen HY.out hx0 HX.out y0 hy (fun h => by omega))
            have EV := Lib.hid (show (x + y * 562949953421312 : Int) = x + y * 128 ^ 7 from by omega)
            have e2 : bits .or .u64 x (y * 562949953421312) = x + y * 562949953421312 := u64_join 49 562949953421312 (by decide) x y hx0 (by have := HX.out; omega) (by omega) (by omega) (by omega)
            have hyb : (y == 0) = false := by simp; omega
            go_wp2
            go_ret3
            exact ⟨FuO.some R.out (by rw [← EV.out]; rfl), Kp.refl _ _⟩
          · obtain rfl : y = 0 := by omega
            have R := Lib.hid (FU_min hrv (by omega) hlen HY.out HX.out (by omega))
            go_wp2
            go_region
            all_goals
              go_wp2
              go_ret3
              exact ⟨FuO.none R.out rfl, (Kp.refl _ _).drew⟩
        · have R := hrv.next (by omega) hlen HY.out (by omega)
          have ev : (x + y % 128 * 562949953421312 : Int) = x + (y - 128) * 128 ^ 7 := by have := HX.out; omega
          rw [← ev] at R
          have hxn : (x + y % 128 * 562949953421312 : Int) < 128 ^ 8 := by have := HX.out; omega
          have HXN := Lib.hid hxn
          clear ev hxn
          have e1 := u8_and127 y y0 y1
          have e2 : bits .or .u64 x (y % 128 * 562949953421312) = x + y % 128 * 562949953421312 := u64_join 49 562949953421312 (by decide) x (y % 128) hx0 (by have := HX.out; omega) (by omega) (by omega) (by omega)
          go_wp2
          go_round
          case rel => exact ⟨_, 8, _, rfl, rfl, by omega, rfl, by omega, by omega, by omega, HXN.out, R⟩
          case measure => simp [intOf]; omega
      · obtain rfl : r = 56 := by omega
        clear hr
        by_cases hy : y < 128
        · by_cases hyz : 0 < y
          · have R := Lib.hid (FU_end hrv (by omega) hlen HY.out hx0 HX.out y0 hy (fun h => by omega))
            have EV := Lib.hid (show (x + y * 72057594037927936 : Int) = x + y * 128 ^ 8 from by omega)
            have e2 : bits .or .u64 x (y * 72057594037927936) = x + y * 72057594037927936 := u64_join 56 72057594037927936 (by decide) x y hx0 (by have := HX.out; omega) (by omega) (by omega) (by omega)
            have hyb : (y == 0) = false := by simp; omega
            go_wp2
            go_ret3
            exact ⟨FuO.some R.out (by rw [← EV.out]; rfl), Kp.refl _ _⟩
          · obtain rfl : y = 0 := by omega
            have R := Lib.hid (FU_min hrv (by omega) hlen HY.out HX.out (by omega))
            go_wp2
            go_region
            all_goals
              go_wp2
              go_ret3
              exact ⟨FuO.none R.out rfl, (Kp.refl _ _).drew⟩
        · have R := Lib.hid (FU_over hrv hlen HY.out (by omega))
          go_wp2
          go_region
          all_goals
            go_wp2
            go_ret3
            exact ⟨FuO.none R.out rfl, (Kp.refl _ _).drew⟩
    · have R := Lib.hid (FU_short hrv (by rw [HL.out]; omega))
      go_wp2
      go_region
      all_goals
        go_wp2
        go_ret3
        exact ⟨FuO.none R.out rfl, (Kp.refl _ _).drew⟩
end Go.Proofs.YtflafpklphgbpaaGreatDoor
namespace Go.Proofs.YtflafpklphgbpaaGreatDoor
open Go Go.RowKit
set_option linter.unusedVariables false
set_option linter.unusedSimpArgs false
set_option maxRecDepth 100000

theorem results_tmp4 {fn : Func} {t u v x : Tmp} (h : fn.results = #[.tmp t, .tmp u, .tmp v, .tmp x]) (tmps : Array Value) (P : Program) (w : World) :
    (results fn tmps).run P w = .ok (.tuple #[tmps.getD t undef, tmps.getD u undef, tmps.getD v undef, tmps.getD x undef]) w := by
  simp [results, h]

theorem fu_some {w : World} {A : Option Addr} {n c : Nat} {l : List Int} (h : Rd w A n c l) (hE : MErrs w) {v k : Int} (hf : FU l = some (v, k)) :
    Calls Tryz.prog 62 #[.slice A n c] w fun e w' => e = .returned (.tuple #[.int .u64 v, .int .i64 k, Value.nilIface]) ∧ Kp no w w' :=
  (fromUvarint_calls h hE).mono fun e w' ⟨h1, h2⟩ => ⟨by unfold FuO at h1; rw [hf] at h1; exact h1, h2⟩
theorem fu_none {w : World} {A : Option Addr} {n c : Nat} {l : List Int} (h : Rd w A n c l) (hE : MErrs w) (hf : FU l = none) :
    Calls Tryz.prog 62 #[.slice A n c] w fun e w' => ∃ t x, e = .returned (.tuple #[.int .u64 0, .int .i64 0, .iface t x]) ∧ Kp no w w' :=
  (fromUvarint_calls h hE).mono fun e w' ⟨h1, h2⟩ => by unfold FuO at h1; rw [hf] at h1; obtain ⟨t, x, h3⟩ := h1; exact ⟨t, x, h3, h2⟩

theorem uv_some {w : World} {A : Option Addr} {n c : Nat} {l : List Int} (h : Rd w A n c l) (hE : MErrs w) {v k : Int} (hf : FU l = some (v, k)) :
    Calls Tryz.prog 102 #[.slice A n c] w fun e w' => ∃ A' n' c', e = .returned (.tuple #[.int .u64 v, .slice A' n' c', Value.nilIface]) ∧ n' + k.toNat = n ∧ Rd w' A' n' c' (l.drop k.toNat) ∧ Kp no w w' := by
  have HF := Lib.hid (FU_some h.byt hf)
  have hk1 : 1 ≤ k := HF.out.2.2.2.2.2.1
  have D := Lib.hid (fu_some h hE hf)
  have HL := Lib.hid h.len
  have hkn : k ≤ n := by rw [← h.len]; exact HF.out.2.2.2.2.2.2
  obtain ⟨A', R, _, _, hct⟩ := h.cutFrom (P := Tryz.prog) Tryz.und_bytes Tryz.size_byte .i64 k (by omega) hkn
  have HN := Lib.hid (show n - k.toNat + k.toNat = n from by omega)
  generalize n - k.toNat = n' at *
  generalize c - k.toNat = c' at *
  have hkz : (k == 0) = false := by simp; omega
  go_enter Tryz.func102, Tryz.ntmps102
  go_wp2_with (first | (go_at_call 62; refine D.out.mono ?_; rintro e w1 ⟨rfl, k1⟩))
  go_region
  all_goals
    go_wp2
    go_ret3
    exact ⟨A', n', c', rfl, HN.out, R.keepN k1.drew, k1.drew⟩
theorem uv_none {w : World} {A : Option Addr} {n c : Nat} {l : List Int} (h : Rd w A n c l) (hE : MErrs w) (hf : FU l = none) :
    Calls Tryz.prog 102 #[.slice A n c] w fun e w' => ∃ t x, e = .returned (.tuple #[.int .u64 0, .slice A n c, .iface t x]) ∧ Kp no w w' := by
  have D := Lib.hid (fu_none h hE hf)
  go_enter Tryz.func102, Tryz.ntmps102
  go_wp2_with (first | (go_at_call 62; refine D.out.mono ?_; rintro e w1 ⟨t, x, rfl, k1⟩))
  go_ret3
  exact ⟨t, x, rfl, k1⟩

/-- The head of a multihash: the hash's number, the bytes up to its end. -/
def MH (l : List Int) : Option (Int × Int) := match FU l with
  | none => none
  | some (code, n) => match FU (l.drop n.toNat) with
    | none => none
    | some (long, m) => if long ≤ 2147483647 ∧ long ≤ (l.length : Int) - n - m then some (code, n + m + long) else none
def RmO (l : List Int) (e : Ending) : Prop := match MH l with
  | some p => ∃ A n c, e = .returned (.tuple #[.int .i64 p.2, .int .u64 p.1, .slice A n c, Value.nilIface]) ∧ n ≤ l.length
  | none => ∃ t x, e = .returned (.tuple #[.int .i64 0, .int .u64 0, .slice none 0 0, .iface t x])
theorem RmO.some {l : List Int} {code r : Int} {e : Ending} {A : Option Addr} {n c : Nat} (h : MH l = some (code, r)) (he : e = .returned (.tuple #[.int .i64 r, .int .u64 code, .slice A n c, Value.nilIface])) (hn : n ≤ l.length) : RmO l e := by unfold RmO; rw [h]; exact ⟨A, n, c, he, hn⟩
theorem RmO.none {l : List Int} {e : Ending} {t : TypeId} {x : Value} (h : MH l = none) (he : e = .returned (.tuple #[.int .i64 0, .int .u64 0, .slice none 0 0, .iface t x])) : RmO l e := by unfold RmO; rw [h]; exact ⟨t, x, he⟩
theorem MH_none1 {l : List Int} (h : FU l = none) : MH l = none := by unfold MH; rw [h]
theorem MH_none2 {l : List Int} {v k : Int} (h : FU l = some (v, k)) (h2 : FU (l.drop k.toNat) = none) : MH l = none := by unfold MH; rw [h]; simp only; rw [h2]
theorem MH_if {l : List Int} {v k a m : Int} (h : FU l = some (v, k)) (h2 : FU (l.drop k.toNat) = some (a, m)) : MH l = if a ≤ 2147483647 ∧ a ≤ (l.length : Int) - k - m then some (v, k + m + a) else none := by unfold MH; rw [h]; simp only; rw [h2]
theorem MH_short {l : List Int} (hb : Byt l) (h : l.length < 2) : MH l = none := by
  cases hf : FU l with
  | none => exact MH_none1 hf
  | some p =>
    obtain ⟨v, k⟩ := p
    have := FU_some hb hf
    refine MH_none2 hf ?_
    rw [List.drop_eq_nil_of_le (by omega)]
    rfl

set_option maxHeartbeats 2000000 in
theorem readMh_calls {w : World} {A : Option Addr} {n c : Nat} {l : List Int} (h : Rd w A n c l) (hE : MErrs w) (hn : n ≤ 1099511627776) :
    Calls Tryz.prog 85 #[.slice A n c] w fun e w' => RmO l e ∧ Kp no w w' := by
  have hcap := h.cap
  have HL := Lib.hid h.len
  by_cases h2 : n < 2
  · have R := Lib.hid (MH_short h.byt (by rw [h.len]; exact h2))
    obtain ⟨_, _, _, ⟨td, vd, cd⟩⟩ := hE
    go_enter Tryz.func85, Tryz.ntmps85
    go_wp2
    go_region
    all_goals
      go_wp2
      (try simp only [Exit.inBlock, Exit.then]); refine bodyPost_ret (results_tmp4 rfl _ _ _) rfl ?_
      exact ⟨RmO.none R.out rfl, (Kp.refl _ _).drew⟩
  · cases hf : FU l with
    | none =>
      have R := Lib.hid (MH_none1 hf)
      have D := Lib.hid (uv_none h hE hf)
      clear hf
      go_enter Tryz.func85, Tryz.ntmps85
      go_wp2_with (first | (go_at_call 102; refine D.out.mono ?_; rintro e w1 ⟨t, x, rfl, k1⟩))
      (try simp only [Exit.inBlock, Exit.then]); refine bodyPost_ret (results_tmp4 rfl _ _ _) rfl ?_
      exact ⟨RmO.none R.out rfl, k1⟩
    | some p =>
      obtain ⟨v, k⟩ := p
      have HF := Lib.hid hf
      have D := Lib.hid (uv_some h hE hf)
      have HB := Lib.hid (FU_some h.byt hf)
      clear hf
      go_enter Tryz.func85, Tryz.ntmps85
      go_upto_if 23 with (first | (go_at_call 102; refine D.out.mono ?_; rintro e w1 ⟨A1, n1, c1, rfl, hn1, R1, k1⟩))
      have HN1 := Lib.hid hn1
      have hE1 := hE.keepN k1
      cases hf2 : FU (l.drop k.toNat) with
      | none =>
        have R := Lib.hid (MH_none2 HF.out hf2)
        have D2 := Lib.hid (uv_none R1 hE1 hf2)
        clear hf2 hn1
        go_wp2_with (first | (go_at_call 102; refine D2.out.mono ?_; rintro e w2 ⟨t, x, rfl, k2⟩))
        (try simp only [Exit.inBlock, Exit.then]); refine bodyPost_ret (results_tmp4 rfl _ _ _) rfl ?_
        exact ⟨RmO.none R.out rfl, k1.then k2⟩
      | some q =>
        obtain ⟨a, m⟩ := q
        have R := Lib.hid (MH_if HF.out hf2)
        have D2 := Lib.hid (uv_some R1 hE1 hf2)
        have HB2 := Lib.hid (FU_some R1.byt hf2)
        clear hf2 hn1
        have ha0 : 0 ≤ a := HB2.out.2.2.2.1
        have ha1 : a < 18446744073709551616 := HB2.out.2.2.2.2.1
        have hn1n : n1 ≤ n := by have := HN1.out; omega
        go_upto_if 32 with (first | (go_at_call 102; refine D2.out.mono ?_; rintro e w2 ⟨A2, n2, c2, rfl, hn2, R2, k2⟩))
        have HN2 := Lib.hid hn2
        have hn2n : n2 ≤ n := by omega
        clear hn2
        by_cases hbig : 2147483647 < a
        · have R' := Lib.hid (R.out.trans (if_neg (by omega)))
          go_wp2
          (try simp only [Exit.inBlock, Exit.then]); refine bodyPost_ret (results_tmp4 rfl _ _ _) rfl ?_
          exact ⟨RmO.none R'.out rfl, (k1.then k2).alloc _⟩
        · have ew : IntKind.i64.wrap a = a := IntWalk.i64_in _ (by omega)
          by_cases hlong : (n2 : Int) < a
          · have R' := Lib.hid (R.out.trans (if_neg (by have := HN1.out; have := HN2.out; have := HB.out; have := HB2.out; have := HL.out; omega)))
            go_wp2
            (try simp only [Exit.inBlock, Exit.then]); refine bodyPost_ret (results_tmp4 rfl _ _ _) rfl ?_
            exact ⟨RmO.none R'.out rfl, (k1.then k2).alloc _⟩
          · have R' := R.out.trans (if_pos (by have := HN1.out; have := HN2.out; have := HB.out; have := HB2.out; have := HL.out; omega))
            rw [show k + m + a = (n : Int) - (n2 : Int) + a from by have := HN1.out; have := HN2.out; have := HB.out; have := HB2.out; have := HL.out; omega] at R'
            have R2' := Lib.hid R'
            clear R'
            have hct := cutTo (P := Tryz.prog) Tryz.und_bytes Tryz.size_byte A2 n2 c2 .u64 a ha0 (by omega) R2.cap
            have HLA := Lib.hid (show a.toNat ≤ l.length from by have := HL.out; omega)
            go_wp2
            go_region
            all_goals
              go_wp2
              (try simp only [Exit.inBlock, Exit.then]); refine bodyPost_ret (results_tmp4 rfl _ _ _) rfl ?_
              exact ⟨RmO.some R2'.out rfl HLA.out, (k1.then k2).drew⟩
end Go.Proofs.YtflafpklphgbpaaGreatDoor
namespace Go.Proofs.YtflafpklphgbpaaGreatDoor
open Go Go.RowKit
set_option linter.unusedVariables false
set_option linter.unusedSimpArgs false
set_option maxRecDepth 100000

theorem results_cellrow_tmp1 {P : Program} {fn : Func} {p u : Tmp} {ty : TypeId} (h : fn.results = #[.cell p ty, .tmp u]) (tmps : Array Value) (w : World) (g : Nat) (t : TypeId) (cs : Array Value) (d : TypeDesc)
    (hp : tmps.getD p undef = .pointer (some ⟨g, 0, none⟩)) (hg : Blk w g cs t)
    (hu : P.underlying ty = some d) (hd : (match d with | .struct _ | .array _ _ => true | _ => false) = true) (hi : (P.info? ty).map (·.size) = some cs.size) :
    (results fn tmps).run P w = .ok (.tuple #[.agg cs, tmps.getD u undef]) w := by
  have hp' : tmps[p]?.getD undef = .pointer (some ⟨g, 0, none⟩) := by simpa using hp
  have hg' : w.heap[g]? = some (.cells cs t (0, 0)) := hg
  simp only [results, h]
  simp [Sem.run_bind, Result.andThen, hp', asAddr, run_loadVar_row w g t ty cs (0, 0) d hg' hu hd hi]

/-- Bytes are a multihash, whole. -/
def IsMH (l : List Int) : Prop := ∃ code, MH l = some (code, (l.length : Int))
theorem rm_some {w : World} {A : Option Addr} {n c : Nat} {l : List Int} (h : Rd w A n c l) (hE : MErrs w) (hn : n ≤ 1099511627776) {code r : Int} (hm : MH l = some (code, r)) :
    Calls Tryz.prog 85 #[.slice A n c] w fun e w' => ∃ A n' c', e = .returned (.tuple #[.int .i64 r, .int .u64 code, .slice A n' c', Value.nilIface]) ∧ n' ≤ n ∧ Kp no w w' :=
  (readMh_calls h hE hn).mono fun e w' ⟨h1, h2⟩ => by unfold RmO at h1; rw [hm] at h1; obtain ⟨A, n', c', h3, h4⟩ := h1; exact ⟨A, n', c', h3, by rw [← h.len]; exact h4, h2⟩
theorem rm_none {w : World} {A : Option Addr} {n c : Nat} {l : List Int} (h : Rd w A n c l) (hE : MErrs w) (hn : n ≤ 1099511627776) (hm : MH l = none) :
    Calls Tryz.prog 85 #[.slice A n c] w fun e w' => ∃ t x, e = .returned (.tuple #[.int .i64 0, .int .u64 0, .slice none 0 0, .iface t x]) ∧ Kp no w w' :=
  (readMh_calls h hE hn).mono fun e w' ⟨h1, h2⟩ => by unfold RmO at h1; rw [hm] at h1; obtain ⟨t, x, h3⟩ := h1; exact ⟨t, x, h3, h2⟩

theorem infoD : (Tryz.prog.info? 86).map (·.size) = some 4 := by kernel_rfl

def DecO (l : List Int) (e : Ending) : Prop := ∃ (a : Int) (b : ByteArray) (i : Int) (d : Option Addr) (p q : Nat) (z : Value), e = .returned (.tuple #[.agg #[.int .u64 a, .string b, .int .i64 i, .slice d p q], z]) ∧ (IsMH l → z = Value.nilIface) ∧ (¬ IsMH l → ∃ t x, z = .iface t x)

set_option maxHeartbeats 2000000 in
theorem decode_calls {w : World} {A : Option Addr} {n c : Nat} {l : List Int} (h : Rd w A n c l) (hE : MErrs w) (hn : n ≤ 1099511627776) :
    Calls Tryz.prog 65 #[.slice A n c] w fun e w' => DecO l e ∧ Kp no w w' := by
  have hcap := h.cap
  have HL := Lib.hid h.len
  have k0 : Kp no w (w.alloc (.cells #[.int .u64 0, .string ⟨#[]⟩, .int .i64 0, .slice none 0 0] 86)) := (Kp.refl _ _).alloc _
  have hr0 := Blk.new w #[.int .u64 0, .string ⟨#[]⟩, .int .i64 0, .slice none 0 0] 86
  cases hm : MH l with
  | none =>
    have R := Lib.hid (show ¬ IsMH l from fun ⟨c, h⟩ => by rw [hm] at h; cases h)
    have D := Lib.hid (rm_none (h.keepN k0) (hE.keepN k0) hn hm)
    clear hm
    go_enter Tryz.func65, Tryz.ntmps65
    go_wp2_with (first | (go_at_call 85; refine D.out.mono ?_; rintro e w1 ⟨t, x, rfl, k1⟩; have hr1 := hr0.keepN k1; have rf0 := hr1.free 0; have rf1 := hr1.free 1; have rf2 := hr1.free 2; have rf3 := hr1.free 3; have rc0 := hr1.cell 0; have rc1 := hr1.cell 1; have rc2 := hr1.cell 2; have rc3 := hr1.cell 3))
    have k4 := (((((k0.then k1).setCell (p := ⟨w.heap.size, 0, none⟩) (fun h => by simp at h) (.int .u64 0)).setCell (p := ⟨w.heap.size, 1, none⟩) (fun h => by simp at h) (.string ⟨#[]⟩)).setCell (p := ⟨w.heap.size, 2, none⟩) (fun h => by simp at h) (.int .i64 0)).setCell (p := ⟨w.heap.size, 3, none⟩) (fun h => by simp at h) (.slice none 0 0))
    have hr4 := ((((hr1.set 0 (.int .u64 0)).set 1 (.string ⟨#[]⟩)).set 2 (.int .i64 0)).set 3 (.slice none 0 0))
    (try simp only [Exit.inBlock, Exit.then]); refine bodyPost_ret (results_cellrow_tmp1 rfl _ _ w.heap.size 86 #[.int .u64 0, .string ⟨#[]⟩, .int .i64 0, .slice none 0 0] _ rfl hr4 Tryz.underlying86 rfl infoD) rfl ?_
    exact ⟨⟨_, _, _, _, _, _, _, rfl, fun h => absurd h R.out, fun _ => ⟨_, _, rfl⟩⟩, k4⟩
  | some p =>
    obtain ⟨code, r⟩ := p
    have D := Lib.hid (rm_some (h.keepN k0) (hE.keepN k0) hn hm)
    have HM := Lib.hid hm
    clear hm
    by_cases hr : (l.length : Int) = r
    · subst hr
      rw [h.len] at D HM
      have R := Lib.hid (show IsMH l from ⟨code, by rw [h.len]; exact HM.out⟩)
      go_enter Tryz.func65, Tryz.ntmps65
      go_wp2_with (first | (go_at_call 85; refine D.out.mono ?_; rintro e w1 ⟨A1, n1, c1, rfl, hn1, k1⟩; have hr1 := hr0.keepN k1; have rf0 := hr1.free 0; have rf1 := hr1.free 1; have rf2 := hr1.free 2; have rf3 := hr1.free 3; have rc0 := hr1.cell 0; have rc1 := hr1.cell 1; have rc2 := hr1.cell 2; have rc3 := hr1.cell 3))
      have k4 := (((((((((k0.then k1).setCell (p := ⟨w.heap.size, 0, none⟩) (fun h => by simp at h) (.int .u64 code)).setCell (p := ⟨w.heap.size, 1, none⟩) (fun h => by simp at h) (.string ⟨#[]⟩)).setCell (p := ⟨w.heap.size, 2, none⟩) (fun h => by simp at h) (.int .i64 n1)).setCell (p := ⟨w.heap.size, 3, none⟩) (fun h => by simp at h) (.slice A1 n1 c1)).setCell (p := ⟨w.heap.size, 0, none⟩) (fun h => by simp at h) (.int .u64 code)).setCell (p := ⟨w.heap.size, 1, none⟩) (fun h => by simp at h) (.string ⟨#[]⟩)).setCell (p := ⟨w.heap.size, 2, none⟩) (fun h => by simp at h) (.int .i64 n1)).setCell (p := ⟨w.heap.size, 3, none⟩) (fun h => by simp at h) (.slice A1 n1 c1))
      have hr4 := ((((((((hr1.set 0 (.int .u64 code)).set 1 (.string ⟨#[]⟩)).set 2 (.int .i64 n1)).set 3 (.slice A1 n1 c1)).set 0 (.int .u64 code)).set 1 (.string ⟨#[]⟩)).set 2 (.int .i64 n1)).set 3 (.slice A1 n1 c1))
      (try simp only [Exit.inBlock, Exit.then]); refine bodyPost_ret (results_cellrow_tmp1 rfl _ _ w.heap.size 86 #[.int .u64 code, .string ⟨#[]⟩, .int .i64 n1, .slice A1 n1 c1] _ rfl hr4 Tryz.underlying86 rfl infoD) rfl ?_
      exact ⟨⟨_, _, _, _, _, _, _, rfl, fun _ => rfl, fun h => absurd R.out h⟩, k4⟩
    · have hrn : ((n : Int) != r) = true := by rw [← h.len]; simpa using hr
      have R := Lib.hid (show ¬ IsMH l from fun ⟨c, h⟩ => by rw [HM.out] at h; injection h with h; injection h with _ h; exact hr h.symm)
      clear hr
      go_enter Tryz.func65, Tryz.ntmps65
      go_wp2_with (first | (go_at_call 85; refine D.out.mono ?_; rintro e w1 ⟨A1, n1, c1, rfl, hn1, k1⟩; have hr1 := hr0.keepN k1; have rf0 := hr1.free 0; have rf1 := hr1.free 1; have rf2 := hr1.free 2; have rf3 := hr1.free 3; have rc0 := hr1.cell 0; have rc1 := hr1.cell 1; have rc2 := hr1.cell 2; have rc3 := hr1.cell 3))
      have k4 := (((((((((k0.then k1).setCell (p := ⟨w.heap.size, 0, none⟩) (fun h => by simp at h) (.int .u64 code)).setCell (p := ⟨w.heap.size, 1, none⟩) (fun h => by simp at h) (.string ⟨#[]⟩)).setCell (p := ⟨w.heap.size, 2, none⟩) (fun h => by simp at h) (.int .i64 n1)).setCell (p := ⟨w.heap.size, 3, none⟩) (fun h => by simp at h) (.slice A1 n1 c1)).setCell (p := ⟨w.heap.size, 0, none⟩) (fun h => by simp at h) (.int .u64 code)).setCell (p := ⟨w.heap.size, 1, none⟩) (fun h => by simp at h) (.string ⟨#[]⟩)).setCell (p := ⟨w.heap.size, 2, none⟩) (fun h => by simp at h) (.int .i64 n1)).setCell (p := ⟨w.heap.size, 3, none⟩) (fun h => by simp at h) (.slice A1 n1 c1))
      have hr4 := ((((((((hr1.set 0 (.int .u64 code)).set 1 (.string ⟨#[]⟩)).set 2 (.int .i64 n1)).set 3 (.slice A1 n1 c1)).set 0 (.int .u64 code)).set 1 (.string ⟨#[]⟩)).set 2 (.int .i64 n1)).set 3 (.slice A1 n1 c1))
      (try simp only [Exit.inBlock, Exit.then]); refine bodyPost_ret (results_cellrow_tmp1 rfl _ _ w.heap.size 86 #[.int .u64 code, .string ⟨#[]⟩, .int .i64 n1, .slice A1 n1 c1] _ rfl hr4 Tryz.underlying86 rfl infoD) rfl ?_
      exact ⟨⟨_, _, _, _, _, _, _, rfl, fun h => absurd h R.out, fun _ => ⟨_, _, rfl⟩⟩, k4⟩

theorem dec_yes {w : World} {A : Option Addr} {n c : Nat} {l : List Int} (h : Rd w A n c l) (hE : MErrs w) (hn : n ≤ 1099511627776) (hm : IsMH l) :
    Calls Tryz.prog 65 #[.slice A n c] w fun e w' => ∃ (a : Int) (b : ByteArray) (i : Int) (d : Option Addr) (p q : Nat), e = .returned (.tuple #[.agg #[.int .u64 a, .string b, .int .i64 i, .slice d p q], Value.nilIface]) ∧ Kp no w w' :=
  (decode_calls h hE hn).mono fun e w' ⟨⟨a, b, i, d, p, q, z, h1, h2, _⟩, h3⟩ => ⟨a, b, i, d, p, q, by rw [h1, h2 hm], h3⟩
theorem dec_no {w : World} {A : Option Addr} {n c : Nat} {l : List Int} (h : Rd w A n c l) (hE : MErrs w) (hn : n ≤ 1099511627776) (hm : ¬ IsMH l) :
    Calls Tryz.prog 65 #[.slice A n c] w fun e w' => ∃ (a : Int) (b : ByteArray) (i : Int) (d : Option Addr) (p q : Nat) (t : TypeId) (x : Value), e = .returned (.tuple #[.agg #[.int .u64 a, .string b, .int .i64 i, .slice d p q], .iface t x]) ∧ Kp no w w' :=
  (decode_calls h hE hn).mono fun e w' ⟨⟨a, b, i, d, p, q, z, h1, _, h2⟩, h3⟩ => by obtain ⟨t, x, rfl⟩ := h2 hm; exact ⟨a, b, i, d, p, q, t, x, h1, h3⟩
theorem Decode_yes {w : World} {A : Option Addr} {n c : Nat} {l : List Int} (h : Rd w A n c l) (hE : MErrs w) (hn : n ≤ 1099511627776) (hm : IsMH l) :
    Calls Tryz.prog 42 #[.slice A n c] w fun e w' => ∃ p, e = .returned (.tuple #[.pointer p, Value.nilIface]) ∧ Kp no w w' := by
  have D := Lib.hid (dec_yes h hE hn hm)
  go_enter Tryz.func42, Tryz.ntmps42
  go_wp2_with (first | (go_at_call 65; refine D.out.mono ?_; rintro e w1 ⟨a, b, i, d, p, q, rfl, k1⟩))
  go_ret2
  exact ⟨_, rfl, k1.alloc _⟩
theorem Decode_no {w : World} {A : Option Addr} {n c : Nat} {l : List Int} (h : Rd w A n c l) (hE : MErrs w) (hn : n ≤ 1099511627776) (hm : ¬ IsMH l) :
    Calls Tryz.prog 42 #[.slice A n c] w fun e w' => ∃ t x, e = .returned (.tuple #[.pointer none, .iface t x]) ∧ Kp no w w' := by
  have D := Lib.hid (dec_no h hE hn hm)
  go_enter Tryz.func42, Tryz.ntmps42
  go_wp2_with (first | (go_at_call 65; refine D.out.mono ?_; rintro e w1 ⟨a, b, i, d, p, q, t, x, rfl, k1⟩))
  go_ret2
  exact ⟨_, _, rfl, k1.alloc _⟩
/-- Cast. -/
theorem Cast_yes {w : World} {A : Option Addr} {n c : Nat} {l : List Int} (h : Rd w A n c l) (hE : MErrs w) (hn : n ≤ 1099511627776) (hm : IsMH l) :
    Calls Tryz.prog 34 #[.slice A n c] w fun e w' => e = .returned (.tuple #[.slice A n c, Value.nilIface]) ∧ Kp no w w' := by
  have D := Lib.hid (Decode_yes h hE hn hm)
  go_enter Tryz.func34, Tryz.ntmps34
  go_wp2_with (first | (go_at_call 42; refine D.out.mono ?_; rintro e w1 ⟨p, rfl, k1⟩))
  go_ret2
  exact ⟨rfl, k1⟩
theorem Cast_no {w : World} {A : Option Addr} {n c : Nat} {l : List Int} (h : Rd w A n c l) (hE : MErrs w) (hn : n ≤ 1099511627776) (hm : ¬ IsMH l) :
    Calls Tryz.prog 34 #[.slice A n c] w fun e w' => ∃ A' t x, e = .returned (.tuple #[.slice A' 0 0, .iface t x]) ∧ Kp no w w' := by
  have D := Lib.hid (Decode_no h hE hn hm)
  go_enter Tryz.func34, Tryz.ntmps34
  go_wp2_with (first | (go_at_call 42; refine D.out.mono ?_; rintro e w1 ⟨t, x, rfl, k1⟩))
  go_ret2
  exact ⟨_, t, x, rfl, k1.alloc _⟩
end Go.Proofs.YtflafpklphgbpaaGreatDoor
namespace Go.Proofs.YtflafpklphgbpaaGreatDoor
open Go Go.RowKit
set_option linter.unusedVariables false
set_option linter.unusedSimpArgs false
set_option maxRecDepth 100000

theorem Tryz.und_ID : Tryz.prog.underlying 34 = some .string := by kernel_rfl
theorem IDFrom_yes {w : World} {A : Option Addr} {n c : Nat} {l : List Int} (h : Rd w A n c l) (hE : MErrs w) (hn : n ≤ 1099511627776) (hm : IsMH l) :
    Calls Tryz.prog 27 #[.slice A n c] w fun e w' => e = .returned (.tuple #[.string (strOfNums l), Value.nilIface]) ∧ Kp no w w' := by
  have D := Lib.hid (Cast_yes h hE hn hm)
  go_enter Tryz.func27, Tryz.ntmps27
  go_wp2_with (first | (go_at_call 34; refine D.out.mono ?_; rintro e w1 ⟨rfl, k1⟩; have hcv := (h.keepN k1).strT Tryz.und_bytes Tryz.und_ID))
  go_ret2
  exact ⟨rfl, k1⟩
theorem IDFrom_no {w : World} {A : Option Addr} {n c : Nat} {l : List Int} (h : Rd w A n c l) (hE : MErrs w) (hn : n ≤ 1099511627776) (hm : ¬ IsMH l) :
    Calls Tryz.prog 27 #[.slice A n c] w fun e w' => ∃ t x, e = .returned (.tuple #[.string ⟨#[]⟩, .iface t x]) ∧ Kp no w w' := by
  have D := Lib.hid (Cast_no h hE hn hm)
  go_enter Tryz.func27, Tryz.ntmps27
  go_wp2_with (first | (go_at_call 34; refine D.out.mono ?_; rintro e w1 ⟨A1, t, x, rfl, k1⟩))
  go_ret2
  exact ⟨t, x, rfl, k1⟩

theorem PeerOf_yes {w : World} {A : Option Addr} {n c : Nat} {l : List Int} (h : Rd w A n c l) (hE : MErrs w) (hn : n ≤ 1099511627776) (hm : IsMH l) :
    Calls Tryz.prog 16 #[.slice A n c] w fun e w' => ∃ A' c', e = .returned (.tuple #[.slice A' l.length c', .bool true]) ∧ Rd w' A' l.length c' l ∧ Kp no w w' := by
  obtain rfl := h.len
  have D := Lib.hid (Clone_calls h (by omega))
  go_enter Tryz.func16, Tryz.ntmps16
  go_wp2_with (first | (go_at_call 28; refine D.out.mono ?_; rintro e w1 ⟨A1, c1, rfl, M1⟩) | (go_at_call 27; refine (IDFrom_yes M1.rd (hE.keepN M1.kp) hn hm).mono ?_; rintro e w2 ⟨rfl, k2⟩; obtain ⟨c3, w3, hcv, R3, k3, _⟩ := str_bytes (w := w2) h.byt hn Tryz.und_ID Tryz.und_bytes))
  go_ret2
  exact ⟨_, c3, rfl, R3, (M1.kp.then k2).then k3⟩
theorem PeerOf_no {w : World} {A : Option Addr} {n c : Nat} {l : List Int} (h : Rd w A n c l) (hE : MErrs w) (hn : n ≤ 1099511627776) (hm : ¬ IsMH l) :
    Calls Tryz.prog 16 #[.slice A n c] w fun e w' => e = .returned (.tuple #[.slice none 0 0, .bool false]) ∧ Kp no w w' := by
  obtain rfl := h.len
  have D := Lib.hid (Clone_calls h (by omega))
  go_enter Tryz.func16, Tryz.ntmps16
  go_wp2_with (first | (go_at_call 28; refine D.out.mono ?_; rintro e w1 ⟨A1, c1, rfl, M1⟩) | (go_at_call 27; refine (IDFrom_no M1.rd (hE.keepN M1.kp) hn hm).mono ?_; rintro e w2 ⟨t, x, rfl, k2⟩))
  go_ret2
  exact ⟨rfl, M1.kp.then k2⟩
end Go.Proofs.YtflafpklphgbpaaGreatDoor
