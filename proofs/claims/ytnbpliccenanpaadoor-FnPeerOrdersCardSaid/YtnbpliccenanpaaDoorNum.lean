/- The reference's reader of numbers: wireNumber. -/
import Derived.Test.YtnbpliccenanpaaDoorBytes
import Derived.Test.YtnbpliccenanpaaDoorWire
namespace Go.Proofs.YtnbpliccenanpaaDoor
open Go Go.RowKit
set_option linter.unusedVariables false
set_option linter.unusedSimpArgs false
set_option maxRecDepth 100000

theorem u8_and127 (c : Int) (h0 : 0 ≤ c) (h1 : c < 256) : bits .and .u8 c 127 = c % 128 := by
  rw [u8_and c 127 h0 h1 (by omega) (by omega)]
  have : c.toNat &&& (127 : Int).toNat = c.toNat % 128 := Nat.and_two_pow_sub_one_eq_mod c.toNat 7
  rw [this]; omega
theorem u64_join (i : Nat) (C : Nat) (hC : C = 2 ^ i) (x y : Int) (hx0 : 0 ≤ x) (hx : x < C) (hC2 : C ≤ 9223372036854775808) (hy0 : 0 ≤ y) (hy : y * C < 18446744073709551616) : bits .or .u64 x (y * C) = x + y * C := by
  have hy1 : 0 ≤ y * C := Int.mul_nonneg hy0 (by omega)
  rw [u64_or x _ hx0 (by omega) hy1 hy, Nat.or_comm]
  have e : (y * C).toNat = y.toNat * 2 ^ i := by
    obtain ⟨m, rfl⟩ := Int.eq_ofNat_of_zero_le hy0
    rw [← Int.natCast_mul, Int.toNat_natCast, Int.toNat_natCast, hC]
  rw [nat_join i _ _ (by rw [e, Nat.mul_mod_left]) (by omega)]
  omega

def rvf (x : Int) (k : Nat) (p : Int × Int) : Int × Int := (x + 128 ^ k * p.1, k + p.2)
/-- What is known behind k bytes. -/
def RvAt (l : List Int) (x : Int) (k : Nat) : Prop := rv 10 l = (rv (10 - k) (l.drop k)).map (rvf x k)
theorem RvAt.start (l : List Int) : RvAt l 0 0 := by
  unfold RvAt
  have : rvf 0 0 = id := by funext p; obtain ⟨a, b⟩ := p; simp [rvf]
  rw [this]; simp
theorem drop_at (l : List Int) (k : Nat) (h : k < l.length) : l.drop k = l.getD k 0 :: l.drop (k + 1) := by
  rw [List.drop_eq_getElem_cons h]; simp [List.getD_eq_getElem?_getD, List.getElem?_eq_getElem h]
theorem RvAt.next {l : List Int} {x y : Int} {k : Nat} (h : RvAt l x k) (hk : k ≤ 8) (hlt : k < l.length) (hy : l.getD k 0 = y) (hge : 128 ≤ y) : RvAt l (x + (y - 128) * 128 ^ k) (k + 1) := by
  unfold RvAt at *
  rw [h, drop_at l k hlt, hy, show 10 - k = (9 - k) + 1 from by omega, show 10 - (k + 1) = 9 - k from by omega, rv, if_neg (by omega), if_neg (by omega), Option.map_map]
  congr 1
  funext p
  simp only [Function.comp, rvf, Prod.mk.injEq]
  constructor
  · rw [Int.pow_succ, Int.mul_add, Int.mul_sub, Int.sub_mul, Int.mul_assoc (128 ^ k) 128 p.1, Int.mul_comm y (128 ^ k)]; omega
  · omega
theorem RvAt.end_ {l : List Int} {x y : Int} {k : Nat} (h : RvAt l x k) (hk : k ≤ 9) (hlt : k < l.length) (hy : l.getD k 0 = y) (hlt' : y < 128) (h9 : k = 9 → y < 2) : rv 10 l = some (x + y * 128 ^ k, (k : Int) + 1) := by
  unfold RvAt at *
  rw [h, drop_at l k hlt, hy, show 10 - k = (9 - k) + 1 from by omega, rv, if_pos hlt', if_neg (by omega)]
  simp [rvf, Int.mul_comm]
theorem RvAt.over {l : List Int} {x y : Int} (h : RvAt l x 9) (hlt : 9 < l.length) (hy : l.getD 9 0 = y) (h2 : 2 ≤ y) : rv 10 l = none := by
  unfold RvAt at *
  rw [h, drop_at l 9 hlt, hy, show 10 - 9 = 0 + 1 from rfl, rv]
  split
  · rw [if_pos ⟨rfl, h2⟩]; rfl
  · rw [if_pos rfl]; rfl
theorem RvAt.short {l : List Int} {x : Int} {k : Nat} (h : RvAt l x k) (hle : l.length ≤ k) : rv 10 l = none := by
  unfold RvAt at *
  rw [h, List.drop_eq_nil_of_le hle]
  cases (10 - k) <;> rfl

/-- How it ends. -/
def NumO (l : List Int) (e : Ending) : Prop := match rv 10 l with
  | some p => e = .returned (.tuple #[.int .u64 p.1, .int .i64 p.2])
  | none => e = .returned (.tuple #[.int .u64 0, .int .i64 0])
theorem NumO.some {l : List Int} {v k : Int} {e : Ending} (h : rv 10 l = some (v, k)) (he : e = .returned (.tuple #[.int .u64 v, .int .i64 k])) : NumO l e := by unfold NumO; rw [h]; exact he
theorem NumO.none {l : List Int} {e : Ending} (h : rv 10 l = none) (he : e = .returned (.tuple #[.int .u64 0, .int .i64 0])) : NumO l e := by unfold NumO; rw [h]; exact he
def NRel (l : List Int) (n : Nat) (a i : Value) : Prop := ∃ (x : Int) (k : Nat), a = .int .u64 x ∧ i = .int .i64 k ∧ k ≤ n ∧ k ≤ 9 ∧ 0 ≤ x ∧ x < 128 ^ k ∧ RvAt l x k

set_option maxHeartbeats 8000000 in
theorem sNumber_calls {w : World} {A : Option Addr} {n c : Nat} {l : List Int} (h : Rd w A n c l) :
    Calls Tryd.prog 31 #[.slice A n c] w fun e w' => NumO l e ∧ w = w' := by
  have hl := h.len
  have hcap := h.cap
  have hmax := h.max
  have HL := Lib.hid hl
  clear hl
  go_enter Tryd.func31, Tryd.ntmps31
  go_wp2
  go_loop [4, 9] (NRel l n) (fun _ i => n - (intOf i).toNat)
  case atStart => exact ⟨0, 0, rfl, rfl, by omega, by omega, by omega, by simp, RvAt.start l⟩
  case round =>
    obtain ⟨x, k, rfl, rfl, hkn, hk9, hx0, hx, hrv⟩ := hrel
    by_cases hlt : k < n
    · obtain ⟨g, o, rfl, hc⟩ := h.at_ (by omega)
      have hcell := hc k hlt
      have hbd := h.byt.getD k
      have hlen : k < l.length := by rw [HL.out]; exact hlt
      obtain ⟨y, hy⟩ : ∃ y, l.getD k 0 = y := ⟨_, rfl⟩
      rw [hy] at hcell hbd
      have HY := Lib.hid hy
      obtain ⟨y0, y1⟩ := hbd
      have e1 := u8_and127 y y0 y1
      have HX := Lib.hid hx
      clear hc hy hx
      rcases (show k = 0 ∨ k = 1 ∨ k = 2 ∨ k = 3 ∨ k = 4 ∨ k = 5 ∨ k = 6 ∨ k = 7 ∨ k = 8 ∨ k = 9 from by omega) with rfl | rfl | rfl | rfl | rfl | rfl | rfl | rfl | rfl | rfl
      · rw [Nat.add_zero] at hcell
        by_cases hy : y < 128
        · have R := hrv.end_ (by omega) hlen HY.out hy (by omega)
          have ev : (y % 128 : Int) = x + y * 128 ^ 0 := by have := HX.out; omega
          have EV := Lib.hid ev
          have R2 := Lib.hid R
          clear R ev
          have hx00 : x = 0 := by have := HX.out; omega
          subst hx00
          have e2 : bits .or .u64 0 (y % 128) = y % 128 := by have := u64_join 0 1 (by decide) 0 (y % 128) (by omega) (by omega) (by omega) (by omega) (by omega); simpa using this
          go_wp2
          go_ret2
          exact ⟨NumO.some R2.out (by rw [← EV.out]; rfl), rfl⟩
        · have R := hrv.next (by omega) hlen HY.out (by omega)
          have ev : (y % 128 : Int) = x + (y - 128) * 128 ^ 0 := by have := HX.out; omega
          rw [← ev] at R
          have hxn : (y % 128 : Int) < 128 ^ 1 := by have := HX.out; omega
          have HXN := Lib.hid hxn
          clear ev hxn
          have hx00 : x = 0 := by have := HX.out; omega
          subst hx00
          have e2 : bits .or .u64 0 (y % 128) = y % 128 := by have := u64_join 0 1 (by decide) 0 (y % 128) (by omega) (by omega) (by omega) (by omega) (by omega); simpa using this
          go_wp2
          go_round
          case rel => exact ⟨_, 1, rfl, rfl, by omega, by omega, by omega, HXN.out, R⟩
          case measure => simp [intOf]; omega
      · by_cases hy : y < 128
        · have R := hrv.end_ (by omega) hlen HY.out hy (by omega)
          have ev : (x + y % 128 * 128 : Int) = x + y * 128 ^ 1 := by have := HX.out; omega
          have EV := Lib.hid ev
          have R2 := Lib.hid R
          clear R ev
          have e2 : bits .or .u64 x (y % 128 * 128) = x + y % 128 * 128 := u64_join 7 128 (by decide) x (y % 128) hx0 (by have := HX.out; omega) (by omega) (by omega) (by omega)
          go_wp2
          go_ret2
          exact ⟨NumO.some R2.out (by rw [← EV.out]; rfl), rfl⟩
        · have R := hrv.next (by omega) hlen HY.out (by omega)
          have ev : (x + y % 128 * 128 : Int) = x + (y - 128) * 128 ^ 1 := by have := HX.out; omega
          rw [← ev] at R
          have hxn : (x + y % 128 * 128 : Int) < 128 ^ 2 := by have := HX.out; omega
          have HXN := Lib.hid hxn
          clear ev hxn
          have e2 : bits .or .u64 x (y % 128 * 128) = x + y % 128 * 128 := u64_join 7 128 (by decide) x (y % 128) hx0 (by have := HX.out; omega) (by omega) (by omega) (by omega)
          go_wp2
          go_round
          case rel => exact ⟨_, 2, rfl, rfl, by omega, by omega, by omega, HXN.out, R⟩
          case measure => simp [intOf]; omega
      · by_cases hy : y < 128
        · have R := hrv.end_ (by omega) hlen HY.out hy (by omega)
          have ev : (x + y % 128 * 16384 : Int) = x + y * 128 ^ 2 := by have := HX.out; omega
          have EV := Lib.hid ev
          have R2 := Lib.hid R
          clear R ev
          have e2 : bits .or .u64 x (y % 128 * 16384) = x + y % 128 * 16384 := u64_join 14 16384 (by decide) x (y % 128) hx0 (by have := HX.out; omega) (by omega) (by omega) (by omega)
          go_wp2
          go_ret2
          exact ⟨NumO.some R2.out (by rw [← EV.out]; rfl), rfl⟩
        · have R := hrv.next (by omega) hlen HY.out (by omega)
          have ev : (x + y % 128 * 16384 : Int) = x + (y - 128) * 128 ^ 2 := by have := HX.out; omega
          rw [← ev] at R
          have hxn : (x + y % 128 * 16384 : Int) < 128 ^ 3 := by have := HX.out; omega
          have HXN := Lib.hid hxn
          clear ev hxn
          have e2 : bits .or .u64 x (y % 128 * 16384) = x + y % 128 * 16384 := u64_join 14 16384 (by decide) x (y % 128) hx0 (by have := HX.out; omega) (by omega) (by omega) (by omega)
          go_wp2
          go_round
          case rel => exact ⟨_, 3, rfl, rfl, by omega, by omega, by omega, HXN.out, R⟩
          case measure => simp [intOf]; omega
      · by_cases hy : y < 128
        · have R := hrv.end_ (by omega) hlen HY.out hy (by omega)
          have ev : (x + y % 128 * 2097152 : Int) = x + y * 128 ^ 3 := by have := HX.out; omega
          have EV := Lib.hid ev
          have R2 := Lib.hid R
          clear R ev
          have e2 : bits .or .u64 x (y % 128 * 2097152) = x + y % 128 * 2097152 := u64_join 21 2097152 (by decide) x (y % 128) hx0 (by have := HX.out; omega) (by omega) (by omega) (by omega)
          go_wp2
          go_ret2
          exact ⟨NumO.some R2.out (by rw [← EV.out]; rfl), rfl⟩
        · have R := hrv.next (by omega) hlen HY.out (by omega)
          have ev : (x + y % 128 * 2097152 : Int) = x + (y - 128) * 128 ^ 3 := by have := HX.out; omega
          rw [← ev] at R
          have hxn : (x + y % 128 * 2097152 : Int) < 128 ^ 4 := by have := HX.out; omega
          have HXN := Lib.hid hxn
          clear ev hxn
          have e2 : bits .or .u64 x (y % 128 * 2097152) = x + y % 128 * 2097152 := u64_join 21 2097152 (by decide) x (y % 128) hx0 (by have := HX.out; omega) (by omega) (by omega) (by omega)
          go_wp2
          go_round
          case rel => exact ⟨_, 4, rfl, rfl, by omega, by omega, by omega, HXN.out, R⟩
          case measure => simp [intOf]; omega
      · by_cases hy : y < 128
        · have R := hrv.end_ (by omega) hlen HY.out hy (by omega)
          have ev : (x + y % 128 * 268435456 : Int) = x + y * 128 ^ 4 := by have := HX.out; omega
          have EV := Lib.hid ev
          have R2 := Lib.hid R
          clear R ev
          have e2 : bits .or .u64 x (y % 128 * 268435456) = x + y % 128 * 268435456 := u64_join 28 268435456 (by decide) x (y % 128) hx0 (by have := HX.out; omega) (by omega) (by omega) (by omega)
          go_wp2
          go_ret2
          exact ⟨NumO.some R2.out (by rw [← EV.out]; rfl), rfl⟩
        · have R := hrv.next (by omega) hlen HY.out (by omega)
          have ev : (x + y % 128 * 268435456 : Int) = x + (y - 128) * 128 ^ 4 := by have := HX.out; omega
          rw [← ev] at R
          have hxn : (x + y % 128 * 268435456 : Int) < 128 ^ 5 := by have := HX.out; omega
          have HXN := Lib.hid hxn
          clear ev hxn
          have e2 : bits .or .u64 x (y % 128 * 268435456) = x + y % 128 * 268435456 := u64_join 28 268435456 (by decide) x (y % 128) hx0 (by have := HX.out; omega) (by omega) (by omega) (by omega)
          go_wp2
          go_round
          case rel => exact ⟨_, 5, rfl, rfl, by omega, by omega, by omega, HXN.out, R⟩
          case measure => simp [intOf]; omega
      · by_cases hy : y < 128
        · have R := hrv.end_ (by omega) hlen HY.out hy (by omega)
          have ev : (x + y % 128 * 34359738368 : Int) = x + y * 128 ^ 5 := by have := HX.out; omega
          have EV := Lib.hid ev
          have R2 := Lib.hid R
          clear R ev
          have e2 : bits .or .u64 x (y % 128 * 34359738368) = x + y % 128 * 34359738368 := u64_join 35 34359738368 (by decide) x (y % 128) hx0 (by have := HX.out; omega) (by omega) (by omega) (by omega)
          go_wp2
          go_ret2
          exact ⟨NumO.some R2.out (by rw [← EV.out]; rfl), rfl⟩
        · have R := hrv.next (by omega) hlen HY.out (by omega)
          have ev : (x + y % 128 * 34359738368 : Int) = x + (y - 128) * 128 ^ 5 := by have := HX.out; omega
          rw [← ev] at R
          have hxn : (x + y % 128 * 34359738368 : Int) < 128 ^ 6 := by have := HX.out; omega
          have HXN := Lib.hid hxn
          clear ev hxn
          have e2 : bits .or .u64 x (y % 128 * 34359738368) = x + y % 128 * 34359738368 := u64_join 35 34359738368 (by decide) x (y % 128) hx0 (by have := HX.out; omega) (by omega) (by omega) (by omega)
          go_wp2
          go_round
          case rel => exact ⟨_, 6, rfl, rfl, by omega, by omega, by omega, HXN.out, R⟩
          case measure => simp [intOf]; omega
      · by_cases hy : y < 128
        · have R := hrv.end_ (by omega) hlen HY.out hy (by omega)
          have ev : (x + y % 128 * 4398046511104 : Int) = x + y * 128 ^ 6 := by have := HX.out; omega
          have EV := Lib.hid ev
          have R2 := Lib.hid R
          clear R ev
          have e2 : bits .or .u64 x (y % 128 * 4398046511104) = x + y % 128 * 4398046511104 := u64_join 42 4398046511104 (by decide) x (y % 128) hx0 (by have := HX.out; omega) (by omega) (by omega) (by omega)
          go_wp2
          go_ret2
          exact ⟨NumO.some R2.out (by rw [← EV.out]; rfl), rfl⟩
        · have R := hrv.next (by omega) hlen HY.out (by omega)
          have ev : (x + y % 128 * 4398046511104 : Int) = x + (y - 128) * 128 ^ 6 := by have := HX.out; omega
          rw [← ev] at R
          have hxn : (x + y % 128 * 4398046511104 : Int) < 128 ^ 7 := by have := HX.out; omega
          have HXN := Lib.hid hxn
          clear ev hxn
          have e2 : bits .or .u64 x (y % 128 * 4398046511104) = x + y % 128 * 4398046511104 := u64_join 42 4398046511104 (by decide) x (y % 128) hx0 (by have := HX.out; omega) (by omega) (by omega) (by omega)
          go_wp2
          go_round
          case rel => exact ⟨_, 7, rfl, rfl, by omega, by omega, by omega, HXN.out, R⟩
          case measure => simp [intOf]; omega
      · by_cases hy : y < 128
        · have R := hrv.end_ (by omega) hlen HY.out hy (by omega)
          have ev : (x + y % 128 * 562949953421312 : Int) = x + y * 128 ^ 7 := by have := HX.out; omega
          have EV := Lib.hid ev
          have R2 := Lib.hid R
          clear R ev
          have e2 : bits .or .u64 x (y % 128 * 562949953421312) = x + y % 128 * 562949953421312 := u64_join 49 562949953421312 (by decide) x (y % 128) hx0 (by have := HX.out; omega) (by omega) (by omega) (by omega)
          go_wp2
          go_ret2
          exact ⟨NumO.some R2.out (by rw [← EV.out]; rfl), rfl⟩
        · have R := hrv.next (by omega) hlen HY.out (by omega)
          have ev : (x + y % 128 * 562949953421312 : Int) = x + (y - 128) * 128 ^ 7 := by have := HX.out; omega
          rw [← ev] at R
          have hxn : (x + y % 128 * 562949953421312 : Int) < 128 ^ 8 := by have := HX.out; omega
          have HXN := Lib.hid hxn
          clear ev hxn
          have e2 : bits .or .u64 x (y % 128 * 562949953421312) = x + y % 128 * 562949953421312 := u64_join 49 562949953421312 (by decide) x (y % 128) hx0 (by have := HX.out; omega) (by omega) (by omega) (by omega)
          go_wp2
          go_round
          case rel => exact ⟨_, 8, rfl, rfl, by omega, by omega, by omega, HXN.out, R⟩
          case measure => simp [intOf]; omega
      · by_cases hy : y < 128
        · have R := hrv.end_ (by omega) hlen HY.out hy (by omega)
          have ev : (x + y % 128 * 72057594037927936 : Int) = x + y * 128 ^ 8 := by have := HX.out; omega
          have EV := Lib.hid ev
          have R2 := Lib.hid R
          clear R ev
          have e2 : bits .or .u64 x (y % 128 * 72057594037927936) = x + y % 128 * 72057594037927936 := u64_join 56 72057594037927936 (by decide) x (y % 128) hx0 (by have := HX.out; omega) (by omega) (by omega) (by omega)
          go_wp2
          go_ret2
          exact ⟨NumO.some R2.out (by rw [← EV.out]; rfl), rfl⟩
        · have R := hrv.next (by omega) hlen HY.out (by omega)
          have ev : (x + y % 128 * 72057594037927936 : Int) = x + (y - 128) * 128 ^ 8 := by have := HX.out; omega
          rw [← ev] at R
          have hxn : (x + y % 128 * 72057594037927936 : Int) < 128 ^ 9 := by have := HX.out; omega
          have HXN := Lib.hid hxn
          clear ev hxn
          have e2 : bits .or .u64 x (y % 128 * 72057594037927936) = x + y % 128 * 72057594037927936 := u64_join 56 72057594037927936 (by decide) x (y % 128) hx0 (by have := HX.out; omega) (by omega) (by omega) (by omega)
          go_wp2
          go_round
          case rel => exact ⟨_, 9, rfl, rfl, by omega, by omega, by omega, HXN.out, R⟩
          case measure => simp [intOf]; omega
      · by_cases hy : y < 2
        · have R := hrv.end_ (by omega) hlen HY.out (by omega) (fun _ => hy)
          have ev : x + y % 128 * 9223372036854775808 = x + y * 128 ^ 9 := by omega
          have EV := Lib.hid ev
          have R2 := Lib.hid R
          clear R ev
          have e2 : bits .or .u64 x (y % 128 * 9223372036854775808) = x + y % 128 * 9223372036854775808 := u64_join 63 9223372036854775808 (by decide) x (y % 128) hx0 (by have := HX.out; omega) (by omega) (by omega) (by omega)
          have hw : IntKind.u64.wrap (y % 128 * 9223372036854775808) = y % 128 * 9223372036854775808 := IntWalk.u64_in _ (by omega)
          go_wp2
          go_ret2
          exact ⟨NumO.some R2.out (by rw [← EV.out]; rfl), rfl⟩
        · have R := Lib.hid (hrv.over hlen HY.out (by omega))
          go_wp2
          go_ret2
          exact ⟨NumO.none R.out rfl, rfl⟩
    · have R := Lib.hid (hrv.short (by rw [HL.out]; omega))
      go_wp2
      go_ret2
      exact ⟨NumO.none R.out rfl, rfl⟩
theorem sNumber_ok {w : World} {A : Option Addr} {n c : Nat} {l : List Int} (h : Rd w A n c l) {v k : Int} (hr : rv 10 l = some (v, k)) :
    Calls Tryd.prog 31 #[.slice A n c] w fun e w' => e = .returned (.tuple #[.int .u64 v, .int .i64 k]) ∧ w = w' :=
  (sNumber_calls h).mono fun e w' ⟨h1, h2⟩ => ⟨by unfold NumO at h1; rw [hr] at h1; exact h1, h2⟩
theorem sNumber_bad {w : World} {A : Option Addr} {n c : Nat} {l : List Int} (h : Rd w A n c l) (hr : rv 10 l = none) :
    Calls Tryd.prog 31 #[.slice A n c] w fun e w' => e = .returned (.tuple #[.int .u64 0, .int .i64 0]) ∧ w = w' :=
  (sNumber_calls h).mono fun e w' ⟨h1, h2⟩ => ⟨by unfold NumO at h1; rw [hr] at h1; exact h1, h2⟩
end Go.Proofs.YtnbpliccenanpaaDoor
