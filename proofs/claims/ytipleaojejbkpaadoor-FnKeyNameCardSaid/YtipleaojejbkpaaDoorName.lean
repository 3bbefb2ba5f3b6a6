/- FnKeyName walked. -/
import Derived.Test.YtipleaojejbkpaaDoorAppend
import Derived.Test.YtipleaojejbkpaaDoorShelf
namespace Go.Proofs.YtipleaojejbkpaaDoor
open Go Go.RowKit
set_option linter.unusedVariables false
set_option linter.unusedSimpArgs false
set_option maxRecDepth 100000

theorem Kp.grow {w : World} (os : Array Obj) : Kp no w (Sort.grow w os) := by
  refine ⟨rfl, rfl, rfl, ?_, ?_⟩
  · simp [Sort.grow]
  · intro k hk _
    simp [Sort.grow, Array.getElem?_append, hk]
/-- A kind's name. -/
def kname (k : Int) : ByteArray := if k = 0 then ⟨#[82, 83, 65]⟩ else if k = 1 then ⟨#[69, 100, 50, 53, 53, 49, 57]⟩ else if k = 2 then ⟨#[83, 101, 99, 112, 50, 53, 54, 107, 49]⟩ else if k = 3 then ⟨#[69, 67, 68, 83, 65]⟩ else ⟨(Lib.itoa k).toArray⟩

set_option maxHeartbeats 2000000 in
theorem KTString_calls {w : World} (k : Int) (h0 : -2147483648 ≤ k) (h1 : k ≤ 2147483647) (ht : Lib.TabIs Tryd.prog w "internal/strconv.uint64pow10" .u64 Lib.pow10Tab) :
    Calls Tryd.prog 50 #[.int .i32 k] w fun e w' => e = .returned (.string (kname k)) ∧ Kp no w w' := by
  have D := Lib.hid (Tryd.strconv_Itoa k (by omega) (by omega) w ht)
  have hs : k = 0 ∨ k = 1 ∨ k = 2 ∨ k = 3 ∨ (¬ k = 0 ∧ ¬ k = 1 ∧ ¬ k = 2 ∧ ¬ k = 3) := by omega
  rcases hs with rfl | rfl | rfl | rfl | ⟨a0, a1, a2, a3⟩
  · go_enter Tryd.func50, Tryd.ntmps50
    go_wp2
    go_ret
    exact ⟨rfl, Kp.refl _ _⟩
  · go_enter Tryd.func50, Tryd.ntmps50
    go_wp2
    go_ret
    exact ⟨rfl, Kp.refl _ _⟩
  · go_enter Tryd.func50, Tryd.ntmps50
    go_wp2
    go_ret
    exact ⟨rfl, Kp.refl _ _⟩
  · go_enter Tryd.func50, Tryd.ntmps50
    go_wp2
    go_ret
    exact ⟨rfl, Kp.refl _ _⟩
  · have hn : kname k = ⟨(Lib.itoa k).toArray⟩ := by unfold kname; rw [if_neg a0, if_neg a1, if_neg a2, if_neg a3]
    have HN := Lib.hid hn
    clear hn
    have b0 : (k == 0) = false := by simpa using a0
    have b1 : (k == 1) = false := by simpa using a1
    have b2 : (k == 2) = false := by simpa using a2
    have b3 : (k == 3) = false := by simpa using a3
    go_enter Tryd.func50, Tryd.ntmps50
    go_wp2_with (first | (go_at_call 69; refine D.out.mono ?_; rintro e w2 ⟨rfl, m, os, rfl⟩))
    go_ret
    exact ⟨by rw [HN.out]; rfl, ((Kp.refl no w).drewN m).then (Kp.grow os)⟩
theorem KeyName_calls {w : World} (k : Int) (h0 : -2147483648 ≤ k) (h1 : k ≤ 2147483647) (ht : Lib.TabIs Tryd.prog w "internal/strconv.uint64pow10" .u64 Lib.pow10Tab) :
    Calls Tryd.prog 17 #[.int .i32 k] w fun e w' => e = .returned (.string (kname k)) ∧ Kp no w w' := by
  have D := Lib.hid (KTString_calls k h0 h1 ht)
  go_enter Tryd.func17, Tryd.ntmps17
  go_wp2_with (first | (go_at_call 50; refine D.out.mono ?_; rintro e w2 ⟨rfl, k2⟩))
  go_ret
  exact ⟨rfl, k2⟩
/-- The digits that a loop from x on still writes. -/
def dd (x : Nat) : List UInt8 := if x = 0 then [] else Lib.decDigits x
theorem dd_step (x : Nat) (h : 0 < x) : dd x = dd (x / 10) ++ [UInt8.ofNat (48 + x % 10)] := by
  unfold dd
  rw [if_neg (by omega), Lib.decDigits]
  by_cases hx : x < 10
  · rw [dif_pos hx, if_pos (by omega), Nat.mod_eq_of_lt hx]; rfl
  · rw [dif_neg hx, if_neg (by omega)]
theorem kname_neg (k : Int) (h : k < 0) : kname k = ⟨(45 :: dd k.natAbs).toArray⟩ := by
  unfold kname Lib.itoa dd
  rw [if_neg (by omega), if_neg (by omega), if_neg (by omega), if_neg (by omega), if_pos h, if_neg (by omega)]
theorem kname_pos (k : Int) (h : 3 < k) : kname k = ⟨(dd k.toNat).toArray⟩ := by
  unfold kname Lib.itoa dd
  rw [if_neg (by omega), if_neg (by omega), if_neg (by omega), if_neg (by omega), if_neg (by omega), if_neg (by omega)]

theorem cat1 (a : ByteArray) (c : UInt8) (L : List UInt8) (h : a = ⟨#[c]⟩) : a ++ ⟨L.toArray⟩ = ⟨(c :: L).toArray⟩ := by
  subst h
  apply ByteArray.ext
  simp
theorem dig0 (L : List UInt8) : (⟨#[48, 49, 50, 51, 52, 53, 54, 55, 56, 57]⟩ : ByteArray).extract 0 1 ++ ⟨L.toArray⟩ = ⟨(UInt8.ofNat (48 + 0) :: L).toArray⟩ := cat1 _ _ L (by rfl)
theorem dig1 (L : List UInt8) : (⟨#[48, 49, 50, 51, 52, 53, 54, 55, 56, 57]⟩ : ByteArray).extract 1 2 ++ ⟨L.toArray⟩ = ⟨(UInt8.ofNat (48 + 1) :: L).toArray⟩ := cat1 _ _ L (by rfl)
theorem dig2 (L : List UInt8) : (⟨#[48, 49, 50, 51, 52, 53, 54, 55, 56, 57]⟩ : ByteArray).extract 2 3 ++ ⟨L.toArray⟩ = ⟨(UInt8.ofNat (48 + 2) :: L).toArray⟩ := cat1 _ _ L (by rfl)
theorem dig3 (L : List UInt8) : (⟨#[48, 49, 50, 51, 52, 53, 54, 55, 56, 57]⟩ : ByteArray).extract 3 4 ++ ⟨L.toArray⟩ = ⟨(UInt8.ofNat (48 + 3) :: L).toArray⟩ := cat1 _ _ L (by rfl)
theorem dig4 (L : List UInt8) : (⟨#[48, 49, 50, 51, 52, 53, 54, 55, 56, 57]⟩ : ByteArray).extract 4 5 ++ ⟨L.toArray⟩ = ⟨(UInt8.ofNat (48 + 4) :: L).toArray⟩ := cat1 _ _ L (by rfl)
theorem dig5 (L : List UInt8) : (⟨#[48, 49, 50, 51, 52, 53, 54, 55, 56, 57]⟩ : ByteArray).extract 5 6 ++ ⟨L.toArray⟩ = ⟨(UInt8.ofNat (48 + 5) :: L).toArray⟩ := cat1 _ _ L (by rfl)
theorem dig6 (L : List UInt8) : (⟨#[48, 49, 50, 51, 52, 53, 54, 55, 56, 57]⟩ : ByteArray).extract 6 7 ++ ⟨L.toArray⟩ = ⟨(UInt8.ofNat (48 + 6) :: L).toArray⟩ := cat1 _ _ L (by rfl)
theorem dig7 (L : List UInt8) : (⟨#[48, 49, 50, 51, 52, 53, 54, 55, 56, 57]⟩ : ByteArray).extract 7 8 ++ ⟨L.toArray⟩ = ⟨(UInt8.ofNat (48 + 7) :: L).toArray⟩ := cat1 _ _ L (by rfl)
theorem dig8 (L : List UInt8) : (⟨#[48, 49, 50, 51, 52, 53, 54, 55, 56, 57]⟩ : ByteArray).extract 8 9 ++ ⟨L.toArray⟩ = ⟨(UInt8.ofNat (48 + 8) :: L).toArray⟩ := cat1 _ _ L (by rfl)
theorem dig9 (L : List UInt8) : (⟨#[48, 49, 50, 51, 52, 53, 54, 55, 56, 57]⟩ : ByteArray).extract 9 10 ++ ⟨L.toArray⟩ = ⟨(UInt8.ofNat (48 + 9) :: L).toArray⟩ := cat1 _ _ L (by rfl)
theorem minus (L : List UInt8) : (⟨#[45]⟩ : ByteArray) ++ ⟨L.toArray⟩ = ⟨(45 :: L).toArray⟩ := cat1 _ _ L rfl

set_option maxHeartbeats 2000000 in
theorem sKeyName_calls {w : World} (k : Int) (h0 : -2147483648 ≤ k) (h1 : k ≤ 2147483647) :
    Calls Tryd.prog 18 #[.int .i32 k] w fun e w' => e = .returned (.string (kname k)) ∧ Kp no w w' := by
  have ka : Kp no w (w.alloc (.cells #[.string ⟨#[82, 83, 65]⟩, .string ⟨#[69, 100, 50, 53, 53, 49, 57]⟩, .string ⟨#[83, 101, 99, 112, 50, 53, 54, 107, 49]⟩, .string ⟨#[69, 67, 68, 83, 65]⟩] 9)) := (Kp.refl _ _).alloc _
  have hs : k = 0 ∨ k = 1 ∨ k = 2 ∨ k = 3 ∨ k < 0 ∨ 3 < k := by omega
  rcases hs with rfl | rfl | rfl | rfl | hn | hp
  · go_enter Tryd.func18, Tryd.ntmps18
    go_wp2
    go_ret
    exact ⟨rfl, ka⟩
  · go_enter Tryd.func18, Tryd.ntmps18
    go_wp2
    go_ret
    exact ⟨rfl, ka⟩
  · go_enter Tryd.func18, Tryd.ntmps18
    go_wp2
    go_ret
    exact ⟨rfl, ka⟩
  · go_enter Tryd.func18, Tryd.ntmps18
    go_wp2
    go_ret
    exact ⟨rfl, ka⟩
  · obtain ⟨m, rfl⟩ : ∃ m : Nat, k = -(m : Int) := ⟨k.natAbs, by omega⟩
    have HK := Lib.hid (kname_neg (-(m : Int)) hn)
    go_enter Tryd.func18, Tryd.ntmps18
    go_wp2
    go_loopw [4, 5] (fun n o wr => ∃ (x : Nat) (L : List UInt8), n = .int .i64 x ∧ o = .string ⟨L.toArray⟩ ∧ L.length + x ≤ 2147483648 ∧ Hid (dd m = dd x ++ L) ∧ Kp no w wr) (fun n _ _ => (intOf n).toNat)
    case atStart => exact ⟨m, [], by simp, rfl, by simp; omega, by show dd m = dd m ++ []; simp, ka⟩
    case round =>
      obtain ⟨x, L, rfl, rfl, hxl, hd, hkr⟩ := hrel
      by_cases hx : (0 : Int) < (x : Int)
      · have hst := dd_step x (by omega)
        have hr : (x : Int) % 10 = 0 ∨ (x : Int) % 10 = 1 ∨ (x : Int) % 10 = 2 ∨ (x : Int) % 10 = 3 ∨ (x : Int) % 10 = 4 ∨ (x : Int) % 10 = 5 ∨ (x : Int) % 10 = 6 ∨ (x : Int) % 10 = 7 ∨ (x : Int) % 10 = 8 ∨ (x : Int) % 10 = 9 := by omega
        have hLs : ¬ 9223372036854775807 < 1 + L.length := by omega
        have hd2 : dd m = dd (x / 10) ++ (UInt8.ofNat (48 + x % 10) :: L) := by rw [hd.out, hst, List.append_assoc]; rfl
        have HD2 := Lib.hid hd2
        have hx10 : ((x : Int) / 10) = ((x / 10 : Nat) : Int) := by omega
        have HX := Lib.hid hx10
        have hmod : ∀ r : Nat, (x : Int) % 10 = (r : Int) → x % 10 = r := fun r h => by omega
        have HM := Lib.hid hmod
        clear hst hd2 hx10 hmod
        rcases hr with hr | hr | hr | hr | hr | hr | hr | hr | hr | hr
        · have e := HM.out 0 hr
          go_wp2
          go_roundw
          case rel => exact ⟨x / 10, UInt8.ofNat (48 + x % 10) :: L, by rw [HX.out], by rw [e, dig0 L], by simp only [List.length_cons]; omega, HD2.out, hkr⟩
          case measure => simp [intOf]; omega
        · have e := HM.out 1 hr
          go_wp2
          go_roundw
          case rel => exact ⟨x / 10, UInt8.ofNat (48 + x % 10) :: L, by rw [HX.out], by rw [e, dig1 L], by simp only [List.length_cons]; omega, HD2.out, hkr⟩
          case measure => simp [intOf]; omega
        · have e := HM.out 2 hr
          go_wp2
          go_roundw
          case rel => exact ⟨x / 10, UInt8.ofNat (48 + x % 10) :: L, by rw [HX.out], by rw [e, dig2 L], by simp only [List.length_cons]; omega, HD2.out, hkr⟩
          case measure => simp [intOf]; omega
        · have e := HM.out 3 hr
          go_wp2
          go_roundw
          case rel => exact ⟨x / 10, UInt8.ofNat (48 + x % 10) :: L, by rw [HX.out], by rw [e, dig3 L], by simp only [List.length_cons]; omega, HD2.out, hkr⟩
          case measure => simp [intOf]; omega
        · have e := HM.out 4 hr
          go_wp2
          go_roundw
          case rel => exact ⟨x / 10, UInt8.ofNat (48 + x % 10) :: L, by rw [HX.out], by rw [e, dig4 L], by simp only [List.length_cons]; omega, HD2.out, hkr⟩
          case measure => simp [intOf]; omega
        · have e := HM.out 5 hr
          go_wp2
          go_roundw
          case rel => exact ⟨x / 10, UInt8.ofNat (48 + x % 10) :: L, by rw [HX.out], by rw [e, dig5 L], by simp only [List.length_cons]; omega, HD2.out, hkr⟩
          case measure => simp [intOf]; omega
        · have e := HM.out 6 hr
          go_wp2
          go_roundw
          case rel => exact ⟨x / 10, UInt8.ofNat (48 + x % 10) :: L, by rw [HX.out], by rw [e, dig6 L], by simp only [List.length_cons]; omega, HD2.out, hkr⟩
          case measure => simp [intOf]; omega
        · have e := HM.out 7 hr
          go_wp2
          go_roundw
          case rel => exact ⟨x / 10, UInt8.ofNat (48 + x % 10) :: L, by rw [HX.out], by rw [e, dig7 L], by simp only [List.length_cons]; omega, HD2.out, hkr⟩
          case measure => simp [intOf]; omega
        · have e := HM.out 8 hr
          go_wp2
          go_roundw
          case rel => exact ⟨x / 10, UInt8.ofNat (48 + x % 10) :: L, by rw [HX.out], by rw [e, dig8 L], by simp only [List.length_cons]; omega, HD2.out, hkr⟩
          case measure => simp [intOf]; omega
        · have e := HM.out 9 hr
          go_wp2
          go_roundw
          case rel => exact ⟨x / 10, UInt8.ofNat (48 + x % 10) :: L, by rw [HX.out], by rw [e, dig9 L], by simp only [List.length_cons]; omega, HD2.out, hkr⟩
          case measure => simp [intOf]; omega
      · obtain rfl : x = 0 := by omega
        have hLs : ¬ 9223372036854775807 < 1 + L.length := by omega
        have F : kname (-(m : Int)) = (⟨#[45]⟩ : ByteArray) ++ ⟨L.toArray⟩ := by
          rw [HK.out, Int.natAbs_neg, Int.natAbs_natCast, hd.out, minus L]; rfl
        have HF := Lib.hid F
        clear F
        go_wp2
        go_ret
        exact ⟨by rw [HF.out]; rfl, hkr⟩
  · obtain ⟨m, rfl⟩ : ∃ m : Nat, k = m := ⟨k.toNat, by omega⟩
    have HK := Lib.hid (kname_pos (m : Int) hp)
    go_enter Tryd.func18, Tryd.ntmps18
    go_wp2
    go_loopw [4, 5] (fun n o wr => ∃ (x : Nat) (L : List UInt8), n = .int .i64 x ∧ o = .string ⟨L.toArray⟩ ∧ L.length + x ≤ 2147483648 ∧ Hid (dd m = dd x ++ L) ∧ Kp no w wr) (fun n _ _ => (intOf n).toNat)
    case atStart => exact ⟨m, [], rfl, rfl, by simp; omega, by show dd m = dd m ++ []; simp, ka⟩
    case round =>
      obtain ⟨x, L, rfl, rfl, hxl, hd, hkr⟩ := hrel
      by_cases hx : (0 : Int) < (x : Int)
      · have hst := dd_step x (by omega)
        have hr : (x : Int) % 10 = 0 ∨ (x : Int) % 10 = 1 ∨ (x : Int) % 10 = 2 ∨ (x : Int) % 10 = 3 ∨ (x : Int) % 10 = 4 ∨ (x : Int) % 10 = 5 ∨ (x : Int) % 10 = 6 ∨ (x : Int) % 10 = 7 ∨ (x : Int) % 10 = 8 ∨ (x : Int) % 10 = 9 := by omega
        have hLs : ¬ 9223372036854775807 < 1 + L.length := by omega
        have hd2 : dd m = dd (x / 10) ++ (UInt8.ofNat (48 + x % 10) :: L) := by rw [hd.out, hst, List.append_assoc]; rfl
        have HD2 := Lib.hid hd2
        have hx10 : ((x : Int) / 10) = ((x / 10 : Nat) : Int) := by omega
        have HX := Lib.hid hx10
        have hmod : ∀ r : Nat, (x : Int) % 10 = (r : Int) → x % 10 = r := fun r h => by omega
        have HM := Lib.hid hmod
        clear hst hd2 hx10 hmod
        rcases hr with hr | hr | hr | hr | hr | hr | hr | hr | hr | hr
        · have e := HM.out 0 hr
          go_wp2
          go_roundw
          case rel => exact ⟨x / 10, UInt8.ofNat (48 + x % 10) :: L, by rw [HX.out], by rw [e, dig0 L], by simp only [List.length_cons]; omega, HD2.out, hkr⟩
          case measure => simp [intOf]; omega
        · have e := HM.out 1 hr
          go_wp2
          go_roundw
          case rel => exact ⟨x / 10, UInt8.ofNat (48 + x % 10) :: L, by rw [HX.out], by rw [e, dig1 L], by simp only [List.length_cons]; omega, HD2.out, hkr⟩
          case measure => simp [intOf]; omega
        · have e := HM.out 2 hr
          go_wp2
          go_roundw
          case rel => exact ⟨x / 10, UInt8.ofNat (48 + x % 10) :: L, by rw [HX.out], by rw [e, dig2 L], by simp only [List.length_cons]; omega, HD2.out, hkr⟩
          case measure => simp [intOf]; omega
        · have e := HM.out 3 hr
          go_wp2
          go_roundw
          case rel => exact ⟨x / 10, UInt8.ofNat (48 + x % 10) :: L, by rw [HX.out], by rw [e, dig3 L], by simp only [List.length_cons]; omega, HD2.out, hkr⟩
          case measure => simp [intOf]; omega
        · have e := HM.out 4 hr
          go_wp2
          go_roundw
          case rel => exact ⟨x / 10, UInt8.ofNat (48 + x % 10) :: L, by rw [HX.out], by rw [e, dig4 L], by simp only [List.length_cons]; omega, HD2.out, hkr⟩
          case measure => simp [intOf]; omega
        · have e := HM.out 5 hr
          go_wp2
          go_roundw
          case rel => exact ⟨x / 10, UInt8.ofNat (48 + x % 10) :: L, by rw [HX.out], by rw [e, dig5 L], by simp only [List.length_cons]; omega, HD2.out, hkr⟩
          case measure => simp [intOf]; omega
        · have e := HM.out 6 hr
          go_wp2
          go_roundw
          case rel => exact ⟨x / 10, UInt8.ofNat (48 + x % 10) :: L, by rw [HX.out], by rw [e, dig6 L], by simp only [List.length_cons]; omega, HD2.out, hkr⟩
          case measure => simp [intOf]; omega
        · have e := HM.out 7 hr
          go_wp2
          go_roundw
          case rel => exact ⟨x / 10, UInt8.ofNat (48 + x % 10) :: L, by rw [HX.out], by rw [e, dig7 L], by simp only [List.length_cons]; omega, HD2.out, hkr⟩
          case measure => simp [intOf]; omega
        · have e := HM.out 8 hr
          go_wp2
          go_roundw
          case rel => exact ⟨x / 10, UInt8.ofNat (48 + x % 10) :: L, by rw [HX.out], by rw [e, dig8 L], by simp only [List.length_cons]; omega, HD2.out, hkr⟩
          case measure => simp [intOf]; omega
        · have e := HM.out 9 hr
          go_wp2
          go_roundw
          case rel => exact ⟨x / 10, UInt8.ofNat (48 + x % 10) :: L, by rw [HX.out], by rw [e, dig9 L], by simp only [List.length_cons]; omega, HD2.out, hkr⟩
          case measure => simp [intOf]; omega
      · obtain rfl : x = 0 := by omega
        have F : kname (m : Int) = ⟨L.toArray⟩ := by
          rw [HK.out, Int.toNat_natCast, hd.out]; rfl
        have HF := Lib.hid F
        clear F
        go_wp2
        go_ret
        exact ⟨by rw [HF.out]; rfl, hkr⟩

theorem tab_keep {w w' : World} {n : String} {k : IntKind} {zs : List Int} (h : Lib.TabIs Tryd.prog w n k zs) (hk : Kp no w w') : Lib.TabIs Tryd.prog w' n k zs := by
  unfold Lib.TabIs World.var? at h ⊢
  cases hg : Tryd.prog.globalNamed n with
  | none => rw [hg] at h; simp at h
  | some g =>
    rw [hg] at h
    simp only [Option.bind_some] at h ⊢
    have hlt : g < w.heap.size := by
      rcases Nat.lt_or_ge g w.heap.size with h' | h'
      · exact h'
      · rw [Array.getElem?_eq_none h'] at h; simp at h
    rw [hk.block g hlt (fun h => h)]
    exact h
set_option maxHeartbeats 2000000 in
theorem fnKeyName_calls {w : World} (k : Int) (hk : -2147483648 ≤ k ∧ k ≤ 2147483647) (ht : Lib.TabIs Tryd.prog w "internal/strconv.uint64pow10" .u64 Lib.pow10Tab) :
    Calls Tryd.prog 3 #[.int .i32 k] w fun e w' => e = .returned (.bool true) ∧ Kp no w w' := by
  have D1 := Lib.hid (KeyName_calls k hk.1 hk.2 ht)
  obtain ⟨s, hs⟩ : ∃ s, s = kname k := ⟨_, rfl⟩
  rw [← hs] at D1
  have HS := Lib.hid hs
  clear hs
  go_enter Tryd.func3, Tryd.ntmps3
  go_wp2_with (fail)
  refine D1.out.mono ?_
  rintro e w1 ⟨rfl, k1⟩
  have D2 := Lib.hid (sKeyName_calls (w := w1) k hk.1 hk.2)
  rw [← HS.out] at D2
  go_wp2_with (fail)
  refine D2.out.mono ?_
  rintro e w2 ⟨rfl, k12⟩
  have k2 := k1.then k12
  have D3 := Lib.hid (KeyName_calls 0 (by omega) (by omega) (tab_keep ht k2))
  go_wp2_with (fail)
  refine D3.out.mono ?_
  rintro e w3 ⟨rfl, k23⟩
  have k3 := k2.then k23
  have D4 := Lib.hid (KeyName_calls 3 (by omega) (by omega) (tab_keep ht k3))
  have e0 : kname 0 = ⟨#[82, 83, 65]⟩ := rfl
  have e3 : kname 3 = ⟨#[69, 67, 68, 83, 65]⟩ := rfl
  rw [e0]
  rw [e3] at D4
  go_wp2_with (fail)
  refine D4.out.mono ?_
  rintro e w4 ⟨rfl, k34⟩
  go_wp2
  go_ret
  exact ⟨rfl, k3.then k34⟩
end Go.Proofs.YtipleaojejbkpaaDoor
