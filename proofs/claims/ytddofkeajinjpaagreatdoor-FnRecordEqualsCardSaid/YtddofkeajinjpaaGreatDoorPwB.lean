/- The readers of protowire: tags, bytes, four and eight bytes, the value of a field. -/
import Derived.Test.YtddofkeajinjpaaGreatDoorPwA
import Derived.Deep.QuietTactic
import Derived.BigQuiet
namespace Go.Proofs.YtddofkeajinjpaaGreatDoor
open Go Go.RowKit
set_option linter.unusedVariables false
set_option linter.unusedSimpArgs false
set_option maxRecDepth 100000

theorem Tryz.und_bytes : Tryz.prog.underlying 28 = some (.slice 5) := by kernel_rfl
theorem Tryz.und_byte : Tryz.prog.underlying 5 = some (.int .u8) := by kernel_rfl
theorem Tryz.size_byte : (Tryz.prog.info? 5).map (fun i => i.size) = some 1 := by kernel_rfl

theorem u64_and7 (x : Int) (h0 : 0 ≤ x) (h1 : x < 18446744073709551616) : bits .and .u64 x 7 = x % 8 := by
  rw [u64_and x 7 h0 h1 (by omega) (by omega)]
  have : x.toNat &&& 7 = x.toNat % 8 := Nat.and_two_pow_sub_one_eq_mod x.toNat 3
  rw [show (7 : Int).toNat = 7 from rfl, this]; omega

theorem DT_ok (x : Int) (w : World) (h0 : 0 ≤ x) (h1 : x < 18446744073709551616) (h2 : x / 8 ≤ 2147483647) :
    Calls Tryz.prog 56 #[.int .u64 x] w fun e w' => e = .returned (.tuple #[.int .i32 (x / 8), .int .i8 (x % 8)]) ∧ w = w' := by
  have hm := u64_and7 x h0 h1
  have h8 : IntKind.i8.wrap (x % 8) = x % 8 := IntWalk.i8_in _ (by omega)
  go_enter Tryz.func56, Tryz.ntmps56
  go_wp2
  go_ret2
  exact ⟨rfl, rfl⟩
theorem DT_big (x : Int) (w : World) (h0 : 0 ≤ x) (h1 : x < 18446744073709551616) (h2 : 2147483647 < x / 8) :
    Calls Tryz.prog 56 #[.int .u64 x] w fun e w' => e = .returned (.tuple #[.int .i32 (-1), .int .i8 0]) ∧ w = w' := by
  go_enter Tryz.func56, Tryz.ntmps56
  go_wp2
  go_ret2
  exact ⟨rfl, rfl⟩

/-- What stands at the head of a field: its number, its wire, how many bytes. -/
def tag (l : List Int) : Option (Int × Int × Int) := match rv 10 l with
  | none => none
  | some (v, k) => if v / 8 < 1 ∨ 2147483647 < v / 8 then none else some (v / 8, v % 8, k)
theorem tag_some {l : List Int} {f t k : Int} (hb : Byt l) (h : tag l = some (f, t, k)) : 1 ≤ f ∧ f ≤ 2147483647 ∧ 0 ≤ t ∧ t < 8 ∧ 1 ≤ k ∧ k ≤ l.length ∧ rv 10 l = some (f * 8 + t, k) := by
  unfold tag at h
  split at h
  · cases h
  · rename_i v k' hr
    split at h
    · cases h
    · injection h with h
      simp only [Prod.mk.injEq] at h
      obtain ⟨rfl, rfl, rfl⟩ := h
      have := rv_len 10 l v k' hr
      have := rv_u64 hb hr
      refine ⟨by omega, by omega, by omega, by omega, by omega, by omega, ?_⟩
      rw [hr, show v / 8 * 8 + v % 8 = v from by omega]

theorem CT_ok {w : World} {A : Option Addr} {n c : Nat} {l : List Int} (h : Rd w A n c l) {f t k : Int} (hr : tag l = some (f, t, k)) :
    Calls Tryz.prog 41 #[.slice A n c] w fun e w' => e = .returned (.tuple #[.int .i32 f, .int .i8 t, .int .i64 k]) ∧ w = w' := by
  obtain ⟨f0, f1, t0, t1, k0, k1, hv⟩ := tag_some h.byt hr
  have hl := h.len
  have hcap := h.cap
  have hmax := h.max
  have hu := rv_u64 h.byt hv
  have e1 : (f * 8 + t) / 8 = f := by omega
  have e2 : (f * 8 + t) % 8 = t := by omega
  have E1 := Lib.hid e1
  have E2 := Lib.hid e2
  have C1 := CV_ok h hv
  have C2 := DT_ok (f * 8 + t) w (by omega) (by omega) (by omega)
  rw [e1, e2] at C2
  have D1 := Lib.hid C1
  have D2 := Lib.hid C2
  have H := Lib.hid h
  have HV := Lib.hid hv
  clear hv h hr C1 C2 hl e1 e2
  go_enter Tryz.func41, Tryz.ntmps41
  go_wp2_with (first | (go_at_call 55; refine D1.out.mono ?_; rintro e w' ⟨rfl, rfl⟩) | (go_at_call 56; refine D2.out.mono ?_; rintro e w' ⟨rfl, rfl⟩))
  go_ret3
  exact ⟨rfl, rfl⟩

theorem CT_bad {w : World} {A : Option Addr} {n c : Nat} {l : List Int} (h : Rd w A n c l) (hr : tag l = none) :
    Calls Tryz.prog 41 #[.slice A n c] w fun e w' => ∃ k : Int, k < 0 ∧ -10 ≤ k ∧ e = .returned (.tuple #[.int .i32 0, .int .i8 0, .int .i64 k]) ∧ w = w' := by
  unfold tag at hr
  split at hr
  · rename_i hv
    have D1 := Lib.hid (CV_bad h hv)
    clear hv h hr
    go_enter Tryz.func41, Tryz.ntmps41
    go_wp2_with (first | (go_at_call 55; refine D1.out.mono ?_; rintro e w' ⟨k, k0, k1, rfl, rfl⟩))
    go_ret3
    exact ⟨k, k0, k1, rfl, rfl⟩
  · rename_i v k hv
    split at hr
    · rename_i hc
      have hu := rv_u64 h.byt hv
      have hk := rv_len 10 l v k hv
      have hl := h.len
      have hcap := h.cap
      have hmax := h.max
      have D1 := Lib.hid (CV_ok h hv)
      clear hv h hr hl
      rcases hc with hc | hc
      · have D2 := Lib.hid (DT_ok v w (by omega) (by omega) (by omega))
        go_enter Tryz.func41, Tryz.ntmps41
        go_wp2_with (first | (go_at_call 55; refine D1.out.mono ?_; rintro e w' ⟨rfl, rfl⟩) | (go_at_call 56; refine D2.out.mono ?_; rintro e w' ⟨rfl, rfl⟩))
        go_ret3
        exact ⟨-2, by omega, by omega, rfl, rfl⟩
      · have D2 := Lib.hid (DT_big v w (by omega) (by omega) (by omega))
        go_enter Tryz.func41, Tryz.ntmps41
        go_wp2_with (first | (go_at_call 55; refine D1.out.mono ?_; rintro e w' ⟨rfl, rfl⟩) | (go_at_call 56; refine D2.out.mono ?_; rintro e w' ⟨rfl, rfl⟩))
        go_ret3
        exact ⟨-2, by omega, by omega, rfl, rfl⟩
    · cases hr
end Go.Proofs.YtddofkeajinjpaaGreatDoor
