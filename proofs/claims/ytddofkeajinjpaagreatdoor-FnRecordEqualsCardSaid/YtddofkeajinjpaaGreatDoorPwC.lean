/- More readers of protowire: bytes, four and eight bytes, the value of a field. -/
import Derived.Test.YtddofkeajinjpaaGreatDoorPwB
namespace Go.Proofs.YtddofkeajinjpaaGreatDoor
open Go Go.RowKit
set_option linter.unusedVariables false
set_option linter.unusedSimpArgs false
set_option maxRecDepth 100000

/-- Bytes behind their number: the number, and how many bytes it takes. -/
def bsz (l : List Int) : Option (Int × Int) := match rv 10 l with
  | none => none
  | some (v, k) => if v ≤ l.length - k then some (v, k) else none
theorem bsz_some {l : List Int} {v k : Int} (hb : Byt l) (h : bsz l = some (v, k)) : 0 ≤ v ∧ 1 ≤ k ∧ k + v ≤ l.length ∧ rv 10 l = some (v, k) := by
  unfold bsz at h
  split at h
  · cases h
  · rename_i v' k' hr
    split at h
    · injection h with h
      simp only [Prod.mk.injEq] at h
      obtain ⟨rfl, rfl⟩ := h
      have := rv_len 10 l _ _ hr
      have := rv_u64 hb hr
      exact ⟨by omega, by omega, by omega, hr⟩
    · cases h
/-- The bytes themselves. -/
def bval (l : List Int) (v k : Int) : List Int := (l.drop k.toNat).take v.toNat

theorem CB_ok {w : World} {A : Option Addr} {n c : Nat} {l : List Int} (h : Rd w A n c l) {v k : Int} (hr : bsz l = some (v, k)) :
    Calls Tryz.prog 44 #[.slice A n c] w fun e w' => w = w' ∧ ∃ A', e = .returned (.tuple #[.slice A' v.toNat (c - k.toNat), .int .i64 (k + v)]) ∧ Rd w A' v.toNat (c - k.toNat) (bval l v k) ∧ (∀ S, Out S A → Out S A') ∧ (∀ B, Lo B A → Lo B A') := by
  obtain ⟨v0, k0, kv, hv⟩ := bsz_some h.byt hr
  have hl := h.len
  have hcap := h.cap
  have hmax := h.max
  rw [hl] at kv
  obtain ⟨A', hA, ho, hlo, hcut⟩ := h.cutFrom Tryz.und_bytes Tryz.size_byte .i64 k (by omega) (by omega)
  have hcut2 := cutTo (P := Tryz.prog) Tryz.und_bytes Tryz.size_byte A' (n - k.toNat) (c - k.toNat) .u64 v v0 (by omega) (by omega)
  have hR := hA.take v.toNat (by omega)
  have D1 := Lib.hid (CV_ok h hv)
  clear hv h hr hl hA
  have q2 : IntKind.u64.wrap (n - k) = n - k := IntWalk.u64_in _ (by omega)
  have q3 : ¬ (n : Int) - k < v := by omega
  go_enter Tryz.func44, Tryz.ntmps44
  go_wp2_with (first | (go_at_call 55; refine D1.out.mono ?_; rintro e w' ⟨rfl, rfl⟩))
  go_ret2
  exact ⟨rfl, A', rfl, hR, ho, hlo⟩

theorem CB_bad {w : World} {A : Option Addr} {n c : Nat} {l : List Int} (h : Rd w A n c l) (hr : bsz l = none) :
    Calls Tryz.prog 44 #[.slice A n c] w fun e w' => ∃ k : Int, k < 0 ∧ -10 ≤ k ∧ e = .returned (.tuple #[.slice none 0 0, .int .i64 k]) ∧ w = w' := by
  have hl := h.len
  have hcap := h.cap
  have hmax := h.max
  unfold bsz at hr
  split at hr
  · rename_i hv
    have D1 := Lib.hid (CV_bad h hv)
    clear hv h hr hl
    go_enter Tryz.func44, Tryz.ntmps44
    go_wp2_with (first | (go_at_call 55; refine D1.out.mono ?_; rintro e w' ⟨k, k0, k1, rfl, rfl⟩))
    go_ret2
    exact ⟨k, k0, k1, rfl, rfl⟩
  · rename_i v k hv
    split at hr
    · cases hr
    · rename_i hc
      have hu := rv_u64 h.byt hv
      have hk := rv_len 10 l v k hv
      rw [hl] at hc hk
      obtain ⟨A', hA, ho, hlo, hcut⟩ := h.cutFrom Tryz.und_bytes Tryz.size_byte .i64 k (by omega) (by omega)
      have D1 := Lib.hid (CV_ok h hv)
      clear hv h hr hl hA
      have q2 : IntKind.u64.wrap (n - k) = n - k := IntWalk.u64_in _ (by omega)
      have q3 : (n : Int) - k < v := by omega
      go_enter Tryz.func44, Tryz.ntmps44
      go_wp2_with (first | (go_at_call 55; refine D1.out.mono ?_; rintro e w' ⟨rfl, rfl⟩))
      go_ret2
      exact ⟨-1, by omega, by omega, rfl, rfl⟩

theorem C32_bad {w : World} {A : Option Addr} {n c : Nat} (hn : n < 4) :
    Calls Tryz.prog 65 #[.slice A n c] w fun e w' => e = .returned (.tuple #[.int .u32 0, .int .i64 (-1)]) ∧ w = w' := by
  have h0 : (n : Int) < 4 := by omega
  go_enter Tryz.func65, Tryz.ntmps65
  go_wp2
  go_ret2
  exact ⟨rfl, rfl⟩
theorem C64_bad {w : World} {A : Option Addr} {n c : Nat} (hn : n < 8) :
    Calls Tryz.prog 66 #[.slice A n c] w fun e w' => e = .returned (.tuple #[.int .u64 0, .int .i64 (-1)]) ∧ w = w' := by
  have h0 : (n : Int) < 8 := by omega
  go_enter Tryz.func66, Tryz.ntmps66
  go_wp2
  go_ret2
  exact ⟨rfl, rfl⟩
theorem C32_ok {w : World} {A : Option Addr} {n c : Nat} {l : List Int} (h : Rd w A n c l) (hn : 4 ≤ n) :
    Calls Tryz.prog 65 #[.slice A n c] w fun e w' => (∃ v, e = .returned (.tuple #[v, .int .i64 4])) ∧ Kp no w w' := by
  obtain ⟨g, o, rfl, hc⟩ := h.at_ (by omega)
  have h0 := hc 0 (by omega)
  have h1 := hc 1 (by omega)
  have h2 := hc 2 (by omega)
  have h3 := hc 3 (by omega)
  have hn0 : ¬ (n : Int) < 4 := by omega
  have m0 : (0 : Int) < (n : Int) := by omega
  have m1 : (1 : Int) < (n : Int) := by omega
  have m2 : (2 : Int) < (n : Int) := by omega
  have m3 : (3 : Int) < (n : Int) := by omega
  rw [Nat.add_zero] at h0
  clear hc
  go_enter Tryz.func65, Tryz.ntmps65
  go_wp2_with fail
  go_quiet (fail)
  go_wp2
  go_ret2
  exact ⟨⟨_, rfl⟩, (Kp.refl _ _).drewN _⟩
end Go.Proofs.YtddofkeajinjpaaGreatDoor
