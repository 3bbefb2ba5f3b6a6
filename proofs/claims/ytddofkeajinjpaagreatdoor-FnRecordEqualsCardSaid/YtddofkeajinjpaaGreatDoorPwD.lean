/- The value of a field: consumeFieldValueD, ConsumeFieldValue. -/
import Derived.Test.YtddofkeajinjpaaGreatDoorPwC
namespace Go.Proofs.YtddofkeajinjpaaGreatDoor
open Go Go.RowKit
set_option linter.unusedVariables false
set_option linter.unusedSimpArgs false
set_option maxRecDepth 100000

theorem C64_ok {w : World} {A : Option Addr} {n c : Nat} {l : List Int} (h : Rd w A n c l) (hn : 8 ≤ n) :
    Calls Tryz.prog 66 #[.slice A n c] w fun e w' => (∃ v, e = .returned (.tuple #[v, .int .i64 8])) ∧ Kp no w w' := by
  obtain ⟨g, o, rfl, hc⟩ := h.at_ (by omega)
  have h0 := hc 0 (by omega)
  have h1 := hc 1 (by omega)
  have h2 := hc 2 (by omega)
  have h3 := hc 3 (by omega)
  have h4 := hc 4 (by omega)
  have h5 := hc 5 (by omega)
  have h6 := hc 6 (by omega)
  have h7 := hc 7 (by omega)
  have hn0 : ¬ (n : Int) < 8 := by omega
  have m0 : (0 : Int) < (n : Int) := by omega
  have m1 : (1 : Int) < (n : Int) := by omega
  have m2 : (2 : Int) < (n : Int) := by omega
  have m3 : (3 : Int) < (n : Int) := by omega
  have m4 : (4 : Int) < (n : Int) := by omega
  have m5 : (5 : Int) < (n : Int) := by omega
  have m6 : (6 : Int) < (n : Int) := by omega
  have m7 : (7 : Int) < (n : Int) := by omega
  rw [Nat.add_zero] at h0
  clear hc
  go_enter Tryz.func66, Tryz.ntmps66
  go_wp2_with fail
  go_quiet (fail)
  go_wp2
  go_ret2
  exact ⟨⟨_, rfl⟩, (Kp.refl _ _).drewN _⟩

/-- How many bytes the value of a field takes, by its wire; of groups (3) nothing is said. -/
def fval (t : Int) (l : List Int) : Option Int :=
  if t = 0 then (rv 10 l).map (·.2) else if t = 5 then (if 4 ≤ l.length then some 4 else none) else if t = 1 then (if 8 ≤ l.length then some 8 else none)
  else if t = 2 then (bsz l).map (fun p => p.2 + p.1) else none
theorem fval_le {t : Int} {l : List Int} (hb : Byt l) {k : Int} (h : fval t l = some k) : 1 ≤ k ∧ k ≤ l.length := by
  unfold fval at h
  split at h
  · obtain ⟨⟨v, k'⟩, hr, rfl⟩ := Option.map_eq_some_iff.1 h
    have := rv_len 10 l v k' hr
    exact ⟨by omega, by omega⟩
  · split at h
    · split at h
      · injection h with h; omega
      · cases h
    · split at h
      · split at h
        · injection h with h; omega
        · cases h
      · split at h
        · obtain ⟨⟨v, k'⟩, hr, rfl⟩ := Option.map_eq_some_iff.1 h
          have := bsz_some hb hr
          exact ⟨by show 1 ≤ k' + v; omega, by show k' + v ≤ _; omega⟩
        · cases h

/-- What it comes to. -/
def FVo (t : Int) (l : List Int) (e : Ending) : Prop := ∃ k : Int, e = .returned (.int .i64 k) ∧ -10 ≤ k ∧ k ≤ l.length ∧
  (t ≠ 3 → match fval t l with | some m => k = m | none => k < 0)
theorem FVo.ok {t : Int} {l : List Int} {m : Int} (hb : Byt l) (h : fval t l = some m) : FVo t l (.returned (.int .i64 m)) := by
  have := fval_le hb h
  exact ⟨m, rfl, by omega, by omega, fun _ => by rw [h]⟩
theorem FVo.bad {t : Int} {l : List Int} {m : Int} (h : t ≠ 3 → fval t l = none) (h0 : m < 0) (h1 : -10 ≤ m) : FVo t l (.returned (.int .i64 m)) :=
  ⟨m, rfl, h1, by omega, fun ht => by rw [h ht]; exact h0⟩

theorem CFD_plain {w : World} {A : Option Addr} {n c : Nat} {l : List Int} (h : Rd w A n c l) (f t d : Int) (ht : t ≠ 3) :
    Calls Tryz.prog 57 #[.int .i32 f, .int .i8 t, .slice A n c, .int .i64 d] w fun e w' => FVo t l e ∧ Kp no w w' := by
  have hl := h.len
  by_cases t0 : t = 0
  · subst t0
    cases hv : rv 10 l with
    | none =>
      have D1 := Lib.hid (CV_bad h hv)
      have F : ∀ k : Int, k < 0 → -10 ≤ k → FVo 0 l (.returned (.int .i64 k)) := fun k => FVo.bad (fun _ => by simp [fval, hv])
      clear hv hl
      go_enter Tryz.func57, Tryz.ntmps57
      go_wp2_with (first | (go_at_call 55; refine D1.out.mono ?_; rintro e w' ⟨k, k0, k1, rfl, rfl⟩))
      go_ret
      exact ⟨F k k0 k1, Kp.refl _ _⟩
    | some p =>
      obtain ⟨v, k⟩ := p
      have D1 := Lib.hid (CV_ok h hv)
      have F : FVo 0 l (.returned (.int .i64 k)) := FVo.ok h.byt (by simp [fval, hv])
      clear hv hl
      go_enter Tryz.func57, Tryz.ntmps57
      go_wp2_with (first | (go_at_call 55; refine D1.out.mono ?_; rintro e w' ⟨rfl, rfl⟩))
      go_ret
      exact ⟨F, Kp.refl _ _⟩
  · by_cases t5 : t = 5
    · subst t5
      by_cases hn : 4 ≤ n
      · have D1 := Lib.hid (C32_ok h hn)
        have F : FVo 5 l (.returned (.int .i64 4)) := FVo.ok h.byt (by simp [fval]; omega)
        clear hl
        go_enter Tryz.func57, Tryz.ntmps57
        go_wp2_with (first | (go_at_call 65; refine D1.out.mono ?_; rintro e w' ⟨⟨v, rfl⟩, hk⟩))
        go_ret
        exact ⟨F, hk⟩
      · have D1 := Lib.hid (C32_bad (w := w) (A := A) (c := c) (n := n) (by omega))
        have F : FVo 5 l (.returned (.int .i64 (-1))) := FVo.bad (fun _ => by simp [fval]; omega) (by omega) (by omega)
        clear hl
        go_enter Tryz.func57, Tryz.ntmps57
        go_wp2_with (first | (go_at_call 65; refine D1.out.mono ?_; rintro e w' ⟨rfl, rfl⟩))
        go_ret
        exact ⟨F, Kp.refl _ _⟩
    · by_cases t1 : t = 1
      · subst t1
        by_cases hn : 8 ≤ n
        · have D1 := Lib.hid (C64_ok h hn)
          have F : FVo 1 l (.returned (.int .i64 8)) := FVo.ok h.byt (by simp [fval]; omega)
          clear hl
          go_enter Tryz.func57, Tryz.ntmps57
          go_wp2_with (first | (go_at_call 66; refine D1.out.mono ?_; rintro e w' ⟨⟨v, rfl⟩, hk⟩))
          go_ret
          exact ⟨F, hk⟩
        · have D1 := Lib.hid (C64_bad (w := w) (A := A) (c := c) (n := n) (by omega))
          have F : FVo 1 l (.returned (.int .i64 (-1))) := FVo.bad (fun _ => by simp [fval]; omega) (by omega) (by omega)
          clear hl
          go_enter Tryz.func57, Tryz.ntmps57
          go_wp2_with (first | (go_at_call 66; refine D1.out.mono ?_; rintro e w' ⟨rfl, rfl⟩))
          go_ret
          exact ⟨F, Kp.refl _ _⟩
      · by_cases t2 : t = 2
        · subst t2
          cases hv : bsz l with
          | none =>
            have D1 := Lib.hid (CB_bad h hv)
            have F : ∀ k : Int, k < 0 → -10 ≤ k → FVo 2 l (.returned (.int .i64 k)) := fun k => FVo.bad (fun _ => by simp [fval, hv])
            clear hv hl
            go_enter Tryz.func57, Tryz.ntmps57
            go_wp2_with (first | (go_at_call 44; refine D1.out.mono ?_; rintro e w' ⟨k, k0, k1, rfl, rfl⟩))
            go_ret
            exact ⟨F k k0 k1, Kp.refl _ _⟩
          | some p =>
            obtain ⟨v, k⟩ := p
            have D1 := Lib.hid (CB_ok h hv)
            have F : FVo 2 l (.returned (.int .i64 (k + v))) := FVo.ok h.byt (by simp [fval, hv])
            clear hv hl
            go_enter Tryz.func57, Tryz.ntmps57
            go_wp2_with (first | (go_at_call 44; refine D1.out.mono ?_; rintro e w' ⟨rfl, A', rfl, _⟩))
            go_ret
            exact ⟨F, Kp.refl _ _⟩
        · have F4 : FVo t l (.returned (.int .i64 (-4))) := FVo.bad (fun _ => by simp [fval, t0, t1, t2, t5]) (by omega) (by omega)
          have F5 : FVo t l (.returned (.int .i64 (-5))) := FVo.bad (fun _ => by simp [fval, t0, t1, t2, t5]) (by omega) (by omega)
          clear hl
          by_cases t4 : t = 4
          · subst t4
            go_enter Tryz.func57, Tryz.ntmps57
            go_wp2
            go_ret
            exact ⟨F5, Kp.refl _ _⟩
          · go_enter Tryz.func57, Tryz.ntmps57
            go_wp2
            go_ret
            exact ⟨F4, Kp.refl _ _⟩
end Go.Proofs.YtddofkeajinjpaaGreatDoor
