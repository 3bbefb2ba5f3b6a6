/- Groups: whatever they are, the call returns, and takes no more than there is. ConsumeFieldValue. -/
import Derived.Test.YtddofkeajinjpaaGreatDoorPwD
namespace Go.Proofs.YtddofkeajinjpaaGreatDoor
open Go Go.RowKit
set_option linter.unusedVariables false
set_option linter.unusedSimpArgs false
set_option maxRecDepth 100000

def lenOf : Value → Nat | .slice _ n _ => n | _ => 0
def GrpRel (w : World) (n : Nat) (b : Value) (wr : World) : Prop := ∃ A' n' c' l', b = .slice A' n' c' ∧ Rd wr A' n' c' l' ∧ n' ≤ n ∧ Kp no w wr

theorem FVo3 {l : List Int} {m : Int} (h0 : -10 ≤ m) (h1 : m ≤ l.length) : FVo 3 l (.returned (.int .i64 m)) := ⟨m, rfl, h0, h1, fun h => absurd rfl h⟩

set_option maxHeartbeats 2000000 in
theorem CFD_any (N : Nat) : ∀ (w : World) (A : Option Addr) (n c : Nat) (l : List Int), Rd w A n c l → n ≤ N → ∀ (f t d : Int), -1 ≤ d → d ≤ 10000 →
    Calls Tryz.prog 57 #[.int .i32 f, .int .i8 t, .slice A n c, .int .i64 d] w fun e w' => FVo t l e ∧ Kp no w w' := by
  induction N with
  | zero =>
    intro w A n c l h hn f t d hd0 hd1
    by_cases ht : t = 3
    · subst ht
      have hl := h.len
      have F : ∀ m : Int, -10 ≤ m → m ≤ 0 → FVo 3 l (.returned (.int .i64 m)) := fun m a b => FVo3 a (by omega)
      obtain rfl : n = 0 := by omega
      have : l = [] := List.eq_nil_of_length_eq_zero hl
      have D1 := Lib.hid (CT_bad h (by subst this; rfl))
      clear hl this
      by_cases hd : d < 0
      · go_enter Tryz.func57, Tryz.ntmps57
        go_wp2
        go_ret
        exact ⟨F _ (by omega) (by omega), Kp.refl _ _⟩
      · go_enter Tryz.func57, Tryz.ntmps57
        go_wp2
        refine wp_loop_rounds 1 ?_
        rw [rounds_succ]
        go_wp2_with (first | (go_at_call 41; refine D1.out.mono ?_; rintro e w' ⟨k, k0, k1, rfl, rfl⟩))
        go_ret
        exact ⟨F _ (by omega) (by omega), Kp.refl _ _⟩
    · exact CFD_plain h f t d ht
  | succ N ih =>
    intro w A n c l h hn f t d hd0 hd1
    by_cases ht : t = 3
    · subst ht
      have hl := h.len
      have hcap := h.cap
      have hmax := h.max
      have F : ∀ m : Int, -10 ≤ m → m ≤ n → FVo 3 l (.returned (.int .i64 m)) := fun m a b => FVo3 a (by omega)
      clear hl
      by_cases hd : d < 0
      · go_enter Tryz.func57, Tryz.ntmps57
        go_wp2
        go_ret
        exact ⟨F _ (by omega) (by omega), Kp.refl _ _⟩
      · have IH := Lib.hid ih
        clear ih
        go_enter Tryz.func57, Tryz.ntmps57
        go_wp2
        go_loopw [2] (fun b wr => GrpRel w n b wr) (fun b _ => lenOf b)
        case atStart => exact ⟨A, n, c, l, rfl, h, Nat.le_refl _, Kp.refl _ _⟩
        case round =>
          obtain ⟨A', n', c', l', rfl, hr, hn', hk⟩ := hrel
          have hl' := hr.len
          have hcap' := hr.cap
          have hmax' := hr.max
          cases htag : tag l' with
          | none =>
            have D1 := Lib.hid (CT_bad hr htag)
            clear hl' htag
            go_wp2_with (first | (go_at_call 41; refine D1.out.mono ?_; rintro e w' ⟨k, k0, k1, rfl, rfl⟩))
            go_ret
            exact ⟨F _ (by omega) (by omega), hk⟩
          | some p =>
            obtain ⟨f2, t2, k⟩ := p
            have hts := tag_some hr.byt htag
            rw [hl'] at hts
            obtain ⟨f0, f1, t0, t1, k0, k1, _⟩ := hts
            have D1 := Lib.hid (CT_ok hr htag)
            obtain ⟨A2, hR2, _, _, hcut⟩ := hr.cutFrom Tryz.und_bytes Tryz.size_byte .i64 k (by omega) (by omega)
            clear hl' htag hr
            by_cases h4 : t2 = 4
            · subst h4
              by_cases hf : f = f2
              · subst hf
                go_wp2_with (first | (go_at_call 41; refine D1.out.mono ?_; rintro e w' ⟨rfl, rfl⟩))
                go_ret
                exact ⟨F _ (by omega) (by omega), hk⟩
              · go_wp2_with (first | (go_at_call 41; refine D1.out.mono ?_; rintro e w' ⟨rfl, rfl⟩))
                go_ret
                exact ⟨F _ (by omega) (by omega), hk⟩
            · have D2 := Lib.hid (IH.out _ _ _ _ _ hR2 (by omega) f2 t2 (d - 1) (by omega) (by omega))
              have hl2 := Lib.hid hR2.len
              go_wp2_with (first | (go_at_call 41; refine D1.out.mono ?_; rintro e w' ⟨rfl, rfl⟩))
              refine D2.out.mono ?_
              rintro e w2 ⟨⟨k2, rfl, a2, b2, _⟩, hk2⟩
              rw [hl2.out] at b2
              have hk3 := hk.then hk2
              rcases Int.lt_or_le k2 0 with hneg | hpos
              · go_wp2
                go_ret
                exact ⟨F _ (by omega) (by omega), hk3⟩
              · obtain ⟨A3, hR3, _, _, hcut3⟩ := (hR2.keepN hk2).cutFrom Tryz.und_bytes Tryz.size_byte .i64 k2 (by omega) (by omega)
                clear hR2 D1 D2 hl2
                go_wp2
                go_roundw
                case rel => exact ⟨A3, _, _, _, rfl, hR3, by omega, hk3⟩
                case measure => simp [lenOf]; omega
    · exact CFD_plain h f t d ht

theorem CF_any {w : World} {A : Option Addr} {n c : Nat} {l : List Int} (h : Rd w A n c l) (f t : Int) :
    Calls Tryz.prog 43 #[.int .i32 f, .int .i8 t, .slice A n c] w fun e w' => FVo t l e ∧ Kp no w w' := by
  have D := Lib.hid (CFD_any n _ _ _ _ _ h (Nat.le_refl _) f t 10000 (by omega) (by omega))
  go_enter Tryz.func43, Tryz.ntmps43
  go_wp2_with (first | (go_at_call 57; refine D.out.mono ?_; rintro e w' ⟨⟨k, rfl, hk⟩, hw⟩))
  go_ret
  exact ⟨⟨k, rfl, hk⟩, hw⟩
end Go.Proofs.YtddofkeajinjpaaGreatDoor
