/- ConsumeVarint walked: its twenty ways. -/
import Derived.Test.YtddofkeajinjpaaGreatDoorProg
import Derived.Test.YtddofkeajinjpaaGreatDoorWire
import Derived.IntWalk
namespace Go.Proofs.YtddofkeajinjpaaGreatDoor
open Go Go.RowKit
set_option linter.unusedVariables false
set_option linter.unusedSimpArgs false
set_option maxRecDepth 100000

def CVo (r : Option (Int × Int)) (e : Ending) : Prop := match r with
  | some p => e = .returned (.tuple #[.int .u64 p.1, .int .i64 p.2])
  | none => ∃ k : Int, k < 0 ∧ -10 ≤ k ∧ e = .returned (.tuple #[.int .u64 0, .int .i64 k])
theorem CVo_some {v k v' k' : Int} (h : v' = v) (h' : k' = k) : CVo (some (v, k)) (.returned (.tuple #[.int .u64 v', .int .i64 k'])) := by subst h; subst h'; rfl
theorem CVo_none {k : Int} (h : k < 0) (h' : -10 ≤ k) : CVo none (.returned (.tuple #[.int .u64 0, .int .i64 k])) := ⟨k, h, h', rfl⟩

theorem CV_empty (A : Option Addr) (c : Nat) (w : World) : Calls Tryz.prog 55 #[.slice A 0 c] w fun e w' => CVo none e ∧ w = w' := by
  go_enter Tryz.func55, Tryz.ntmps55
  go_wp2
  go_ret2
  exact ⟨CVo_none (by omega) (by omega), rfl⟩

set_option maxHeartbeats 4000000 in
theorem CV_walk (g o n c : Nat) (b0 b1 b2 b3 b4 b5 b6 b7 b8 b9 : Int) (w : World) (hn : 1 ≤ n) (hm : n ≤ 9223372036854775807)
    (x0 : 0 ≤ b0) (y0 : b0 < 256) (x1 : 0 ≤ b1) (y1 : b1 < 256) (x2 : 0 ≤ b2) (y2 : b2 < 256) (x3 : 0 ≤ b3) (y3 : b3 < 256) (x4 : 0 ≤ b4) (y4 : b4 < 256) (x5 : 0 ≤ b5) (y5 : b5 < 256) (x6 : 0 ≤ b6) (y6 : b6 < 256) (x7 : 0 ≤ b7) (y7 : b7 < 256) (x8 : 0 ≤ b8) (y8 : b8 < 256) (x9 : 0 ≤ b9) (y9 : b9 < 256)
    (h0 : w.cell? ⟨g, o, none⟩ = some (.int .u8 b0))
    (h1 : (1 : Int) < (n : Int) → w.cell? ⟨g, o + 1, none⟩ = some (.int .u8 b1))
    (h2 : (2 : Int) < (n : Int) → w.cell? ⟨g, o + 2, none⟩ = some (.int .u8 b2))
    (h3 : (3 : Int) < (n : Int) → w.cell? ⟨g, o + 3, none⟩ = some (.int .u8 b3))
    (h4 : (4 : Int) < (n : Int) → w.cell? ⟨g, o + 4, none⟩ = some (.int .u8 b4))
    (h5 : (5 : Int) < (n : Int) → w.cell? ⟨g, o + 5, none⟩ = some (.int .u8 b5))
    (h6 : (6 : Int) < (n : Int) → w.cell? ⟨g, o + 6, none⟩ = some (.int .u8 b6))
    (h7 : (7 : Int) < (n : Int) → w.cell? ⟨g, o + 7, none⟩ = some (.int .u8 b7))
    (h8 : (8 : Int) < (n : Int) → w.cell? ⟨g, o + 8, none⟩ = some (.int .u8 b8))
    (h9 : (9 : Int) < (n : Int) → w.cell? ⟨g, o + 9, none⟩ = some (.int .u8 b9)) :
    Calls Tryz.prog 55 #[.slice (some ⟨g, o, none⟩) n c] w fun e w' => CVo (cvN n b0 b1 b2 b3 b4 b5 b6 b7 b8 b9) e ∧ w = w' := by
  go_enter Tryz.func55, Tryz.ntmps55
  go_wp2
  all_goals (clear h0 h1 h2 h3 h4 h5 h6 h7 h8 h9; go_ret2; refine ⟨?_, rfl⟩; unfold cvN)
  all_goals (repeat (first | rw [if_pos (by omega)] | rw [if_neg (by omega)]))
  all_goals first | exact CVo_none (by omega) (by omega) | exact CVo_some (by omega) (by omega) | (rw [IntWalk.u64_in (b9 * 9223372036854775808) (by omega), IntWalk.u64_in _ (by omega)]; exact CVo_some (by omega) (by omega))

theorem CV_calls {w : World} {A : Option Addr} {n c : Nat} {l : List Int} (h : Rd w A n c l) :
    Calls Tryz.prog 55 #[.slice A n c] w fun e w' => CVo (rv 10 l) e ∧ w = w' := by
  rcases Nat.eq_zero_or_pos n with h0 | h0
  · subst h0
    have : l = [] := List.eq_nil_of_length_eq_zero h.len
    subst this
    exact CV_empty A c w
  · obtain ⟨g, o, rfl, hc⟩ := h.at_ h0
    have hb := h.byt.getD
    have hl := h.len
    have hx := cvN_eq l (by omega)
    rw [← hx, hl]
    exact CV_walk g o n c _ _ _ _ _ _ _ _ _ _ w h0 (by have := h.cap; have := h.max; omega)
      (hb 0).1 (hb 0).2 (hb 1).1 (hb 1).2 (hb 2).1 (hb 2).2 (hb 3).1 (hb 3).2 (hb 4).1 (hb 4).2 (hb 5).1 (hb 5).2 (hb 6).1 (hb 6).2 (hb 7).1 (hb 7).2 (hb 8).1 (hb 8).2 (hb 9).1 (hb 9).2
      (hc 0 h0) (fun k => hc 1 (by omega)) (fun k => hc 2 (by omega)) (fun k => hc 3 (by omega)) (fun k => hc 4 (by omega)) (fun k => hc 5 (by omega)) (fun k => hc 6 (by omega)) (fun k => hc 7 (by omega)) (fun k => hc 8 (by omega)) (fun k => hc 9 (by omega))

/-- The two ways of it, for callers. -/
theorem CV_ok {w : World} {A : Option Addr} {n c : Nat} {l : List Int} (h : Rd w A n c l) {v k : Int} (hr : rv 10 l = some (v, k)) :
    Calls Tryz.prog 55 #[.slice A n c] w fun e w' => e = .returned (.tuple #[.int .u64 v, .int .i64 k]) ∧ w = w' :=
  (CV_calls h).mono fun e w' ⟨h1, h2⟩ => ⟨by rw [hr] at h1; exact h1, h2⟩
theorem CV_bad {w : World} {A : Option Addr} {n c : Nat} {l : List Int} (h : Rd w A n c l) (hr : rv 10 l = none) :
    Calls Tryz.prog 55 #[.slice A n c] w fun e w' => ∃ k : Int, k < 0 ∧ -10 ≤ k ∧ e = .returned (.tuple #[.int .u64 0, .int .i64 k]) ∧ w = w' :=
  (CV_calls h).mono fun e w' ⟨h1, h2⟩ => by rw [hr] at h1; obtain ⟨k, a, b, c⟩ := h1; exact ⟨k, a, b, c, h2⟩
end Go.Proofs.YtddofkeajinjpaaGreatDoor
