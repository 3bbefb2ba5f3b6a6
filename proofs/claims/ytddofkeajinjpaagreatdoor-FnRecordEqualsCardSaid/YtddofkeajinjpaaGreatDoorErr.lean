/- The errors that package-level variables hold; ParseError. -/
import Derived.Test.YtddofkeajinjpaaGreatDoorPwE
namespace Go.Proofs.YtddofkeajinjpaaGreatDoor
open Go Go.RowKit
set_option linter.unusedVariables false
set_option linter.unusedSimpArgs false
set_option maxRecDepth 100000

/-- Variable g holds an error. -/
def IsErr (w : World) (g : Nat) : Prop := ∃ t v, w.cell? ⟨g, 0, none⟩ = some (.iface t v)
theorem IsErr.keep {S : Nat → Prop} {w w' : World} {g : Nat} (h : IsErr w g) (k : Kp S w w') (hn : ¬ S g) : IsErr w' g := by
  obtain ⟨t, v, hc⟩ := h
  exact ⟨t, v, k.cell hc hn⟩
theorem IsErr.keepN {w w' : World} {g : Nat} (h : IsErr w g) (k : Kp no w w') : IsErr w' g := h.keep k (fun h => h)
/-- A value that is an error. -/
def Bad (e : Ending) : Prop := ∃ t v, e = .returned (.iface t v)

/-- protowire's own. -/
structure PErrs (w : World) : Prop where
  a : IsErr w 4
  b : IsErr w 5
  c : IsErr w 6
  d : IsErr w 7
  e : IsErr w 8
  f : IsErr w 9
theorem PErrs.keep {S : Nat → Prop} {w w' : World} (h : PErrs w) (k : Kp S w w') (hn : ∀ g, g < 13 → ¬ S g) : PErrs w' :=
  ⟨h.a.keep k (hn _ (by omega)), h.b.keep k (hn _ (by omega)), h.c.keep k (hn _ (by omega)), h.d.keep k (hn _ (by omega)), h.e.keep k (hn _ (by omega)), h.f.keep k (hn _ (by omega))⟩
theorem PErrs.keepN {w w' : World} (h : PErrs w) (k : Kp no w w') : PErrs w' := h.keep k (fun _ _ h => h)

theorem PE_bad {w : World} (h : PErrs w) (n : Int) (hn : n < 0) :
    Calls Tryz.prog 42 #[.int .i64 n] w fun e w' => Bad e ∧ w = w' := by
  obtain ⟨⟨t1, v1, h1⟩, ⟨t2, v2, h2⟩, ⟨t3, v3, h3⟩, ⟨t4, v4, h4⟩, ⟨t5, v5, h5⟩, ⟨t6, v6, h6⟩⟩ := h
  go_enter Tryz.func42, Tryz.ntmps42
  go_wp2
  all_goals (go_ret; exact ⟨⟨_, _, rfl⟩, rfl⟩)
end Go.Proofs.YtddofkeajinjpaaGreatDoor
