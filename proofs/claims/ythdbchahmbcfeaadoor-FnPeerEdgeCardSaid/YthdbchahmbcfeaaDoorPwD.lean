/- The value of a field: consumeFieldValueD, ConsumeFieldValue. -/
import Derived.Test.YthdbchahmbcfeaaDoorPwC
namespace Go.Proofs.YthdbchahmbcfeaaDoor
open Go Go.RowKit
set_option linter.unusedVariables false
set_option linter.unusedSimpArgs false
set_option maxRecDepth 100000

/-- How many bytes the value of a field takes, by its wire; of groups (3) nothing is said. -/
def fval (t : Int) (l : List Int) : Option Int :=
  if t = 0 then (rv 10 l).map (·.2) else if t = 5 then (if 4 ≤ l.length then some 4 else none) else if t = 1 then (if 8 ≤ l.length then some 8 else none)
  else if t = 2 then (bsz l).map (fun p => p.2 + p.1) else none
theorem fval_le {t : Int} {l : List Int} (hb : Byt l) {k : Int} (h : fval t l = some k) : 1 ≤ k ∧ k ≤ l.length := by
  unfold fval at h
  split at h
  · obtain ⟨⟨v, k'⟩, hr, rfl⟩ := Option.map_eq_some_iff.1 h
    have := rv_len 10 l v k' hr
    exact ⟨by omega, by omega⟩
  · split at h
    · split at h
      · injection h with h; omega
      · cases h
    · split at h
      · split at h
        · injection h with h; omega
        · cases h
      · split at h
        · obtain ⟨⟨v, k'⟩, hr, rfl⟩ := Option.map_eq_some_iff.1 h
          have := bsz_some hb hr
          exact ⟨by show 1 ≤ k' + v; omega, by show k' + v ≤ _; omega⟩
        · cases h

/-- What it comes to. -/
def FVo (t : Int) (l : List Int) (e : Ending) : Prop := ∃ k : Int, e = .returned (.int .i64 k) ∧ -10 ≤ k ∧ k ≤ l.length ∧
  (t ≠ 3 → match fval t l with | some m => k = m | none => k < 0)
theorem FVo.ok {t : Int} {l : List Int} {m : Int} (hb : Byt l) (h : fval t l = some m) : FVo t l (.returned (.int .i64 m)) := by
  have := fval_le hb h
  exact ⟨m, rfl, by omega, by omega, fun _ => by rw [h]⟩
theorem FVo.bad {t : Int} {l : List Int} {m : Int} (h : t ≠ 3 → fval t l = none) (h0 : m < 0) (h1 : -10 ≤ m) : FVo t l (.returned (.int .i64 m)) :=
  ⟨m, rfl, h1, by omega, fun ht => by rw [h ht]; exact h0⟩

end Go.Proofs.YthdbchahmbcfeaaDoor
