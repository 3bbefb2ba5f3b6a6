/- KeyOf, SecretOf: what bytes tell of a key. -/
import Derived.Test.YtddofkeajinjpaaGreatDoorKeyD
namespace Go.Proofs.YtddofkeajinjpaaGreatDoor
open Go Go.RowKit
set_option linter.unusedVariables false
set_option linter.unusedSimpArgs false
set_option maxRecDepth 100000

theorem MadeAt.lo {w w' : World} {A : Option Addr} {c : Nat} {l : List Int} (h : MadeAt w w' A c l) : Lo w'.heap.size A := fun a ha => by
  have := (h.own.base a.block (by rw [ha]; rfl)).2
  omega
theorem MadeAt.hi {w w' : World} {A : Option Addr} {c : Nat} {l : List Int} (h : MadeAt w w' A c l) (S : Nat → Prop) (hS : ∀ i, S i → i < w.heap.size) : Out S A := fun a ha hs => by
  have := (h.own.base a.block (by rw [ha]; rfl)).1
  have := hS _ hs
  omega

/-- What is told of a key. -/
def KRes (l : List Int) (k : Int) (d : List Int) (ok : Bool) : Prop := match wf l with
  | .ok fs => if okS (kall fs) then ok = true ∧ kall fs = (some k, some d) else ok = false
  | .bad => ok = false
  | .opn => True
def KOf (w : World) (l : List Int) (e : Ending) (w' : World) : Prop :=
  Kp no w w' ∧ ∃ k A c d ok, e = .returned (.tuple #[.int .i32 k, .slice A d.length c, .bool ok]) ∧ Rd w' A d.length c d ∧ -2147483648 ≤ k ∧ k ≤ 2147483647 ∧ KRes l k d ok
theorem okS_some {st : KS} (h : okS st = true) : ∃ k d, st = (some k, some d) := by
  obtain ⟨a, b⟩ := st
  cases a with
  | none => simp [okS] at h
  | some k => cases b with
    | none => simp [okS] at h
    | some d => exact ⟨k, d, rfl⟩
theorem KRes.ofBad {l : List Int} {st : KS} {e : Ending} (h : KFin l st e) (he : Bad e) (k : Int) (d : List Int) : KRes l k d false := by
  unfold KFin at h
  unfold KRes
  have h := h.2
  generalize wf l = r at h ⊢
  cases r with
  | ok fs =>
    show if okS (kall fs) then false = true ∧ kall fs = (some k, some d) else false = false
    change (if okS (kall fs) = true then _ else _) at h
    split
    · rename_i hk; rw [if_pos hk] at h; exact (bad_not_nil he h.1).elim
    · rfl
  | bad => rfl
  | opn => trivial
theorem KRes.ofOk {l : List Int} {k : Int} {d : List Int} (h : KFin l (some k, some d) (.returned .nilIface)) : KRes l k d true := by
  unfold KFin at h
  unfold KRes
  have h := h.2
  generalize wf l = r at h ⊢
  cases r with
  | ok fs =>
    show if okS (kall fs) then true = true ∧ kall fs = (some k, some d) else true = false
    change (if okS (kall fs) = true then _ else _) at h
    split
    · rename_i hk; rw [if_pos hk] at h; exact ⟨rfl, h.2.symm⟩
    · rename_i hk; rw [if_neg hk] at h; exact (bad_not_nil h rfl).elim
  | bad => exact (bad_not_nil h rfl).elim
  | opn => trivial

/-- The package's variables that a key's reading names. -/
structure KErrs (w : World) : Prop where
  p : PErrs w
  n : IsErr w 11
  m : IsErr w 12
  sz : 13 ≤ w.heap.size
theorem KErrs.keepN {w w' : World} (h : KErrs w) (k : Kp no w w') : KErrs w' := ⟨h.p.keepN k, h.n.keepN k, h.m.keepN k, Nat.le_trans h.sz k.size⟩

end Go.Proofs.YtddofkeajinjpaaGreatDoor
