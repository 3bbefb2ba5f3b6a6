/- Unmarshal of keys; KeyOf, SecretOf. -/
import Derived.Test.YtddofkeajinjpaaGreatDoorKeyC
import Derived.RegionTactic
import Derived.Deep.RegionWith
namespace Go.Proofs.YtddofkeajinjpaaGreatDoor
open Go Go.RowKit
set_option linter.unusedVariables false
set_option linter.unusedSimpArgs false
set_option maxRecDepth 100000

theorem PKGetType_calls {w : World} (g : Nat) (T : TypeId) (pt sl : Value) (k : Int) (st2 : Option (List Int)) (hb : Blk w g #[pt, sl] T) {S : Nat → Prop} (hs : KSt w S pt sl (some k, st2)) :
    Calls Tryz.prog 48 #[.pointer (some ⟨g, 0, none⟩)] w fun e w' => e = .returned (.int .i32 k) ∧ w = w' := by
  obtain ⟨b, rfl, _, hc, _⟩ := hs.pt
  have c0 := hb.cell 0
  go_enter Tryz.func48, Tryz.ntmps48
  go_wp2_with fail
  go_ret
  exact ⟨rfl, rfl⟩

/-- The state that a message alone tells. -/
def kall (fs : List Fld) : KS := fs.foldl kstep (none, none)
/-- How the reading of a key ends. -/
def KFin (l : List Int) (st' : KS) (e : Ending) : Prop := (e = .returned .nilIface ∧ okS st' = true ∨ Bad e) ∧ match wf l with
  | .ok fs => if okS (kall fs) then e = .returned .nilIface ∧ st' = kall fs else Bad e
  | .bad => Bad e
  | .opn => True
def UM (w : World) (S : Nat → Prop) (g : Nat) (T : TypeId) (l : List Int) (e : Ending) (w' : World) : Prop :=
  Kp (· = g) w w' ∧ ∃ pt sl st', Blk w' g #[pt, sl] T ∧ KSt w' S pt sl st' ∧ KFin l st' e
theorem bad_not_nil {e : Ending} (h : Bad e) (k : e = .returned .nilIface) : False := by
  obtain ⟨t, v, rfl⟩ := h; cases k
theorem KFin.of {l : List Int} {st' : KS} {e e2 : Ending} (h : Fin l (none, none) st' e) (he : e = .returned .nilIface) (h2 : ReqO st' e2) : KFin l st' e2 := by
  unfold Fin at h
  unfold ReqO at h2
  unfold KFin
  refine ⟨?_, ?_⟩
  · split at h2
    · rename_i hk; exact .inl ⟨h2, hk⟩
    · exact .inr h2
  · generalize wf l = r at h ⊢
    cases r with
    | ok fs =>
      obtain ⟨_, hs⟩ := h
      have hs' : st' = kall fs := hs
      subst hs'
      show if okS (kall fs) = true then e2 = .returned .nilIface ∧ kall fs = kall fs else Bad e2
      split at h2
      · rename_i hk; rw [if_pos hk]; exact ⟨h2, rfl⟩
      · rename_i hk; rw [if_neg hk]; exact h2
    | bad => exact (bad_not_nil h he).elim
    | opn => trivial
theorem KFin.ofBad {l : List Int} {st' : KS} {e : Ending} (h : Fin l (none, none) st' e) (he : Bad e) : KFin l st' e := by
  unfold Fin at h
  unfold KFin
  refine ⟨.inr he, ?_⟩
  generalize wf l = r at h ⊢
  cases r with
  | ok fs => exact (bad_not_nil he h.1).elim
  | bad => exact h
  | opn => trivial

end Go.Proofs.YtddofkeajinjpaaGreatDoor
