/- Messages whose fields may be messages themselves, plain: what is read of them, field by field. -/
import Derived.Test.YtddofkeajinjpaaGreatDoorMsg
import Derived.Test.YtddofkeajinjpaaGreatDoorErr
namespace Go.Proofs.YtddofkeajinjpaaGreatDoor
open Go Go.RowKit
set_option linter.unusedVariables false
set_option linter.unusedSimpArgs false

/-- Nothing that is right; a group; what is told. -/
inductive R3 (σ : Type) where
  | bad
  | opn
  | ok (s : σ)
section
variable {σ : Type} {st : σ → Fld → R3 σ}
def fo (step : σ → Fld → R3 σ) : List Fld → σ → R3 σ
  | [], s => .ok s
  | f :: fs, s => match step s f with
    | .ok s' => fo step fs s'
    | .bad => .bad
    | .opn => .opn
theorem fo_app : ∀ (p q : List Fld) (s : σ), fo st (p ++ q) s = match fo st p s with
    | .ok s' => fo st q s'
    | .bad => .bad
    | .opn => .opn
  | [], q, s => rfl
  | f :: p, q, s => by
    simp only [List.cons_append, fo]
    cases st s f with
    | ok s' => exact fo_app p q s'
    | bad => rfl
    | opn => rfl
theorem fo_one (f : Fld) (s : σ) : fo st [f] s = st s f := by
  simp only [fo]
  cases st s f <;> rfl
/-- A whole message. -/
def whole (step : σ → Fld → R3 σ) (l : List Int) (s : σ) : R3 σ := match wf l with
  | .ok fs => fo step fs s
  | .bad => .bad
  | .opn => .opn
/-- How the reading of it ends. -/
def FinG (r : R3 σ) (s' : σ) (e : Ending) : Prop := match r with
  | .ok s => e = .returned .nilIface ∧ s' = s
  | .bad => Bad e
  | .opn => e = .returned .nilIface ∨ Bad e
/-- Where the reading of it stands. -/
def AtG (step : σ → Fld → R3 σ) (l l' : List Int) (s s' : σ) : Prop := (∃ p, From l p l' ∧ (fo step p s = .ok s' ∨ fo step p s = .opn)) ∨ wf l = .opn
theorem AtG.start (l : List Int) (s : σ) : AtG st l l s s := .inl ⟨[], From.start l, .inl rfl⟩
theorem AtG.on {l l' r : List Int} {s s' s'' : σ} {f : Fld} (h : AtG st l l' s s') (hb : Byt l') (h0 : 0 < l'.length) (hh : hd l' = .fld f r) (hs : st s' f = .ok s'' ∨ st s' f = .opn) : AtG st l r s s'' := by
  rcases h with ⟨p, h, hp⟩ | h
  · refine .inl ⟨p ++ [f], h.step hb h0 hh, ?_⟩
    rw [fo_app]
    rcases hp with hp | hp
    · rw [hp]; simp only [fo_one]; exact hs
    · rw [hp]; exact .inr rfl
  · exact .inr h
theorem AtG.opn {l l' r : List Int} {s s' s'' : σ} (h : AtG st l l' s s') (hb : Byt l') (h0 : 0 < l'.length) (hh : hd l' = .opn) : AtG st l r s s'' := by
  rcases h with ⟨p, h, _⟩ | h
  · exact .inr (h.opn hb h0 hh)
  · exact .inr h
theorem AtG.bad {l l' : List Int} {s s' s'' : σ} {e : Ending} (h : AtG st l l' s s') (hb : Byt l') (h0 : 0 < l'.length) (hh : hd l' = .bad ∨ hd l' = .opn) (he : Bad e) : FinG (whole st l s) s'' e := by
  unfold FinG whole
  rcases h with ⟨p, h, _⟩ | h
  · rcases hh with hh | hh
    · rw [h.bad hb h0 hh]; exact he
    · rw [h.opn hb h0 hh]; exact .inr he
  · rw [h]; exact .inr he
/-- A field that is none, or nothing is said of. -/
theorem AtG.badIn {l l' r : List Int} {s s' s'' : σ} {f : Fld} {e : Ending} (h : AtG st l l' s s') (hb : Byt l') (h0 : 0 < l'.length) (hh : hd l' = .fld f r) (hs : st s' f = .bad ∨ st s' f = .opn) (he : Bad e) : FinG (whole st l s) s'' e := by
  unfold FinG whole
  rcases h with ⟨p, h, hp⟩ | h
  · have h2 := h.step hb h0 hh
    unfold From at h2
    rw [h2]
    cases wf r with
    | bad => exact he
    | opn => exact .inr he
    | ok q =>
      show match fo st ((p ++ [f]) ++ q) s with | .ok s => _ | .bad => _ | .opn => _
      rw [fo_app, fo_app]
      rcases hp with hp | hp
      · rw [hp]; simp only [fo_one]
        rcases hs with hs | hs
        · rw [hs]; exact he
        · rw [hs]; exact .inr he
      · rw [hp]; exact .inr he
  · rw [h]; exact .inr he
theorem whole_ok {l : List Int} {s : σ} {p : List Fld} (h : wf l = .ok p) : whole st l s = fo st p s := by unfold whole; rw [h]
theorem AtG.done {l : List Int} {s s' : σ} (h : AtG st l [] s s') : FinG (whole st l s) s' (.returned .nilIface) := by
  rcases h with ⟨p, h, hp⟩ | h
  · rw [whole_ok h.done]
    rcases hp with hp | hp
    · rw [hp]; exact ⟨rfl, rfl⟩
    · rw [hp]; exact .inl rfl
  · have : whole st l s = .opn := by unfold whole; rw [h]
    rw [this]; exact .inl rfl
theorem FinG.end_ {r : R3 σ} {s' : σ} {e : Ending} (h : FinG r s' e) : e = .returned .nilIface ∨ Bad e := by
  unfold FinG at h
  cases r with
  | ok s => exact .inl h.1
  | bad => exact .inr h
  | opn => exact h
end
end Go.Proofs.YtddofkeajinjpaaGreatDoor
