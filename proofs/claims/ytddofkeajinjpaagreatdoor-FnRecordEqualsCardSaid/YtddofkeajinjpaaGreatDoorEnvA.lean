/- An envelope's message, plain; what the code's envelope holds. -/
import Derived.Test.YtddofkeajinjpaaGreatDoorFold
import Derived.Test.YtddofkeajinjpaaGreatDoorKeyE
namespace Go.Proofs.YtddofkeajinjpaaGreatDoor
open Go Go.RowKit
set_option linter.unusedVariables false
set_option linter.unusedSimpArgs false
set_option maxRecDepth 100000

/-- What an envelope tells: its key, as far as it was read, its type, payload, signature. -/
structure ES where
  key : Option KS
  ty : List Int
  pl : List Int
  sg : List Int
def ES.zero : ES := ⟨none, [], [], []⟩
def keyed (s : ES) (r : Res) : R3 ES := match r with
  | .ok gs => .ok { s with key := some (gs.foldl kstep (s.key.getD (none, none))) }
  | .bad => .bad
  | .opn => .opn
def estep (s : ES) (f : Fld) : R3 ES :=
  if f.kind = 2 then
    (if f.num = 1 then keyed s (wf f.data) else if f.num = 2 then .ok { s with ty := f.data } else if f.num = 3 then .ok { s with pl := f.data } else if f.num = 5 then .ok { s with sg := f.data } else .ok s)
  else .ok s
theorem estep_1 (s : ES) (v : Int) (d : List Int) : estep s ⟨1, 2, v, d⟩ = keyed s (wf d) := by simp [estep]
theorem estep_2 (s : ES) (v : Int) (d : List Int) : estep s ⟨2, 2, v, d⟩ = .ok { s with ty := d } := by simp [estep]
theorem estep_3 (s : ES) (v : Int) (d : List Int) : estep s ⟨3, 2, v, d⟩ = .ok { s with pl := d } := by simp [estep]
theorem estep_5 (s : ES) (v : Int) (d : List Int) : estep s ⟨5, 2, v, d⟩ = .ok { s with sg := d } := by simp [estep]
theorem estep_kind (s : ES) (f : Fld) (h : ¬ f.kind = 2) : estep s f = .ok s := by unfold estep; rw [if_neg h]
theorem estep_num (s : ES) (f : Fld) (h1 : ¬ f.num = 1) (h2 : ¬ f.num = 2) (h3 : ¬ f.num = 3) (h5 : ¬ f.num = 5) : estep s f = .ok s := by
  unfold estep; rw [if_neg h1, if_neg h2, if_neg h3, if_neg h5]; simp
/-- At the end: a key is whole. -/
def efin (r : R3 ES) : R3 ES := match r with
  | .ok s => (match s.key with
    | none => .ok s
    | some ks => if okS ks then .ok s else .bad)
  | .bad => .bad
  | .opn => .opn

/-- A slice of an envelope's. -/
def SlAt (w : World) (S : Nat → Prop) (v : Value) (l : List Int) : Prop := ∃ A c, v = .slice A l.length c ∧ Rd w A l.length c l ∧ Out S A ∧ Lo w.heap.size A ∧ l.length ≤ 1099511627776
theorem SlAt.keep {w w' : World} {S R : Nat → Prop} {v : Value} {l : List Int} (h : SlAt w S v l) (k : Kp R w w') (hr : ∀ i, R i → i < w.heap.size → S i) : SlAt w' S v l := by
  obtain ⟨A, c, rfl, hR, hO, hL, hn⟩ := h
  exact ⟨A, c, rfl, hR.keep k (fun a ha hr' => hO a ha (hr _ hr' (hL a ha))), hO, hL.mono k.size, hn⟩
theorem SlAt.keepN {w w' : World} {S : Nat → Prop} {v : Value} {l : List Int} (h : SlAt w S v l) (k : Kp no w w') : SlAt w' S v l := h.keep k (fun _ h _ => h.elim)
theorem SlAt.mono {w : World} {S S' : Nat → Prop} {v : Value} {l : List Int} (h : SlAt w S v l) (hr : ∀ i, i < w.heap.size → S' i → S i) : SlAt w S' v l := by
  obtain ⟨A, c, rfl, hR, hO, hL, hn⟩ := h
  exact ⟨A, c, rfl, hR, fun a ha hs => hO a ha (hr _ (hL a ha) hs), hL, hn⟩
theorem SlAt.nil (w : World) (S : Nat → Prop) : SlAt w S (.slice none 0 0) [] := ⟨none, 0, rfl, Rd.nil _, Out.none _, Lo.none _, by simp⟩
theorem SlAt.form {w : World} {S : Nat → Prop} {v : Value} {l : List Int} (h : SlAt w S v l) : ∃ A n c, v = .slice A n c := by
  obtain ⟨A, c, rfl, _⟩ := h; exact ⟨_, _, _, rfl⟩
/-- The key's block, and the envelope's own. -/
def Mine (g : Nat) (pk : Value) (i : Nat) : Prop := i = g ∨ pk = .pointer (some ⟨i, 0, none⟩)
def PkAt (w : World) (g : Nat) (pk : Value) : Option KS → Prop
  | none => pk = .pointer none
  | some ks => ∃ gk pt sl, pk = .pointer (some ⟨gk, 0, none⟩) ∧ gk ≠ g ∧ 13 ≤ gk ∧ Blk w gk #[pt, sl] 103 ∧ KSt w (fun i => i = g ∨ i = gk) pt sl ks
structure ESt (w : World) (g : Nat) (pk ty pl sg : Value) (st : ES) : Prop where
  key : PkAt w g pk st.key
  ty : SlAt w (Mine g pk) ty st.ty
  pl : SlAt w (Mine g pk) pl st.pl
  sg : SlAt w (Mine g pk) sg st.sg
theorem PkAt.keep {w w' : World} {R : Nat → Prop} {g : Nat} {pk : Value} {k : Option KS} (h : PkAt w g pk k) (hk : Kp R w w') (hr : ∀ i, R i → i = g) : PkAt w' g pk k := by
  cases k with
  | none => exact h
  | some ks =>
    obtain ⟨gk, pt, sl, h1, h2, h3, h4, h5⟩ := h
    exact ⟨gk, pt, sl, h1, h2, h3, h4.keep hk (fun h => h2 (hr _ h)), h5.keep hk (fun i hi => .inl (hr _ hi))⟩
theorem ESt.keep {w w' : World} {R : Nat → Prop} {g : Nat} {pk ty pl sg : Value} {st : ES} (h : ESt w g pk ty pl sg st) (hk : Kp R w w') (hr : ∀ i, R i → i = g) : ESt w' g pk ty pl sg st :=
  ⟨h.key.keep hk hr, h.ty.keep hk (fun i hi _ => .inl (hr _ hi)), h.pl.keep hk (fun i hi _ => .inl (hr _ hi)), h.sg.keep hk (fun i hi _ => .inl (hr _ hi))⟩
theorem ESt.keepN {w w' : World} {g : Nat} {pk ty pl sg : Value} {st : ES} (h : ESt w g pk ty pl sg st) (hk : Kp no w w') : ESt w' g pk ty pl sg st := h.keep hk (fun _ h => h.elim)
theorem PkAt.form {w : World} {g : Nat} {pk : Value} {k : Option KS} (h : PkAt w g pk k) : ∃ P, pk = .pointer P := by
  cases k with
  | none => exact ⟨_, h⟩
  | some ks => obtain ⟨gk, _, _, h1, _⟩ := h; exact ⟨_, h1⟩
theorem ESt.zero (w : World) (g : Nat) : ESt w g (.pointer none) (.slice none 0 0) (.slice none 0 0) (.slice none 0 0) ES.zero := ⟨rfl, SlAt.nil _ _, SlAt.nil _ _, SlAt.nil _ _⟩
end Go.Proofs.YtddofkeajinjpaaGreatDoor
