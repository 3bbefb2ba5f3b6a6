/- KeyOf, SecretOf: what bytes tell of a key. -/
import Derived.Test.YtipleaojejbkpaaDoorKeyD
namespace Go.Proofs.YtipleaojejbkpaaDoor
open Go Go.RowKit
set_option linter.unusedVariables false
set_option linter.unusedSimpArgs false
set_option maxRecDepth 100000

theorem MadeAt.lo {w w' : World} {A : Option Addr} {c : Nat} {l : List Int} (h : MadeAt w w' A c l) : Lo w'.heap.size A := fun a ha => by
  have := (h.own.base a.block (by rw [ha]; rfl)).2
  omega
theorem MadeAt.hi {w w' : World} {A : Option Addr} {c : Nat} {l : List Int} (h : MadeAt w w' A c l) (S : Nat → Prop) (hS : ∀ i, S i → i < w.heap.size) : Out S A := fun a ha hs => by
  have := (h.own.base a.block (by rw [ha]; rfl)).1
  have := hS _ hs
  omega

/-- What is told of a key. -/
def KRes (l : List Int) (k : Int) (d : List Int) (ok : Bool) : Prop := match wf l with
  | .ok fs => if okS (kall fs) then ok = true ∧ kall fs = (some k, some d) else ok = false
  | .bad => ok = false
  | .opn => True
def KOf (w : World) (l : List Int) (e : Ending) (w' : World) : Prop :=
  Kp no w w' ∧ ∃ k A c d ok, e = .returned (.tuple #[.int .i32 k, .slice A d.length c, .bool ok]) ∧ Rd w' A d.length c d ∧ -2147483648 ≤ k ∧ k ≤ 2147483647 ∧ KRes l k d ok
theorem okS_some {st : KS} (h : okS st = true) : ∃ k d, st = (some k, some d) := by
  obtain ⟨a, b⟩ := st
  cases a with
  | none => simp [okS] at h
  | some k => cases b with
    | none => simp [okS] at h
    | some d => exact ⟨k, d, rfl⟩
theorem KRes.ofBad {l : List Int} {st : KS} {e : Ending} (h : KFin l st e) (he : Bad e) (k : Int) (d : List Int) : KRes l k d false := by
  unfold KFin at h
  unfold KRes
  have h := h.2
  generalize wf l = r at h ⊢
  cases r with
  | ok fs =>
    show if okS (kall fs) then false = true ∧ kall fs = (some k, some d) else false = false
    change (if okS (kall fs) = true then _ else _) at h
    split
    · rename_i hk; rw [if_pos hk] at h; exact (bad_not_nil he h.1).elim
    · rfl
  | bad => rfl
  | opn => trivial
theorem KRes.ofOk {l : List Int} {k : Int} {d : List Int} (h : KFin l (some k, some d) (.returned .nilIface)) : KRes l k d true := by
  unfold KFin at h
  unfold KRes
  have h := h.2
  generalize wf l = r at h ⊢
  cases r with
  | ok fs =>
    show if okS (kall fs) then true = true ∧ kall fs = (some k, some d) else true = false
    change (if okS (kall fs) = true then _ else _) at h
    split
    · rename_i hk; rw [if_pos hk] at h; exact ⟨rfl, h.2.symm⟩
    · rename_i hk; rw [if_neg hk] at h; exact (bad_not_nil h rfl).elim
  | bad => exact (bad_not_nil h rfl).elim
  | opn => trivial

/-- The package's variables that a key's reading names. -/
structure KErrs (w : World) : Prop where
  p : PErrs w
  n : IsErr w 2
  m : IsErr w 3
  sz : 10 ≤ w.heap.size
theorem KErrs.keepN {w w' : World} (h : KErrs w) (k : Kp no w w') : KErrs w' := ⟨h.p.keepN k, h.n.keepN k, h.m.keepN k, Nat.le_trans h.sz k.size⟩

theorem KeyOf_calls {w : World} {A : Option Addr} {n c : Nat} {l : List Int} (h : Rd w A n c l) (hn : n ≤ 1099511627776) (hE : KErrs w) :
    Calls Tryd.prog 21 #[.slice A n c] w (KOf w l) := by
  have hsz := hE.sz
  have k1 : Kp no w (w.alloc (.cells #[.pointer none, .slice none 0 0] 86)) := (Kp.refl _ _).alloc _
  have D1 := Lib.hid (Clone_calls (h.keepN k1) (by omega))
  have hl := Lib.hid h.len
  go_enter Tryd.func21, Tryd.ntmps21
  go_wp2_with (first | (go_at_call 22; refine D1.out.mono ?_; rintro e w2 ⟨A2, c2, rfl, hM2⟩))
  have k2 := k1.then hM2.kp
  have hE2 := hE.keepN k2
  have hb2 := (Blk.new w #[.pointer none, .slice none 0 0] 86).keepN hM2.kp
  have D2 := Lib.hid (PKUnmarshal_calls hM2.rd (by rw [hl.out]; exact hn) hE2.p hE2.n hE2.m (· = w.heap.size) w.heap.size 86 hsz rfl (fun i hi => by have := k2.size; have := hM2.kp.size; simp at this; omega) _ _ hb2 (hM2.hi _ (fun i hi => by simp; omega)) hM2.lo)
  refine D2.out.mono ?_
  rintro e w3 ⟨hk3, pt, sl, st, hb3, hs3, hF⟩
  have k3 : Kp no w w3 := k2.trans hk3 (fun i hi h => by omega)
  rcases hF.1 with ⟨rfl, hok⟩ | ⟨t, v, rfl⟩
  · obtain ⟨k, d, rfl⟩ := okS_some hok
    have R := Lib.hid (KRes.ofOk hF)
    obtain ⟨b1, hpt, _, hc1, hr1, hr2⟩ := hs3.pt
    obtain ⟨b2, o2, c3, hsl, _, _, hdn, hR2⟩ := hs3.dt
    have kd : Kp no w3 w3.drew := (Kp.refl _ _).drew
    have D3 := Lib.hid (PKGetType_calls (w := w3.drew) w.heap.size 86 pt sl k (some d) hb3 (hs3.keepN kd))
    have D4 := Lib.hid (Clone_calls (hR2.keepN kd) (by omega))
    subst hsl
    have q1 := hb3.cell 1
    clear hF hok
    go_wp2_with fail
    go_region_with (first | (go_at_call 54; refine D3.out.mono ?_; rintro e w' ⟨rfl, rfl⟩) | (go_at_call 22; refine D4.out.mono ?_; rintro e w4 ⟨A4, c4, rfl, hM4⟩))
    all_goals
      have k4 : Kp no w w4 := k3.then (kd.then hM4.kp)
      go_wp2
      go_ret3
      exact ⟨k4, k, A4, c4, d, true, rfl, hM4.rd, hr1, hr2, R.out⟩
  · have R := Lib.hid (KRes.ofBad hF ⟨t, v, rfl⟩ 0 [])
    clear hF
    go_wp2
    go_ret3
    exact ⟨k3, 0, none, 0, [], false, rfl, Rd.nil _, by omega, by omega, R.out⟩
end Go.Proofs.YtipleaojejbkpaaDoor
