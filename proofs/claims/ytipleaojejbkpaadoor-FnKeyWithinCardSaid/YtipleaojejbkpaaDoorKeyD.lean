/- Unmarshal of keys; KeyOf, SecretOf. -/
import Derived.Test.YtipleaojejbkpaaDoorKeyC
import Derived.RegionTactic
import Derived.Deep.RegionWith
namespace Go.Proofs.YtipleaojejbkpaaDoor
open Go Go.RowKit
set_option linter.unusedVariables false
set_option linter.unusedSimpArgs false
set_option maxRecDepth 100000

theorem PKGetType_calls {w : World} (g : Nat) (T : TypeId) (pt sl : Value) (k : Int) (st2 : Option (List Int)) (hb : Blk w g #[pt, sl] T) {S : Nat → Prop} (hs : KSt w S pt sl (some k, st2)) :
    Calls Tryd.prog 54 #[.pointer (some ⟨g, 0, none⟩)] w fun e w' => e = .returned (.int .i32 k) ∧ w = w' := by
  obtain ⟨b, rfl, _, hc, _⟩ := hs.pt
  have c0 := hb.cell 0
  go_enter Tryd.func54, Tryd.ntmps54
  go_wp2_with fail
  go_ret
  exact ⟨rfl, rfl⟩

/-- The state that a message alone tells. -/
def kall (fs : List Fld) : KS := fs.foldl kstep (none, none)
/-- How the reading of a key ends. -/
def KFin (l : List Int) (st' : KS) (e : Ending) : Prop := (e = .returned .nilIface ∧ okS st' = true ∨ Bad e) ∧ match wf l with
  | .ok fs => if okS (kall fs) then e = .returned .nilIface ∧ st' = kall fs else Bad e
  | .bad => Bad e
  | .opn => True
def UM (w : World) (S : Nat → Prop) (g : Nat) (T : TypeId) (l : List Int) (e : Ending) (w' : World) : Prop :=
  Kp (· = g) w w' ∧ ∃ pt sl st', Blk w' g #[pt, sl] T ∧ KSt w' S pt sl st' ∧ KFin l st' e
theorem bad_not_nil {e : Ending} (h : Bad e) (k : e = .returned .nilIface) : False := by
  obtain ⟨t, v, rfl⟩ := h; cases k
theorem KFin.of {l : List Int} {st' : KS} {e e2 : Ending} (h : Fin l (none, none) st' e) (he : e = .returned .nilIface) (h2 : ReqO st' e2) : KFin l st' e2 := by
  unfold Fin at h
  unfold ReqO at h2
  unfold KFin
  refine ⟨?_, ?_⟩
  · split at h2
    · rename_i hk; exact .inl ⟨h2, hk⟩
    · exact .inr h2
  · generalize wf l = r at h ⊢
    cases r with
    | ok fs =>
      obtain ⟨_, hs⟩ := h
      have hs' : st' = kall fs := hs
      subst hs'
      show if okS (kall fs) = true then e2 = .returned .nilIface ∧ kall fs = kall fs else Bad e2
      split at h2
      · rename_i hk; rw [if_pos hk]; exact ⟨h2, rfl⟩
      · rename_i hk; rw [if_neg hk]; exact h2
    | bad => exact (bad_not_nil h he).elim
    | opn => trivial
theorem KFin.ofBad {l : List Int} {st' : KS} {e : Ending} (h : Fin l (none, none) st' e) (he : Bad e) : KFin l st' e := by
  unfold Fin at h
  unfold KFin
  refine ⟨.inr he, ?_⟩
  generalize wf l = r at h ⊢
  cases r with
  | ok fs => exact (bad_not_nil he h.1).elim
  | bad => exact h
  | opn => trivial

theorem PKUnmarshal_calls {w : World} {A : Option Addr} {n c : Nat} {l : List Int} (h : Rd w A n c l) (hn : n ≤ 1099511627776) (hE : PErrs w) (hN : IsErr w 2) (hM : IsErr w 3)
    (S : Nat → Prop) (g : Nat) (T : TypeId) (hg : 10 ≤ g) (hSg : S g) (hSl : ∀ i, S i → i < w.heap.size) (v0 v1 : Value) (hb : Blk w g #[v0, v1] T) (ho : Out (· = g) A) (hlo : Lo w.heap.size A) :
    Calls Tryd.prog 53 #[.pointer (some ⟨g, 0, none⟩), .slice A n c] w (UM w S g T l) := by
  have k0 := hb.cell 0
  have k1 := hb.cell 1
  have q0 := hb.free 0
  have q1 := hb.free 1
  have hlt := hb.lt
  have hkA : Kp (· = g) w ((w.setCell ⟨g, 0, none⟩ (.pointer none)).setCell ⟨g, 1, none⟩ (.slice none 0 0)) :=
    ((Kp.refl (· = g) w).setCell (p := ⟨g, 0, none⟩) (fun _ => rfl) _).setCell (p := ⟨g, 1, none⟩) (fun _ => rfl) _
  have hb2 := (hb.set 0 (.pointer none)).set 1 (.slice none 0 0)
  have hs2 : KSt ((w.setCell ⟨g, 0, none⟩ (.pointer none)).setCell ⟨g, 1, none⟩ (.slice none 0 0)) S (.pointer none) (.slice none 0 0) (none, none) := ⟨rfl, rfl⟩
  have hE2 := hE.keep hkA (fun i hi h => by omega)
  have hN2 := hN.keep hkA (by show ¬ _ = g; omega)
  have hM2 := hM.keep hkA (by show ¬ _ = g; omega)
  have D := Lib.hid (PKMerge_calls (h.keep hkA ho) hn hE2 hN2 S g T (by simp; omega) hSg (by simpa using hSl) _ _ _ hb2 (by simpa using hlo) hs2)
  clear hs2 hb2
  go_enter Tryd.func53, Tryd.ntmps53
  go_wp2_with fail
  refine D.out.mono ?_
  rintro e w2 ⟨hk2, pt2, sl2, st2, hb2, hs2, hF⟩
  have hkB := hkA.trans hk2 (fun _ _ h => h)
  have hfe : e = .returned .nilIface ∨ Bad e := by
    unfold Fin at hF
    split at hF
    · exact .inl hF.1
    · exact .inr hF
    · exact hF
  have HF := Lib.hid hF
  clear hF
  rcases hfe with rfl | ⟨t, v, rfl⟩
  · have D2 := Lib.hid (PKRequired_calls (hM.keep hkB (by show ¬ _ = g; omega)) g T _ _ _ hb2 hs2)
    go_wp2_with fail
    refine D2.out.mono ?_
    rintro e w3 ⟨he, hk3⟩
    have F := KFin.of HF.out rfl he
    have hfe : e = .returned .nilIface ∨ Bad e := F.1.imp (·.1) (fun h => h)
    have hb3 := hb2.keepN hk3
    have hs3 := hs2.keepN hk3
    have hkC := hkB.then hk3
    clear he
    rcases hfe with rfl | ⟨t, v, rfl⟩
    all_goals
      go_wp2
      go_ret
      exact ⟨hkC, _, _, _, hb3, hs3, F⟩
  · have F := KFin.ofBad HF.out ⟨t, v, rfl⟩
    go_wp2
    go_ret
    exact ⟨hkB, _, _, _, hb2, hs2, F⟩
end Go.Proofs.YtipleaojejbkpaaDoor
