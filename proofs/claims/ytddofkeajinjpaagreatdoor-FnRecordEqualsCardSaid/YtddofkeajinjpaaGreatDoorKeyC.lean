/- Required, Merge, Unmarshal of keys. -/
import Derived.Test.YtddofkeajinjpaaGreatDoorKeyB
namespace Go.Proofs.YtddofkeajinjpaaGreatDoor
open Go Go.RowKit
set_option linter.unusedVariables false
set_option linter.unusedSimpArgs false
set_option maxRecDepth 100000

def okS (st : KS) : Bool := st.1.isSome && st.2.isSome
def ReqO (st : KS) (e : Ending) : Prop := if okS st then e = .returned .nilIface else Bad e
theorem krequired_calls {w : World} (hN : IsErr w 12) (g : Nat) (T : TypeId) (pt sl : Value) (st : KS) (hb : Blk w g #[pt, sl] T) {S : Nat → Prop} (hs : KSt w S pt sl st) :
    Calls Tryz.prog 59 #[.pointer (some ⟨g, 0, none⟩)] w fun e w' => ReqO st e ∧ w = w' := by
  obtain ⟨et, ev, hNe⟩ := hN
  have c0 := hb.cell 0
  have c1 := hb.cell 1
  obtain ⟨st1, st2⟩ := st
  obtain ⟨hp, hd⟩ := hs
  cases st1 with
  | none =>
    have hp' : pt = .pointer none := hp
    subst hp'
    clear hp hd
    go_enter Tryz.func59, Tryz.ntmps59
    go_wp2
    go_ret
    exact ⟨⟨_, _, rfl⟩, rfl⟩
  | some k =>
    obtain ⟨b, rfl, _⟩ := hp
    cases st2 with
    | none =>
      have hd' : sl = .slice none 0 0 := hd
      subst hd'
      clear hd
      have heq := fun W : World => Lib.run_eql_slice_nil (P := Tryz.prog) W 28 5 none 0 0 0 0 Tryz.und_bytes
      go_enter Tryz.func59, Tryz.ntmps59
      go_wp2
      go_ret
      exact ⟨⟨_, _, rfl⟩, rfl⟩
    | some l =>
      obtain ⟨b2, o, c, rfl, _⟩ := hd
      have heq := fun W : World => Lib.run_eql_slice_nil (P := Tryz.prog) W 28 5 (some ⟨b2, o, none⟩) l.length c 0 0 Tryz.und_bytes
      go_enter Tryz.func59, Tryz.ntmps59
      go_wp2
      go_ret
      exact ⟨rfl, rfl⟩

theorem KSt.form {w : World} {S : Nat → Prop} {pt sl : Value} {st : KS} (h : KSt w S pt sl st) : ∃ P A n c, pt = .pointer P ∧ sl = .slice A n c := by
  obtain ⟨h1, h2⟩ := h
  have a : ∃ P, pt = .pointer P := by
    cases hk : st.1 with
    | none => rw [hk] at h1; exact ⟨_, h1⟩
    | some k => rw [hk] at h1; obtain ⟨b, h1, _⟩ := h1; exact ⟨_, h1⟩
  have b : ∃ A n c, sl = .slice A n c := by
    cases hk : st.2 with
    | none => rw [hk] at h2; exact ⟨_, _, _, h2⟩
    | some k => rw [hk] at h2; obtain ⟨b, o, c, h2, _⟩ := h2; exact ⟨_, _, _, h2⟩
  obtain ⟨P, a⟩ := a
  obtain ⟨A, n, c, b⟩ := b
  exact ⟨P, A, n, c, a, b⟩
theorem PKRequired_calls {w : World} (hN : IsErr w 12) (g : Nat) (T : TypeId) (pt sl : Value) (st : KS) (hb : Blk w g #[pt, sl] T) {S : Nat → Prop} (hs : KSt w S pt sl st) :
    Calls Tryz.prog 46 #[.pointer (some ⟨g, 0, none⟩)] w fun e w' => ReqO st e ∧ Kp no w w' := by
  obtain ⟨P, A, n, c, rfl, rfl⟩ := hs.form
  have c0 := hb.cell 0
  have c1 := hb.cell 1
  have hk : Kp no w (w.alloc (.cells #[.pointer P, .slice A n c] 130)) := (Kp.refl _ _).alloc _
  have D := Lib.hid (krequired_calls (hN.keepN hk) w.heap.size 130 _ _ st (Blk.new _ _ _) (hs.keepN hk))
  go_enter Tryz.func46, Tryz.ntmps46
  go_wp2_with fail
  refine D.out.mono ?_
  rintro e w' ⟨he, rfl⟩
  have hfe : e = .returned .nilIface ∨ Bad e := by
    unfold ReqO at he
    split at he
    · exact .inl he
    · exact .inr he
  rcases hfe with rfl | ⟨t, v, rfl⟩
  all_goals
    go_wp2
    go_ret
    exact ⟨he, hk⟩

/-- What Merge leaves in a public key. -/
theorem PKMerge_calls {w : World} {A : Option Addr} {n c : Nat} {l : List Int} (h : Rd w A n c l) (hn : n ≤ 1099511627776) (hE : PErrs w) (hN : IsErr w 11)
    (S : Nat → Prop) (g : Nat) (T : TypeId) (hsz : 13 ≤ w.heap.size) (hSg : S g) (hSl : ∀ i, S i → i < w.heap.size) (pt sl : Value) (st : KS) (hb : Blk w g #[pt, sl] T) (hlo : Lo w.heap.size A) (hs : KSt w S pt sl st) :
    Calls Tryz.prog 45 #[.pointer (some ⟨g, 0, none⟩), .slice A n c] w (KMg w S g T l st) := by
  obtain ⟨P, A1, n1, c1, rfl, rfl⟩ := hs.form
  have k0 := hb.cell 0
  have k1 := hb.cell 1
  have hlt := hb.lt
  have hk : Kp no w (w.alloc (.cells #[.pointer P, .slice A1 n1 c1] 130)) := (Kp.refl _ _).alloc _
  have D := Lib.hid (kmerge_calls (h.keepN hk) hn (hE.keepN hk) (hN.keepN hk) (fun i => S i ∨ i = w.heap.size) w.heap.size 130 hsz (.inr rfl) (fun i hi => by simp; rcases hi with hi | hi; have := hSl i hi; omega; omega) _ _ st (Blk.new _ _ _) (fun a ha => by have := hlo a ha; show ¬ _ = _; omega) ((hs.mono (fun i hi h => by rcases h with h | h; exact h; omega)).keepN hk))
  go_enter Tryz.func45, Tryz.ntmps45
  go_wp2_with fail
  refine D.out.mono ?_
  rintro e w2 ⟨hk2, pt2, sl2, st2, hb2, hs2, hF⟩
  obtain ⟨P2, A2, n2, c2, rfl, rfl⟩ := hs2.form
  have m0 := hb2.cell 0
  have m1 := hb2.cell 1
  have hb3 : Blk w2 g #[.pointer P, .slice A1 n1 c1] T := (hb.keepN hk).keep hk2 (by show ¬ g = _; omega)
  have q0 := hb3.cell 0
  have q1 := hb3.cell 1
  have q2 := hb3.free 0
  have q3 := hb3.free 1
  have hfe : e = .returned .nilIface ∨ Bad e := by
    unfold Fin at hF
    split at hF
    · exact .inl hF.1
    · exact .inr hF
    · exact hF
  have HF := Lib.hid hF
  clear hF
  rcases hfe with rfl | ⟨t, v, rfl⟩
  all_goals
    have hkA : Kp (· = g) w w2 := (hk.mono (fun i _ h => h.elim)).trans hk2 (fun i hi h => by omega)
    have hkB : Kp (· = g) w2 ((w2.setCell ⟨g, 0, none⟩ (.pointer P2)).setCell ⟨g, 1, none⟩ (.slice A2 n2 c2)) :=
      ((Kp.refl (· = g) w2).setCell (p := ⟨g, 0, none⟩) (fun _ => rfl) _).setCell (p := ⟨g, 1, none⟩) (fun _ => rfl) _
    have hb4 := (hb3.set 0 (.pointer P2)).set 1 (.slice A2 n2 c2)
    have hs3 := (hs2.mono (S' := S) (fun i hi h => .inl h)).keep hkB (fun i h => h ▸ hSg)
    go_wp2_with fail
    go_ret
    exact ⟨hkA.trans hkB (fun _ _ h => h), _, _, _, hb4, hs3, HF.out⟩
end Go.Proofs.YtddofkeajinjpaaGreatDoor
