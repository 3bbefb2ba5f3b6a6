/- Secret keys: Unmarshal, SecretOf. -/
import Derived.Test.YtipleaojejbkpaaDoorKeyE
namespace Go.Proofs.YtipleaojejbkpaaDoor
open Go Go.RowKit
set_option linter.unusedVariables false
set_option linter.unusedSimpArgs false
set_option maxRecDepth 100000

theorem SKUnmarshal_calls {w : World} {A : Option Addr} {n c : Nat} {l : List Int} (h : Rd w A n c l) (hn : n ≤ 1099511627776) (hE : KErrs w)
    (S : Nat → Prop) (g : Nat) (T : TypeId) (hg : 10 ≤ g) (hSg : S g) (hSl : ∀ i, S i → i < w.heap.size) (v0 v1 : Value) (hb : Blk w g #[v0, v1] T) (hlo : Lo w.heap.size A) :
    Calls Tryd.prog 55 #[.pointer (some ⟨g, 0, none⟩), .slice A n c] w (UM w S g T l) := by
  have hlt := hb.lt
  have hk : Kp no w (w.alloc (.cells #[.pointer none, .slice none 0 0] 119)) := (Kp.refl _ _).alloc _
  have hE1 := hE.keepN hk
  have D := Lib.hid (kmerge_calls (h.keepN hk) hn hE1.p hE1.n (fun i => S i ∨ i = w.heap.size) w.heap.size 119 hE.sz (.inr rfl) (fun i hi => by simp; rcases hi with hi | hi; have := hSl i hi; omega; omega) _ _ (none, none) (Blk.new _ _ _) (fun a ha => by have := hlo a ha; show ¬ _ = _; omega) ⟨rfl, rfl⟩)
  go_enter Tryd.func55, Tryd.ntmps55
  go_wp2_with fail
  refine D.out.mono ?_
  rintro e w2 ⟨hk2, pt2, sl2, st2, hb2, hs2, hF⟩
  obtain ⟨P2, A2, n2, c2, rfl, rfl⟩ := hs2.form
  have m0 := hb2.cell 0
  have m1 := hb2.cell 1
  have hb3 : Blk w2 g #[v0, v1] T := (hb.keepN hk).keep hk2 (by show ¬ g = _; omega)
  have q0 := hb3.cell 0
  have q1 := hb3.cell 1
  have q2 := hb3.free 0
  have q3 := hb3.free 1
  have hfe : e = .returned .nilIface ∨ Bad e := by
    unfold Fin at hF
    split at hF
    · exact .inl hF.1
    · exact .inr hF
    · exact hF
  have HF := Lib.hid hF
  clear hF
  have hsz2 := hk2.size
  have hkA : Kp (· = g) w w2 := (hk.mono (fun i _ h => h.elim)).trans hk2 (fun i hi h => by omega)
  have hkB : Kp (· = g) w2 ((w2.setCell ⟨g, 0, none⟩ (.pointer P2)).setCell ⟨g, 1, none⟩ (.slice A2 n2 c2)) :=
    ((Kp.refl (· = g) w2).setCell (p := ⟨g, 0, none⟩) (fun _ => rfl) _).setCell (p := ⟨g, 1, none⟩) (fun _ => rfl) _
  have hb4 := (hb3.set 0 (.pointer P2)).set 1 (.slice A2 n2 c2)
  have hs3 := (hs2.mono (S' := S) (fun i hi h => .inl h)).keep hkB (fun i h => h ▸ hSg)
  have hkC := hkA.trans hkB (fun _ _ h => h)
  rcases hfe with rfl | ⟨t, v, rfl⟩
  · have hb5 : Blk ((w2.setCell ⟨g, 0, none⟩ (.pointer P2)).setCell ⟨g, 1, none⟩ (.slice A2 n2 c2)) w.heap.size #[.pointer P2, .slice A2 n2 c2] 119 := hb2.keep hkB (by show ¬ _ = g; omega)
    have D2 := Lib.hid (krequired_calls (w := (w2.setCell ⟨g, 0, none⟩ (.pointer P2)).setCell ⟨g, 1, none⟩ (.slice A2 n2 c2)) ((hE.m.keep hkA (by show ¬ _ = g; omega)).keep hkB (by show ¬ _ = g; omega)) w.heap.size 119 _ _ _ hb5 hs3)
    go_wp2_with fail
    refine D2.out.mono ?_
    rintro e w3 ⟨he, rfl⟩
    have F := KFin.of HF.out rfl he
    have hfe : e = .returned .nilIface ∨ Bad e := F.1.imp (·.1) (fun h => h)
    clear he
    rcases hfe with rfl | ⟨t, v, rfl⟩
    all_goals
      go_wp2
      go_ret
      exact ⟨hkC, _, _, _, hb4, hs3, F⟩
  · have F := KFin.ofBad HF.out ⟨t, v, rfl⟩
    go_wp2
    go_ret
    exact ⟨hkC, _, _, _, hb4, hs3, F⟩

set_option maxHeartbeats 8000000 in
theorem SecretOf_calls {w : World} {A : Option Addr} {n c : Nat} {l : List Int} (h : Rd w A n c l) (hn : n ≤ 1099511627776) (hE : KErrs w) :
    Calls Tryd.prog 23 #[.slice A n c] w (KOf w l) := by
  have hsz := hE.sz
  have k1 : Kp no w (w.alloc (.cells #[.pointer none, .slice none 0 0] 91)) := (Kp.refl _ _).alloc _
  have D1 := Lib.hid (Clone_calls (h.keepN k1) (by omega))
  have hl := Lib.hid h.len
  go_enter Tryd.func23, Tryd.ntmps23
  go_wp2_with (first | (go_at_call 22; refine D1.out.mono ?_; rintro e w2 ⟨A2, c2, rfl, hM2⟩))
  have k2 := k1.then hM2.kp
  have hE2 := hE.keepN k2
  have hb2 := (Blk.new w #[.pointer none, .slice none 0 0] 91).keepN hM2.kp
  have D2 := Lib.hid (SKUnmarshal_calls hM2.rd (by rw [hl.out]; exact hn) hE2 (· = w.heap.size) w.heap.size 91 hsz rfl (fun i hi => by have := k2.size; have := hM2.kp.size; simp at this; omega) _ _ hb2 hM2.lo)
  refine D2.out.mono ?_
  rintro e w3 ⟨hk3, pt, sl, st, hb3, hs3, hF⟩
  have k3 : Kp no w w3 := k2.trans hk3 (fun i hi h => by omega)
  rcases hF.1 with ⟨rfl, hok⟩ | ⟨t, v, rfl⟩
  · obtain ⟨k, d, rfl⟩ := okS_some hok
    have R := Lib.hid (KRes.ofOk hF)
    obtain ⟨b1, hpt, _, hc1, hr1, hr2⟩ := hs3.pt
    obtain ⟨b2, o2, c3, hsl, _, _, hdn, hR2⟩ := hs3.dt
    have kd : Kp no w3 w3.drew := (Kp.refl _ _).drew
    have D4 := Lib.hid (Clone_calls (hR2.keepN kd) (by omega))
    subst hsl
    subst hpt
    have q0 := hb3.cell 0
    have q1 := hb3.cell 1
    clear hF hok
    go_wp2_with fail
    go_region_with (first | (go_at_call 22; refine D4.out.mono ?_; rintro e w4 ⟨A4, c4, rfl, hM4⟩; have kk : Kp no w3 w4 := kd.then hM4.kp; have z0 := (hb3.keepN kk).cell 0; have z1 := kk.cellN hc1))
    all_goals
      have k4 : Kp no w w4 := k3.then (kd.then hM4.kp)
      go_wp2
      go_ret3
      exact ⟨k4, k, A4, c4, d, true, rfl, hM4.rd, hr1, hr2, R.out⟩
  · have R := Lib.hid (KRes.ofBad hF ⟨t, v, rfl⟩ 0 [])
    clear hF
    go_wp2
    go_ret3
    exact ⟨k3, 0, none, 0, [], false, rfl, Rd.nil _, by omega, by omega, R.out⟩
end Go.Proofs.YtipleaojejbkpaaDoor
