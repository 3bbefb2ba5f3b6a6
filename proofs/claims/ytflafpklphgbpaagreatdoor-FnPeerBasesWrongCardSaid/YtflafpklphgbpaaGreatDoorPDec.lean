/- peer.Decode of texts in base 58. -/
import Derived.Test.YtflafpklphgbpaaGreatDoorDecW
import Derived.Test.YtflafpklphgbpaaGreatDoorDgX
import Derived.Test.YtflafpklphgbpaaGreatDoorMhX
import Derived.RegionTactic
import Derived.Deep.QuietTactic
import Derived.BigQuiet
namespace Go.Proofs.YtflafpklphgbpaaGreatDoor
open Go Go.RowKit
set_option linter.unusedVariables false
set_option linter.unusedSimpArgs false
set_option maxRecDepth 100000

theorem Tryz.und_mhX : Tryz.prog.underlying 52 = some (.slice 5) := by kernel_rfl
theorem str_take (l : List Int) (k : Nat) (hk : k ≤ l.length) : (strOfNums l).extract 0 k = strOfNums (l.take k) := by
  apply ByteArray.ext
  apply Array.toList_inj.1
  simp [ByteArray.data_extract, strOfNums_data]
theorem slite_calls {w : World} (l p : List Int) (hl : Byt l) (hp : Byt p) (hn : l.length ≤ 1099511627776) (hm : p.length ≤ 100) :
    Calls Tryz.prog 32 #[.string (strOfNums l), .string (strOfNums p)] w fun e w' => e = .returned (.bool (decide (l.take p.length = p))) ∧ w' = w := by
  have hs : (strOfNums l).size = l.length := strOfNums_size l
  have hq : (strOfNums p).size = p.length := strOfNums_size p
  by_cases hle : p.length ≤ l.length
  · have hB := strOfNums_beq (hl.take p.length) hp
    rw [← str_take l p.length hle, ← hq] at hB
    rw [← hq]
    generalize decide (l.take (strOfNums p).size = p) = d at *
    have hge : (strOfNums p).size ≤ (strOfNums l).size := by omega
    have h1 : (strOfNums l).size ≤ 1099511627776 := by omega
    have h2 : (strOfNums p).size ≤ 100 := by omega
    clear hs hq
    generalize strOfNums l = s at *
    generalize strOfNums p = q at *
    go_enter Tryz.func32, Tryz.ntmps32
    go_wp2
    go_ret
    exact ⟨rfl, rfl⟩
  · have hd : decide (l.take p.length = p) = false := decide_eq_false (fun h => by
      have := congrArg List.length h
      rw [List.length_take] at this; omega)
    rw [hd]
    have hge : ¬ (strOfNums p).size ≤ (strOfNums l).size := by omega
    have h1 : (strOfNums l).size ≤ 1099511627776 := by omega
    have h2 : (strOfNums p).size ≤ 100 := by omega
    have hge2 : decide ((strOfNums p).size ≤ (strOfNums l).size) = false := decide_eq_false hge
    clear hs hq hd hge
    generalize strOfNums l = s at *
    generalize strOfNums p = q at *
    go_enter Tryz.func32, Tryz.ntmps32
    go_wp2
    go_ret
    exact ⟨rfl, rfl⟩
theorem hasPre_calls {w : World} (l p : List Int) (hl : Byt l) (hp : Byt p) (hn : l.length ≤ 1099511627776) (hm : p.length ≤ 100) {d : Bool} (hd : decide (l.take p.length = p) = d) :
    Calls Tryz.prog 22 #[.string (strOfNums l), .string (strOfNums p)] w fun e w' => e = .returned (.bool d) ∧ w' = w := by
  have D := slite_calls (w := w) l p hl hp hn hm
  rw [hd] at D
  have D := Lib.hid D
  clear hd
  generalize strOfNums l = s at *
  generalize strOfNums p = q at *
  go_enter Tryz.func22, Tryz.ntmps22
  go_wp2_with (first | (go_at_call 32; refine D.out.mono ?_; rintro e w2 ⟨rfl, rfl⟩))
  go_ret
  exact ⟨rfl, rfl⟩

theorem fast58_calls {w : World} {D R : List Int} (hT : Txt D R) (h1 : 1 ≤ (D.map sign ++ R).length) (hn : (D.map sign ++ R).length ≤ 300) :
    Calls Tryz.prog 41 #[.string (strOfNums (D.map sign ++ R))] w (Dec58 w D R) := by
  have D1 := Lib.hid (BTCD_calls (w := w))
  have D2 := Lib.hid (fun W gA (hA : W.cell? ⟨gA, 128, none⟩ = some (.int .u8 49)) (hTab : ∀ i : Nat, i < 128 → W.cell? ⟨gA, i, none⟩ = some (.int .i8 ((tab58 58).getD i 0))) => decode58_calls (w := W) hT h1 hn hA hTab)
  generalize strOfNums (D.map sign ++ R) = s at *
  clear hT h1 hn
  go_enter Tryz.func41, Tryz.ntmps41
  go_wp2_with (fail)
  refine D1.out.mono ?_
  rintro e w1 ⟨g, rfl, _, _, hA, hTab, k1⟩
  have D3 := Lib.hid (D2.out w1 g (hA 0 (by omega)) hTab)
  clear hA hTab D2
  go_wp2_with (fail)
  refine D3.out.mono ?_
  rintro e w2 ⟨k2, hy, hn⟩
  by_cases hR : R = []
  · obtain ⟨A, n, c, rfl, hRd⟩ := hy hR
    have HR := Lib.hid hR
    have HRd := Lib.hid hRd
    clear hR hy hn hRd
    go_wp2
    go_ret2
    exact ⟨k1.then k2, fun _ => ⟨A, n, c, rfl, HRd.out⟩, fun h => absurd HR.out h⟩
  · obtain ⟨t, x, rfl⟩ := hn hR
    have HR := Lib.hid hR
    clear hR hy hn
    go_wp2
    go_ret2
    exact ⟨k1.then k2, fun h => absurd h HR.out, fun _ => ⟨t, x, rfl⟩⟩
theorem dec58_calls {w : World} {D R : List Int} (hT : Txt D R) (h1 : 1 ≤ (D.map sign ++ R).length) (hn : (D.map sign ++ R).length ≤ 300) :
    Calls Tryz.prog 33 #[.string (strOfNums (D.map sign ++ R))] w (Dec58 w D R) := by
  have D1 := Lib.hid (fast58_calls (w := w) hT h1 hn)
  generalize strOfNums (D.map sign ++ R) = s at *
  clear hT h1 hn
  go_enter Tryz.func33, Tryz.ntmps33
  go_wp2_with (fail)
  refine D1.out.mono ?_
  rintro e w2 ⟨k2, hy, hn⟩
  by_cases hR : R = []
  · obtain ⟨A, n, c, rfl, hRd⟩ := hy hR
    have HR := Lib.hid hR
    have HRd := Lib.hid hRd
    clear hR hy hn hRd
    go_wp2
    go_ret2
    exact ⟨k2, fun _ => ⟨A, n, c, rfl, HRd.out⟩, fun h => absurd HR.out h⟩
  · obtain ⟨t, x, rfl⟩ := hn hR
    have HR := Lib.hid hR
    clear hR hy hn
    go_wp2
    go_ret2
    exact ⟨k2, fun h => absurd h HR.out, fun _ => ⟨t, x, rfl⟩⟩
/-- Either these bytes, or an error. -/
def OrErr (w : World) (l : List Int) (e : Ending) (w' : World) : Prop := Kp no w w' ∧ ((∃ A n c, e = .returned (.tuple #[.slice A n c, Value.nilIface]) ∧ Rd w' A n c l) ∨ (∃ A n c t x, e = .returned (.tuple #[.slice A n c, .iface t x])))
structure QErrs (w : World) : Prop where
  m : MErrs w
  a : IsErr w 0
theorem QErrs.keepN {w w' : World} (h : QErrs w) (k : Kp no w w') : QErrs w' := ⟨h.m.keepN k, h.a.keepN k⟩
theorem from58_yes {w : World} {D : List Int} (hD : DgB 58 D) (h1 : 1 ≤ D.length) (hn : D.length ≤ 300) (hQ : QErrs w) :
    Calls Tryz.prog 23 #[.string (strOfNums (D.map sign))] w (OrErr w (decB 58 D)) := by
  have D1 := dec58_calls (w := w) (D := D) (R := []) ⟨hD, (fun _ h => by cases h), (fun _ _ h => by cases h)⟩ (by simpa using h1) (by simpa using hn)
  rw [List.append_nil] at D1
  have D1 := Lib.hid D1
  generalize strOfNums (D.map sign) = s at *
  have hdl := decB_len 58 D
  obtain ⟨l, hl⟩ : ∃ l, l = decB 58 D := ⟨_, rfl⟩
  rw [← hl] at hdl ⊢
  have HL := Lib.hid hl
  clear h1 hD hl
  go_enter Tryz.func23, Tryz.ntmps23
  go_wp2_with (fail)
  refine D1.out.mono ?_
  rintro e w2 ⟨k2, hy, _⟩
  obtain ⟨A, n, c, rfl, R⟩ := hy rfl
  rw [← HL.out] at R
  have hnl := R.len
  by_cases hm : IsMH l
  · have E1 := Lib.hid (Cast_yes R (hQ.keepN k2).m (by omega) hm)
    have HR := Lib.hid R
    clear R hm hnl
    go_wp2_with (fail)
    refine E1.out.mono ?_
    rintro e w3 ⟨rfl, k3⟩
    go_wp2
    go_ret2
    exact ⟨k2.then k3, .inl ⟨A, n, c, rfl, HR.out.keepN k3⟩⟩
  · have E1 := Lib.hid (Cast_no R (hQ.keepN k2).m (by omega) hm)
    clear R hm hnl
    go_wp2_with (fail)
    refine E1.out.mono ?_
    rintro e w3 ⟨A', t, x, rfl, k3⟩
    go_wp2
    go_ret2
    exact ⟨k2.then k3, .inr ⟨A', 0, 0, t, x, rfl⟩⟩
theorem from58_no {w : World} {D R : List Int} (hT : Txt D R) (hR : R ≠ []) (hn : (D.map sign ++ R).length ≤ 300) (hQ : QErrs w) :
    Calls Tryz.prog 23 #[.string (strOfNums (D.map sign ++ R))] w fun e w' => (∃ A n c t x, e = .returned (.tuple #[.slice A n c, .iface t x])) ∧ Kp no w w' := by
  have D1 := Lib.hid (dec58_calls (w := w) (D := D) (R := R) hT (by cases R with | nil => exact absurd rfl hR | cons b r => simp only [List.length_append, List.length_cons]; omega) hn)
  generalize strOfNums (D.map sign ++ R) = s at *
  have HR := Lib.hid hR
  clear hn hT hR
  go_enter Tryz.func23, Tryz.ntmps23
  go_wp2_with (fail)
  refine D1.out.mono ?_
  rintro e w2 ⟨k2, _, hy⟩
  obtain ⟨t, x, rfl⟩ := hy HR.out
  obtain ⟨te, xe, hce⟩ := (hQ.keepN k2).a
  have hce2 := ((Kp.refl no w2).alloc (.cells #[] 5)).cellN hce
  clear hy
  go_wp2_with (fail)
  go_region
  all_goals
    go_wp2
    go_ret2
    exact ⟨⟨_, _, _, _, _, rfl⟩, by first | exact (k2.alloc _).drew | exact (k2.drew).alloc _ | exact k2.drew⟩
/-- How a text begins. -/
def Beg (T : List Int) : Prop := (∃ r, T = 81 :: 109 :: r) ∨ (∃ r, T = 49 :: r)
theorem Beg.pre {T : List Int} (h : Beg T) : decide (T.take 2 = [81, 109]) = true ∨ (decide (T.take 2 = [81, 109]) = false ∧ decide (T.take 1 = [49]) = true) := by
  rcases h with ⟨r, rfl⟩ | ⟨r, rfl⟩
  · left; simp
  · right; simp
/-- The ID, or an error. -/
def IdOr (w : World) (P : List Int → Prop) (e : Ending) (w' : World) : Prop := Kp no w w' ∧ ((∃ l, P l ∧ Byt l ∧ l.length ≤ 1000 ∧ e = .returned (.tuple #[.string (strOfNums l), Value.nilIface])) ∨ (∃ t x, e = .returned (.tuple #[.string ⟨#[]⟩, .iface t x])))
theorem peerDec58 {w : World} {T : List Int} (hB : Byt T) (hg : Beg T) (hn : T.length ≤ 300) (P : List Int → Prop)
    (hF : ∀ W, Kp no w W → Calls Tryz.prog 23 #[.string (strOfNums T)] W fun e w' => Kp no W w' ∧ ((∃ A n c l, P l ∧ l.length ≤ 1000 ∧ e = .returned (.tuple #[.slice A n c, Value.nilIface]) ∧ Rd w' A n c l) ∨ (∃ A n c t x, e = .returned (.tuple #[.slice A n c, .iface t x])))) :
    Calls Tryz.prog 12 #[.string (strOfNums T)] w (IdOr w P) := by
  have E1 := fun d hd => Lib.hid (hasPre_calls (w := w) T [81, 109] hB (fun x hx => by simp at hx; omega) (by omega) (by simp) (d := d) hd)
  have E2 := fun d hd => Lib.hid (hasPre_calls (w := w) T [49] hB (fun x hx => by simp at hx; omega) (by omega) (by simp) (d := d) hd)
  have E3 := Lib.hid (hF w (Kp.refl _ _))
  have E4 := fun W s => Lib.hid (errNewX (w := W) s)
  rw [show strOfNums [81, 109] = ⟨#[81, 109]⟩ from rfl] at E1
  rw [show strOfNums [49] = ⟨#[49]⟩ from rfl] at E2
  have hp := hg.pre
  generalize strOfNums T = s at *
  clear hF hg hB hn
  have fin : ∀ {a : Prop}, a → a := fun h => h
  rcases hp with hp | ⟨hp, hq⟩
  · have F1 := E1 true hp
    clear E1 E2 hp
    go_enter Tryz.func12, Tryz.ntmps12
    go_wp2_with (fail)
    refine F1.out.mono ?_
    rintro e w3 ⟨rfl, rfl⟩
    go_wp2_with (fail)
    refine E3.out.mono ?_
    rintro e w4 ⟨k4, hy⟩
    rcases hy with ⟨A, n, c, l, hP, hl, rfl, R⟩ | ⟨A, n, c, t, x, rfl⟩
    · have hcv := R.strT Tryz.und_mhX Tryz.und_ID
      have HR := Lib.hid (And.intro hP (And.intro R.byt hl))
      clear R hP hl
      go_wp2
      go_ret2
      exact ⟨k4, .inl ⟨l, HR.out.1, HR.out.2.1, HR.out.2.2, rfl⟩⟩
    · go_wp2_with (first | (go_at_call 24; refine (E4 _ _).out.mono ?_; rintro e w5 ⟨t5, x5, rfl, k5⟩))
      go_ret2
      exact ⟨k4.then k5, .inr ⟨t5, x5, rfl⟩⟩
  · have F1 := E1 false hp
    have F2 := E2 true hq
    clear E1 E2 hp hq
    go_enter Tryz.func12, Tryz.ntmps12
    go_wp2_with (fail)
    refine F1.out.mono ?_
    rintro e w3 ⟨rfl, rfl⟩
    go_wp2_with (fail)
    refine F2.out.mono ?_
    rintro e w3 ⟨rfl, rfl⟩
    go_wp2_with (fail)
    refine E3.out.mono ?_
    rintro e w4 ⟨k4, hy⟩
    rcases hy with ⟨A, n, c, l, hP, hl, rfl, R⟩ | ⟨A, n, c, t, x, rfl⟩
    · have hcv := R.strT Tryz.und_mhX Tryz.und_ID
      have HR := Lib.hid (And.intro hP (And.intro R.byt hl))
      clear R hP hl
      go_wp2
      go_ret2
      exact ⟨k4, .inl ⟨l, HR.out.1, HR.out.2.1, HR.out.2.2, rfl⟩⟩
    · go_wp2_with (first | (go_at_call 24; refine (E4 _ _).out.mono ?_; rintro e w5 ⟨t5, x5, rfl, k5⟩))
      go_ret2
      exact ⟨k4.then k5, .inr ⟨t5, x5, rfl⟩⟩
/-- .. as bytes. -/
def BytOr (w : World) (P : List Int → Prop) (e : Ending) (w' : World) : Prop := Kp no w w' ∧ ((∃ A n c l, P l ∧ e = .returned (.tuple #[.slice A n c, .bool true]) ∧ Rd w' A n c l) ∨ e = .returned (.tuple #[.slice none 0 0, .bool false]))
theorem pdecode_of {w : World} {s : ByteArray} {P : List Int → Prop} (h : Calls Tryz.prog 12 #[.string s] w (IdOr w P)) :
    Calls Tryz.prog 6 #[.string s] w (BytOr w P) := by
  have D := Lib.hid h
  clear h
  go_enter Tryz.func6, Tryz.ntmps6
  go_wp2_with (fail)
  refine D.out.mono ?_
  rintro e w3 ⟨k3, hy⟩
  rcases hy with ⟨l, hP, hb, hl, rfl⟩ | ⟨t, x, rfl⟩
  · obtain ⟨c4, w4, hcv, R4, k4, _⟩ := str_bytes (w := w3) hb (by omega) Tryz.und_ID Tryz.und_bytes
    have HR := Lib.hid R4
    have HP := Lib.hid hP
    generalize strOfNums l = q at *
    clear R4 hP hb hl
    go_wp2
    go_ret2
    exact ⟨k3.then k4, .inl ⟨_, _, _, l, HP.out, rfl, HR.out⟩⟩
  · go_wp2
    go_ret2
    exact ⟨k3, .inr rfl⟩
end Go.Proofs.YtflafpklphgbpaaGreatDoor
