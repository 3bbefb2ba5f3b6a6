/- A torn address, plain. FnKeyAddressTorn walked. -/
import Derived.Test.YtipleaojejbkpaaDoorRcC
import Derived.Test.YtipleaojejbkpaaDoorPlain
import Derived.Test.YtipleaojejbkpaaDoorRcD
import Derived.Test.YtipleaojejbkpaaDoorField
import Derived.Test.YtipleaojejbkpaaDoorRead
namespace Go.Proofs.YtipleaojejbkpaaDoor
open Go
set_option linter.unusedVariables false
set_option linter.unusedSimpArgs false
set_option maxRecDepth 100000

theorem other_short (l : List Int) (h1 : l.length ≤ 60) : other 1 0 l false = vint 10 ++ (vint (l.length : Int) ++ l) := by simp [other]
theorem torn_bsz {l : List Int} (h1 : l.length ≤ 60) {i : Nat} (hi : i < l.length + 1) : bsz (((l.length : Int) :: l).take i) = none := by
  cases i with
  | zero => simp [bsz, rv]
  | succ i =>
    have h := rv_vint (l.length : Int) (l.take i) (by omega) (by omega)
    rw [vint_1 _ (by omega)] at h
    have e : ((l.length : Int) :: l).take (i + 1) = [(l.length : Int)] ++ l.take i := by simp
    rw [e]
    unfold bsz
    rw [h]
    have hlen : ([(l.length : Int)] ++ l.take i).length = i + 1 := by simp; omega
    simp only [hlen, List.length_cons, List.length_nil]
    split
    · rename_i hh
      omega
    · rfl
theorem torn_bad {l : List Int} {j : Nat} (hb : Byt l) (h1 : l.length ≤ 60) (j1 : 1 ≤ j) (j2 : j < l.length + 2) : wf ((other 1 0 l false).take j) = .bad := by
  obtain ⟨i, rfl⟩ : ∃ i, j = i + 1 := ⟨j - 1, by omega⟩
  have e : (other 1 0 l false).take (i + 1) = vint (1 * 8 + 2) ++ ((l.length : Int) :: l).take i := by
    rw [other_short l h1, vint_1 10 (by omega), vint_1 (l.length : Int) (by omega), vint_1 (1 * 8 + 2) (by omega)]
    simp
  have hbb : Byt ((other 1 0 l false).take (i + 1)) := (other_byt (by omega) (by omega) (by omega) (by omega) hb (by omega)).take _
  rw [e] at hbb ⊢
  refine (From.start _).bad hbb (by have := (vint_len (1 * 8 + 2)).1; rw [List.length_append]; omega) ?_
  rw [hd_of (tag_of 1 2 _ (by omega) (by omega) (by omega) (by omega)) (by omega), drop_app, hdv_bytes_none (torn_bsz h1 (by omega))]
theorem RRes_torn {x : RS} (hx : ROk x) {u : List Int} (hu : Byt u) (hn : u.length ≤ 1000) (hw : wf u = .bad) {y : RV} {ok : Bool} (h : RRes (rb x ++ other 3 0 u false) y ok) : ok = false := by
  have hob : Byt (other 3 0 u false) := other_byt (by omega) (by omega) (by omega) (by omega) hu (by omega)
  have F1 := From_rb (From.start (rb x ++ other 3 0 u false)) hx hob
  have e : other 3 0 u false = vint (3 * 8 + 2) ++ (vint (u.length : Int) ++ (u ++ [])) := by simp [other]
  have F2 := F1.step (f := ⟨3, 2, 0, u⟩) (r := []) hob (by have := other_pos 3 0 u false; omega) (by rw [e]; exact hd_bytes 3 u [] (by omega) (by omega) (by omega))
  have hd := F2.done
  rw [List.nil_append] at hd
  unfold RRes at h
  rw [whole_ok hd, fo_app, fo_rbf hx] at h
  simp only [fo_one, rstep_3] at h
  rw [show whole astep u [] = .bad from by unfold whole; rw [hw]] at h
  exact h
end Go.Proofs.YtipleaojejbkpaaDoor
namespace Go.Proofs.YtipleaojejbkpaaDoor
open Go Go.RowKit
set_option linter.unusedVariables false
set_option linter.unusedSimpArgs false
set_option maxRecDepth 100000

theorem ROk_of {w : World} {x : RV} (hx : x.At w) (hs0 : 0 ≤ x.seq) (hs1 : x.seq < 18446744073709551616) (hf : x.d.length ≤ 300 ∧ x.L.length ≤ 20 ∧ ∀ a ∈ x.L, a.length ≤ 300) : ROk ⟨x.d, x.seq, x.L⟩ := by
  refine ⟨hx.r.byt, hf.1, hs0, hs1, fun a ha => ?_, hf.2.2, hf.2.1⟩
  obtain ⟨j, hj, rfl⟩ := List.getElem_of_mem ha
  have := flat_byt hx.s j hj
  rwa [List.getD_eq_getElem?_getD, List.getElem?_eq_getElem hj] at this

set_option maxHeartbeats 8000000 in
theorem fnKeyAddressTorn_calls {w : World} {A : Option Addr} {n c : Nat} {l : List Int} (x : RV) (t : Int) (hx : x.At w ∧ 0 ≤ x.seq ∧ x.seq < 18446744073709551616) (h : Rd w A n c l) (ht : 0 ≤ t ∧ t < 256) (hE : RErrs w) :
    Calls Tryd.prog 10 #[.agg x.cells, .slice A n c, .int .u8 t] w (LawOk w) := by
  obtain ⟨hx, hs0, hs1⟩ := hx
  obtain rfl := h.len
  have hmax := h.max
  have hcap := h.cap
  have k0 : Kp no w (w.alloc (.cells x.cells 47)) := (Kp.refl _ _).alloc _
  have hb0 := Blk.new w x.cells 47
  have D1 := Lib.hid (zzFits13_calls x (hx.keepN k0))
  have HOK := Lib.hid (ROk_of hx hs0 hs1)
  obtain ⟨A0, c0, d0, q0, B0, e0, L0⟩ := x
  simp only [RV.cells] at *
  generalize hW : w.alloc (.cells #[.slice A0 d0.length c0, .int .u64 q0, .slice B0 L0.length e0] 47) = W0 at *
  have y0 := hb0.cell 0
  have y1 := hb0.cell 1
  have y2 := hb0.cell 2
  go_enter Tryd.func10, Tryd.ntmps10
  go_wp2_with (fail)
  refine D1.out.mono ?_
  rintro e w1 ⟨k1, b, rfl, hb⟩
  cases b with
  | false =>
    clear hb
    go_wp2
    go_ret
    exact ⟨rfl, k0.then k1⟩
  | true =>
    clear hb D1
    by_cases hbig : 2147483647 < (l.length : Int)
    · go_wp2
      go_ret
      exact ⟨rfl, k0.then k1⟩
    have k01 := k0.then k1
    have hb1 := hb0.keepN k1
    have z0 := hb1.cell 0
    have z1 := hb1.cell 1
    have z2 := hb1.cell 2
    have D2 := Lib.hid (recordFits_calls ⟨A0, c0, d0, q0, B0, e0, L0⟩ (hx.keepN k01))
    go_wp2_with (fail)
    refine D2.out.mono ?_
    rintro e w2 ⟨k2, b, rfl, hb⟩
    have k02 := k01.then k2
    have DL2 := Lib.hid (recordsLive_calls (hE.keepN k02))
    cases b with
    | false =>
      clear hb
      go_wp2_with (first | (go_at_call 32; refine DL2.out.mono ?_; rintro e w3 ⟨rfl, hk3⟩))
      go_ret
      exact ⟨rfl, k02.then hk3⟩
    | true =>
      have HFT := Lib.hid (hb rfl)
      clear hb D2
      by_cases hz : l.length = 0
      · have hzi : ((l.length : Int) == 0) = true := beq_iff_eq.2 (by omega)
        clear hbig
        go_wp2_with (first | (go_at_call 32; refine DL2.out.mono ?_; rintro e w3 ⟨rfl, hk3⟩))
        go_ret
        exact ⟨rfl, k02.then hk3⟩
      have hzi : ((l.length : Int) == 0) = false := beq_eq_false_iff_ne.2 (by omega)
      have hz1 : 1 ≤ l.length := by omega
      clear hz
      by_cases hm : 60 < (l.length : Int)
      · clear hbig
        go_wp2_with (first | (go_at_call 32; refine DL2.out.mono ?_; rintro e w3 ⟨rfl, hk3⟩))
        go_ret
        exact ⟨rfl, k02.then hk3⟩
      have hm2 : (l.length : Int) ≤ 60 := by omega
      have hm3 : decide (60 < (l.length : Int)) = false := by simp; omega
      clear hm hbig
      have D3 := Lib.hid (keyField_calls (h.keepN k02) (by omega) 1 (by omega) (by omega))
      have HBY := Lib.hid h.byt
      have hPl : (other 1 0 l false).length = l.length + 2 := by
        rw [other_short l (by omega), vint_1 10 (by omega), vint_1 (l.length : Int) (by omega)]; simp
      obtain ⟨P, hP⟩ : ∃ P, P = other 1 0 l false := ⟨_, rfl⟩
      rw [← hP] at D3 hPl
      have HP := Lib.hid hP
      have HPL := Lib.hid hPl
      have hPl1 : P.length ≤ 62 := by omega
      have hPl2 : 3 ≤ P.length := by omega
      clear hP hPl
      go_wp2_with (fail)
      refine D3.out.mono ?_
      rintro e w3 ⟨A3, c3, rfl, M3⟩
      have k03 := k02.then M3.kp
      have R3 := M3.rd
      obtain ⟨j, hj⟩ : ∃ j : Int, j = 1 + t % ((P.length : Int) - 1) := ⟨_, rfl⟩
      have hj0 : 1 ≤ j := by have := Int.emod_nonneg t (show (P.length : Int) - 1 ≠ 0 by omega); omega
      have hj1 : j < (P.length : Int) := by have := Int.emod_lt_of_pos t (show (0 : Int) < (P.length : Int) - 1 by omega); omega
      have R4 := R3.take j.toNat (by omega)
      have hcut2 := cutTo (P := Tryd.prog) Tryd.und_bytes Tryd.size_byte A3 P.length c3 .i64 j (by omega) (by omega) R3.cap
      have hcap3 := R3.cap
      have hmax3 := R3.max
      have g1 : IntKind.i64.wrap ((P.length : Int) - 1) = (P.length : Int) - 1 := IntWalk.i64_in _ (by omega)
      have g2 : t.tmod ((P.length : Int) - 1) = t % ((P.length : Int) - 1) := Int.tmod_eq_emod_of_nonneg ht.1
      have g3 : IntKind.i64.wrap (1 + t % ((P.length : Int) - 1)) = j := by rw [hj]; exact IntWalk.i64_in _ (by omega)
      have HJ := Lib.hid hj
      clear hj
      have b3 := hb1.keepN (k2.then M3.kp)
      have x0 := b3.cell 0
      have x1 := b3.cell 1
      have x2 := b3.cell 2
      have D4 := Lib.hid (sRecordBytes_calls ⟨A0, c0, d0, q0, B0, e0, L0⟩ (hx.keepN k03) hs0 hs1 HFT.out.1 HFT.out.2.2 HFT.out.2.1)
      have hrl := rb_len (HOK.out HFT.out)
      obtain ⟨Q, hQ⟩ : ∃ Q, Q = rb ⟨d0, q0, L0⟩ := ⟨_, rfl⟩
      rw [← hQ] at hrl
      simp only at D4
      rw [← hQ] at D4
      have HQ := Lib.hid hQ
      clear hQ
      have M3k := M3.kp
      clear M3 D3
      go_wp2_with (fail)
      refine D4.out.mono ?_
      rintro e w4 ⟨A4, c4, rfl, M4⟩
      obtain ⟨U, hU⟩ : ∃ U, U = P.take j.toNat := ⟨_, rfl⟩
      have R4' := R4.keepN M4.kp
      rw [← hU] at R4'
      have hUn : j.toNat ≤ 100 := by omega
      have D5 := Lib.hid (keyField_calls R4' (by omega) 3 (by omega) (by omega))
      have HU := Lib.hid hU
      have HUB := Lib.hid R4'.byt
      have hUl : U.length ≤ 100 := by have := R4'.len; omega
      clear hU R4 R4' D4
      go_wp2_with (fail)
      refine D5.out.mono ?_
      rintro e w5 ⟨A5, c5, rfl, M5⟩
      have hol : (other 3 0 U false).length ≤ 400 := by
        have := (vint_len (3 * 8 + 2)).2; have := (vint_len (U.length : Int)).2
        unfold other
        rw [if_neg (by simp)]
        simp only [List.length_append]; omega
      obtain ⟨V, hV⟩ : ∃ V, V = other 3 0 U false := ⟨_, rfl⟩
      rw [← hV] at hol M5
      have HV := Lib.hid hV
      rw [← hV]
      clear hV
      obtain ⟨Z, hZ⟩ : ∃ Z, Z = Q ++ V := ⟨_, rfl⟩
      have hZl : Z.length ≤ 10000 := by rw [hZ, List.length_append]; omega
      have D6 := Lib.hid (Concat_to (l := Z) (RdS.lit w5 24 [⟨A4, _, c4, Q⟩, ⟨A5, _, c5, V⟩] (by
          intro s hs
          simp only [List.mem_cons, List.not_mem_nil, or_false] at hs
          rcases hs with rfl | rfl
          · exact M4.rd.keepN M5.kp
          · exact M5.rd) (by simp)) (by show ([Q, V] : List (List Int)).flatten.length ≤ _; rw [show ([Q, V] : List (List Int)).flatten = Z from by rw [hZ]; simp]; omega) (by show ([Q, V] : List (List Int)).flatten = Z; rw [hZ]; simp))
      have HZ := Lib.hid hZ
      have k05 := k03.then (M4.kp.then M5.kp)
      clear hZ D5
      go_wp2_with (fail)
      refine D6.out.mono ?_
      rintro e w6 ⟨A6, c6, rfl, M6⟩
      have k06 := (k05.alloc _).then M6.kp
      have D7 := Lib.hid (RecordOf_calls M6.rd (by omega) (hE.keepN k06))
      clear D6
      go_wp2_with (fail)
      refine D7.out.mono ?_
      rintro e w7 ⟨k7, ⟨Y0, f0, y0', q1, Y1, f1, M1⟩, ok, rfl, haty, _, _, hR⟩
      have hwf : wf U = .bad := by
        rw [HU.out, HP.out]
        have := HPL.out
        exact torn_bad HBY.out (by omega) (by omega) (by omega)
      rw [HZ.out, HQ.out, HV.out] at hR
      obtain rfl := RRes_torn (HOK.out HFT.out) HUB.out (by omega) hwf hR
      have k07 := k06.then k7
      have kb : Kp no w7 (w7.alloc (.cells #[.slice Y0 y0'.length f0, .int .u64 q1, .slice Y1 M1.length f1] 47)) := (Kp.refl _ _).alloc _
      have DL7 := Lib.hid (recordsLive_calls (hE.keepN (k07.then kb)))
      clear hR hwf
      go_wp2_with (first | (go_at_call 32; refine DL7.out.mono ?_; rintro e w8 ⟨rfl, hk8⟩))
      go_ret
      exact ⟨rfl, (k07.then kb).then hk8⟩
end Go.Proofs.YtipleaojejbkpaaDoor
