/- FnKeyRecordMore walked. -/
import Derived.Test.YtipleaojejbkpaaDoorRMoreP
import Derived.Test.YtipleaojejbkpaaDoorRcE
import Derived.Deep.RegionHeld3
namespace Go.Proofs.YtipleaojejbkpaaDoor
open Go Go.RowKit
set_option linter.unusedVariables false
set_option linter.unusedSimpArgs false
set_option maxRecDepth 100000

set_option maxHeartbeats 8000000 in
theorem fnKeyRecordMore_calls {w : World} {A : Option Addr} {n c : Nat} {m : List Int} (x : RV) (f v : Int) (hx : x.At w ∧ 0 ≤ x.seq ∧ x.seq < 18446744073709551616) (h : Rd w A n c m) (hf : 0 ≤ f ∧ f < 65536) (hv : 0 ≤ v ∧ v < 18446744073709551616) (hE : RErrs w) :
    Calls Tryd.prog 11 #[.agg x.cells, .int .u16 f, .slice A n c, .int .u64 v] w (LawOk w) := by
  obtain ⟨hx, hs0, hs1⟩ := hx
  obtain rfl := h.len
  have hmax := h.max
  have hcap := h.cap
  have k0 : Kp no w (w.alloc (.cells x.cells 47)) := (Kp.refl _ _).alloc _
  have hb0 := Blk.new w x.cells 47
  have D1 := Lib.hid (zzFits13_calls x (hx.keepN k0))
  have HOK := Lib.hid (ROk_of hx hs0 hs1)
  obtain ⟨A0, c0, d0, q0, B0, e0, L0⟩ := x
  simp only [RV.cells] at *
  generalize hW : w.alloc (.cells #[.slice A0 d0.length c0, .int .u64 q0, .slice B0 L0.length e0] 47) = W0 at *
  have y0 := hb0.cell 0
  have y1 := hb0.cell 1
  have y2 := hb0.cell 2
  go_enter Tryd.func11, Tryd.ntmps11
  go_wp2_with (fail)
  refine D1.out.mono ?_
  rintro e w1 ⟨k1, b, rfl, hb⟩
  cases b with
  | false =>
    clear hb
    go_wp2
    go_ret
    exact ⟨rfl, k0.then k1⟩
  | true =>
    clear hb D1
    by_cases hbig : 2147483647 < (m.length : Int)
    · go_wp2
      go_ret
      exact ⟨rfl, k0.then k1⟩
    have k01 := k0.then k1
    have hb1 := hb0.keepN k1
    have z0 := hb1.cell 0
    have z1 := hb1.cell 1
    have z2 := hb1.cell 2
    have D2 := Lib.hid (recordFits_calls ⟨A0, c0, d0, q0, B0, e0, L0⟩ (hx.keepN k01))
    go_wp2_with (fail)
    refine D2.out.mono ?_
    rintro e w2 ⟨k2, b, rfl, hb⟩
    have k02 := k01.then k2
    have DL2 := Lib.hid (recordsLive_calls (hE.keepN k02))
    cases b with
    | false =>
      clear hb
      go_wp2_with (first | (go_at_call 32; refine DL2.out.mono ?_; rintro e w3 ⟨rfl, hk3⟩))
      go_ret
      exact ⟨rfl, k02.then hk3⟩
    | true =>
      have hfit := hb rfl
      have HFT := Lib.hid hfit
      obtain ⟨hf0, hf1, _⟩ := hfit
      clear hb D2
      by_cases hm : 100 < (m.length : Int)
      · clear hbig
        go_wp2_with (first | (go_at_call 32; refine DL2.out.mono ?_; rintro e w3 ⟨rfl, hk3⟩))
        go_ret
        exact ⟨rfl, k02.then hk3⟩
      have hm2 : (m.length : Int) ≤ 100 := by omega
      have hm3 : decide (100 < (m.length : Int)) = false := by simp; omega
      clear hm hbig DL2 y0 y1 y2 z0 z1 z2
      have hS := hx.s
      have hR := hx.r
      simp only at hS hR
      have hcapS := hS.cap
      have hmaxS := hS.max
      have HA := Lib.hid (show ∀ j, j < L0.length → (L0.getD j []).length ≤ 300 from fun j hj => HFT.out.2.2 _ (by rw [List.getD_eq_getElem?_getD, List.getElem?_eq_getElem hj]; simp))
      have q0' : 0 ≤ f % 997 := by omega
      have q1' : f % 997 < 997 := by omega
      have hb2 := hb1.keepN k2
      have HB := Lib.hid hb2
      obtain ⟨g, hg⟩ : ∃ g, g = f % 997 + 4 := ⟨_, rfl⟩
      have hg0 : 4 ≤ g := by omega
      have hg1 : g ≤ 1100 := by omega
      have MOK := Lib.hid (show MoreOk g v m from ⟨hg0, by omega, hv.1, hv.2, h.byt, by omega⟩)
      have kd : Kp no w2 w2.drew := (Kp.refl _ _).drew
      have HC1 := Lib.hid (fun W (k : Kp no w2 W) => Lib.hid (keyField_calls ((h.keepN k02).keepN k) (by omega) g (by omega) (by omega)))
      have HC2 := Lib.hid (fun W (k : Kp no w2 W) => Lib.hid (keyField_calls ((hR.keepN k02).keepN k) (by omega) 1 (by omega) (by omega)))
      have HC3 := Lib.hid (fun (W : World) => Lib.hid (keyNumber_calls (w := W) g v (by omega) (by omega) hv.1 hv.2))
      have HC4 := Lib.hid (fun (W : World) => Lib.hid (keyNumber_calls (w := W) 2 q0 (by omega) (by omega) hs0 hs1))
      have HS := Lib.hid (fun W (k : Kp no w2 W) => (⟨k, (HB.out.keepN k).cell 0, (HB.out.keepN k).cell 1⟩ : Kp no w2 W ∧ W.cell? ⟨w.heap.size, 0, none⟩ = some (.slice A0 d0.length c0) ∧ W.cell? ⟨w.heap.size, 1, none⟩ = some (.int .u64 q0)))
      obtain ⟨P1, hP1⟩ : ∃ P, P = other g 0 m false := ⟨_, rfl⟩
      obtain ⟨P2, hP2⟩ : ∃ P, P = other 1 0 d0 false := ⟨_, rfl⟩
      obtain ⟨P3, hP3⟩ : ∃ P, P = other g v [] true := ⟨_, rfl⟩
      obtain ⟨P4, hP4⟩ : ∃ P, P = other 2 q0 [] true := ⟨_, rfl⟩
      have l1 := other_len g 0 m false
      have l2 := other_len 1 0 d0 false
      have l3 := other_len g v [] true
      have l4 := other_len 2 q0 [] true
      simp only [List.length_nil] at l3 l4
      rw [← hP1] at l1 HC1
      rw [← hP2] at l2 HC2
      rw [← hP3] at l3 HC3
      rw [← hP4] at l4 HC4
      obtain ⟨Z, hZ⟩ : ∃ Z, Z = P1 ++ (P2 ++ (P3 ++ P4)) := ⟨_, rfl⟩
      have hZl : Z.length ≤ 1000 := by rw [hZ]; simp only [List.length_append]; omega
      have HZF := Lib.hid (show ([P1, P2, P3, P4] : List (List Int)).flatten = Z by rw [hZ]; simp)
      have HZS := Lib.hid (show ([P1, P2, P3, P4] : List (List Int)).flatten.length ≤ 1099511627776 by rw [HZF.out]; omega)
      have HZ := Lib.hid (show Z = other g 0 m false ++ (other 1 0 d0 false ++ (other g v [] true ++ other 2 q0 [] true)) by rw [hZ, hP1, hP2, hP3, hP4])
      have HP1 := Lib.hid hP1
      have HP3 := Lib.hid hP3
      clear hZ hP1 hP2 hP3 hP4
      have HGE := Lib.hid hg
      go_upto_region 6 with (fail)
      rw [← HGE.out]
      clear hg
      go_cut [10] from 36 to 49 (fun vv wx => SoFar w2 Z vv wx)
      case first =>
        go_region_held3 (fun W => Kp no w2 W ∧ W.cell? ⟨w.heap.size, 0, none⟩ = some (.slice A0 d0.length c0) ∧ W.cell? ⟨w.heap.size, 1, none⟩ = some (.int .u64 q0))
          ((exact HS.out _ (by first | with_reducible exact kd | with_reducible exact j5 | with_reducible exact j6 | with_reducible exact j7 | with_reducible exact j8 | with_reducible exact j8.alloc _ | with_reducible exact j10)))
          (first
          | (go_at_call 27; refine (Concat_to (l := Z) (RdS.lit w8 24 [⟨A5, _, c5, P1⟩, ⟨A6, _, c6, P2⟩, ⟨A7, _, c7, P3⟩, ⟨A8, _, c8, P4⟩] (by
              intro s hs
              simp only [List.mem_cons, List.not_mem_nil, or_false] at hs
              rcases hs with rfl | rfl | rfl | rfl
              · exact M5.rd.keepN (M6.kp.then (M7.kp.then M8.kp))
              · exact M6.rd.keepN (M7.kp.then M8.kp)
              · exact M7.rd.keepN M8.kp
              · exact M8.rd) (by simp)) HZS.out HZF.out).mono ?_; rintro e w10 ⟨A10, c10, rfl, M10⟩; have j10 : Kp no w2 w10 := (j8.alloc _).then M10.kp)
          | (go_at_call 39; refine (HC4.out w7).out.mono ?_; rintro e w8 ⟨A8, c8, rfl, M8⟩; have j8 := j7.then M8.kp)
          | (go_at_call 39; refine (HC3.out w6).out.mono ?_; rintro e w7 ⟨A7, c7, rfl, M7⟩; have j7 := j6.then M7.kp)
          | (go_at_call 29; refine (HC2.out w5 j5).out.mono ?_; rintro e w6 ⟨A6, c6, rfl, M6⟩; have j6 := j5.then M6.kp)
          | (go_at_call 29; refine (HC1.out _ kd).out.mono ?_; rintro e w5 ⟨A5, c5, rfl, M5⟩; have j5 := kd.then M5.kp))
        all_goals
          go_wp2_with (fail)
          go_meet
          case rel => exact ⟨A10, c10, rfl, M10.own.lower (by have := (j8.alloc (.cells #[.slice A5 P1.length c5, .slice A6 P2.length c6, .slice A7 P3.length c7, .slice A8 P4.length c8] 24)).size; exact this), j10⟩
      case rest =>
        obtain ⟨B1, c1, rfl, O1, k3⟩ := hcut
        have x2 := (HB.out.keepN k3).cell 2
        have hs2 := k02.size
        have S3 := hS.keepN k02
        have HI : Hid (Z = Z ++ ams g v m (L0.take 0)) := Lib.hid (by simp [ams])
        obtain ⟨wb0, rfl⟩ : ∃ wb0, wb0 = wc := ⟨_, rfl⟩
        clear HS HC2 HC4 HZS HZF
        go_wp2
        go_loopw [10, 53] (fun vv iv wr => ∃ (k : Nat) (z : List Int) (B3 : Option Addr) (c3 : Nat), k ≤ L0.length ∧ iv = .int .i64 k ∧ vv = .slice B3 z.length c3 ∧ Own wr 5 w2.heap.size (.slice B3 z.length c3) z ∧ Kp no w2 wr ∧ z.length ≤ 1000 + 600 * k ∧ Hid (z = Z ++ ams g v m (L0.take k))) (fun _ iv _ => L0.length - (intOf iv).toNat)
        case atStart => exact ⟨0, Z, B1, c1, Nat.zero_le _, rfl, rfl, O1, k3, by omega, HI⟩
        case round =>
          obtain ⟨k, z, B3, c3, hk0, rfl, rfl, O4, k4, hzl, HQ⟩ := hrel
          by_cases hlt : k < L0.length
          · obtain ⟨g0, o0, hB0, hc⟩ := (S3.keepN k4).at_ (by omega)
            subst hB0
            obtain ⟨A', c', cu, hR'⟩ := hc k hlt
            have hra := Lib.hid (ams_next g v m L0 k hlt)
            have hal := HA.out k hlt
            generalize L0.getD k [] = y at *
            have D5 := HC3.out wr
            clear hc
            go_wp2_with (fail)
            refine D5.out.mono ?_
            rintro e w5 ⟨A5, c5, rfl, M5⟩
            have D6 := Lib.hid (keyField_calls (hR'.keepN M5.kp) (by omega) 1 (by omega) (by omega))
            have l6 := other_len 1 0 y false
            obtain ⟨P6, hP6⟩ : ∃ P, P = other 1 0 y false := ⟨_, rfl⟩
            rw [← hP6] at D6 l6
            have HP6 := Lib.hid hP6
            clear hP6 hR' D5
            go_wp2_with (fail)
            refine D6.out.mono ?_
            rintro e w6 ⟨A6, c6, rfl, M6⟩
            have k6 := (k4.then M5.kp).then M6.kp
            have D7 := HC1.out w6 k6
            clear D6
            go_wp2_with (fail)
            refine D7.out.mono ?_
            rintro e w7 ⟨A7, c7, rfl, M7⟩
            have k7 := k6.then M7.kp
            obtain ⟨U, hU⟩ : ∃ U, U = P3 ++ (P6 ++ P1) := ⟨_, rfl⟩
            have hUl : U.length ≤ 500 := by rw [hU]; simp only [List.length_append]; omega
            have D8 := Lib.hid (Concat_to (l := U) (RdS.lit w7 24 [⟨A5, _, c5, P3⟩, ⟨A6, _, c6, P6⟩, ⟨A7, _, c7, P1⟩] (by
                intro s hs
                simp only [List.mem_cons, List.not_mem_nil, or_false] at hs
                rcases hs with rfl | rfl | rfl
                · exact M5.rd.keepN (M6.kp.then M7.kp)
                · exact M6.rd.keepN M7.kp
                · exact M7.rd) (by simp)) (by show ([P3, P6, P1] : List (List Int)).flatten.length ≤ _; rw [show ([P3, P6, P1] : List (List Int)).flatten = U from by rw [hU]; simp]; omega) (by show ([P3, P6, P1] : List (List Int)).flatten = U; rw [hU]; simp))
            have HU := Lib.hid (show U = inn g v m y from by rw [hU, HP3.out, HP6.out, HP1.out]; rfl)
            clear hU D7
            go_wp2_with (fail)
            refine D8.out.mono ?_
            rintro e w8 ⟨A8, c8, rfl, M8⟩
            have k8 := (k7.alloc _).then M8.kp
            have j48 := (((M5.kp.then M6.kp).then M7.kp).alloc _).then M8.kp
            have D9 := Lib.hid (keyField_calls M8.rd (by omega) 3 (by omega) (by omega))
            have l9 := other_len 3 0 U false
            obtain ⟨V, hV⟩ : ∃ V, V = other 3 0 U false := ⟨_, rfl⟩
            rw [← hV] at D9 l9
            have HV := Lib.hid (show V = am g v m y from by rw [hV, HU.out]; rfl)
            clear hV D8 M5 M6 M7
            go_wp2_with (fail)
            refine D9.out.mono ?_
            rintro e w9 ⟨A9, c9, rfl, M9⟩
            have k9 := k8.then M9.kp
            have O9 := O4.keepN (j48.then M9.kp)
            have hM9 := M9.rd
            have hk9 := k9.size
            clear M9 M8 D9
            go_wp2_with (first | (at_builtin; refine own_append w2.heap.size rfl (.tmp 57) (.tmp 68) 24 5 rfl Tryd.und_bytes Tryd.info_byte (.slice B3 z.length c3) z V A9 V.length c9 rfl rfl O9 hM9 hk9 (by omega) ?_; intro v7 w10 O10 hk10 hw10 _; have k10 : Kp no w2 w10 := k9.own O9 (Nat.le_refl _) hk10))
            obtain ⟨A10, c10, rfl, _, _⟩ := O10.rd
            go_roundw
            case rel => exact ⟨k + 1, z ++ V, A10, c10, by omega, by go_num, rfl, O10, k10, by simp only [List.length_append]; omega, Lib.hid (by rw [hra.out, HQ.out, HV.out]; simp)⟩
            case measure => simp [intOf]; omega
          · obtain rfl : k = L0.length := by omega
            have HM := Lib.hid (show z = moreB g v m ⟨d0, q0, L0⟩ from by
              rw [HQ.out, List.take_length, HZ.out]; rfl)
            obtain ⟨B9, c9, h9, R9, _⟩ := O4.rd
            injection h9 with h9 _ h9'
            subst h9 h9'
            have k04 := k02.then k4
            have D8 := Lib.hid (RecordOf_calls R9 (by omega) (hE.keepN k04))
            clear HQ
            go_wp2_with (fail)
            refine D8.out.mono ?_
            rintro e w9 ⟨k9, ⟨Y0, f0, v0, q1, Y1, f1, N1⟩, ok, rfl, haty, _, _, hRR⟩
            rw [HM.out] at hRR
            obtain ⟨rfl, r0, r1, r2⟩ := RRes_more (HOK.out HFT.out) MOK.out hRR
            clear hRR D8
            simp only at r0 r1 r2
            subst r0 r1 r2
            have k09 := k04.then k9
            have kb : Kp no w9 (w9.alloc (.cells #[.slice Y0 v0.length f0, .int .u64 q1, .slice Y1 N1.length f1] 47)) := (Kp.refl _ _).alloc _
            have bb := HB.out.keepN ((k4.then k9).then kb)
            have v0' := bb.cell 0
            have v1' := bb.cell 1
            have v2' := bb.cell 2
            have t0 := haty.r
            have t1 := haty.s
            simp only at t0 t1
            have kB := k09.then kb
            have DS := Lib.hid (sameRecord_same (q := q1) (t0.keepN kb) (t1.keepN kb) (hR.keepN kB) (hS.keepN kB))
            have HE9 := fun W (k : Kp no w W) => Lib.hid (recordsLive_calls (hE.keepN k))
            clear t0 t1 haty
            go_wp2_with (fail)
            refine DS.out.mono ?_
            rintro e wE ⟨rfl, kE⟩
            have DL := HE9 _ (kB.then kE)
            go_wp2_with (first | (go_at_call 32; refine DL.out.mono ?_; rintro e wF ⟨rfl, hkF⟩))
            go_ret
            exact ⟨rfl, (kB.then kE).then hkF⟩
end Go.Proofs.YtipleaojejbkpaaDoor
