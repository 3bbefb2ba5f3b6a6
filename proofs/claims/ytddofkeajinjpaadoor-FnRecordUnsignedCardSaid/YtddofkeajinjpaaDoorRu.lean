/- FnRecordUnsigned. -/
import Derived.Test.YtddofkeajinjpaaDoorSvA
import Derived.Test.YtddofkeajinjpaaDoorAwA
namespace Go.Proofs.YtddofkeajinjpaaDoor
open Go Go.RowKit
set_option linter.unusedVariables false
set_option linter.unusedSimpArgs false
set_option maxRecDepth 100000

def LawOk (w : World) (e : Ending) (w' : World) : Prop := e = .returned (.bool true) ∧ Kp no w w'
theorem some_same {w : World} {A B : Option Addr} {n c m d : Nat} {a b : List Int} (ha : Rd w A n c a) (hb : Rd w B m d b) (q : Bool) (hq : decide (a = b) = q) :
    Calls Tryd.prog 21 #[.slice A n c, .slice B m d] w fun e w' => e = .returned (.bool q) ∧ Kp no w w' := hq ▸ recordSame_calls ha hb

set_option maxHeartbeats 16000000 in
theorem fnRecordUnsigned_calls {w : World} {K : List Int} {A1 A2 B1 B2 : Option Addr} {c1 c2 d1 d2 : Nat} {da ta pa db tb pb : List Int} (hda : Byt da) (hdb : Byt db) (ra1 : Rd w A1 ta.length c1 ta) (ra2 : Rd w A2 pa.length c2 pa) (rb1 : Rd w B1 tb.length d1 tb) (rb2 : Rd w B2 pb.length d2 pb) (hW : OpW w K) :
    Calls Tryd.prog 6 #[.agg #[.string (strOfNums da), .slice A1 ta.length c1, .slice A2 pa.length c2], .agg #[.string (strOfNums db), .slice B1 tb.length d1, .slice B2 pb.length d2]] w (LawOk w) := by
  have k0 : Kp no w ((w.alloc (.cells #[.string (strOfNums da), .slice A1 ta.length c1, .slice A2 pa.length c2] 24)).alloc (.cells #[.string (strOfNums db), .slice B1 tb.length d1, .slice B2 pb.length d2] 24)) := ((Kp.refl _ _).alloc _).alloc _
  have hbx := (Blk.new w #[.string (strOfNums da), .slice A1 ta.length c1, .slice A2 pa.length c2] 24).alloc (.cells #[.string (strOfNums db), .slice B1 tb.length d1, .slice B2 pb.length d2] 24)
  have hbz := Blk.new (w.alloc (.cells #[.string (strOfNums da), .slice A1 ta.length c1, .slice A2 pa.length c2] 24)) #[.string (strOfNums db), .slice B1 tb.length d1, .slice B2 pb.length d2] 24
  rw [show (w.alloc (.cells #[.string (strOfNums da), .slice A1 ta.length c1, .slice A2 pa.length c2] 24)).heap.size = w.heap.size + 1 from by simp] at hbz
  have sa := strOfNums_size da
  have sb := strOfNums_size db
  have HB := Lib.hid (fun W (k : Kp no ((w.alloc (.cells #[.string (strOfNums da), .slice A1 ta.length c1, .slice A2 pa.length c2] 24)).alloc (.cells #[.string (strOfNums db), .slice B1 tb.length d1, .slice B2 pb.length d2] 24)) W) => And.intro ((hbx.keepN k).cell 0) (And.intro ((hbx.keepN k).cell 1) (And.intro ((hbx.keepN k).cell 2) (And.intro ((hbz.keepN k).cell 0) (And.intro ((hbz.keepN k).cell 1) ((hbz.keepN k).cell 2))))))
  have FA := Lib.hid (fun W => zzFits6_calls (w := W) (strOfNums da) A1 A2 ta.length c1 pa.length c2)
  have FB := Lib.hid (fun W => zzFits6_calls (w := W) (strOfNums db) B1 B2 tb.length d1 pb.length d2)
  have SA := Lib.hid (fun W => recordShort_none (w := W) (strOfNums da) A1 A2 ta.length c1 pa.length c2)
  have SB := Lib.hid (fun W => recordShort_none (w := W) (strOfNums db) B1 B2 tb.length d1 pb.length d2)
  have AW := Lib.hid (fun W (k : Kp no w W) => awake_calls (hW.keepN k))
  rw [sa] at SA
  rw [sb] at SB
  have UA := Lib.hid (fun W (k : Kp no w W) (z : da.length ≤ 200 ∧ ta.length ≤ 200 ∧ pa.length ≤ 1000) => implUnsigned_calls (w := W) hda (by omega) (ra1.keepN k) (by omega) (ra2.keepN k) (by omega))
  have UB := Lib.hid (fun W (k : Kp no w W) (z : db.length ≤ 200 ∧ tb.length ≤ 200 ∧ pb.length ≤ 1000) => implUnsigned_calls (w := W) hdb (by omega) (rb1.keepN k) (by omega) (rb2.keepN k) (by omega))
  have RU := Lib.hid (fun W (k : Kp no w W) (z : da.length ≤ 200 ∧ ta.length ≤ 200 ∧ pa.length ≤ 1000) => recordUnsigned_calls (w := W) hda (by omega) (ra1.keepN k) (by omega) (ra2.keepN k) (by omega))
  have T1 := Lib.hid (fun W (k : Kp no w W) q hq => some_same (w := W) (ra1.keepN k) (rb1.keepN k) q hq)
  have T2 := Lib.hid (fun W (k : Kp no w W) q hq => some_same (w := W) (ra2.keepN k) (rb2.keepN k) q hq)
  have SD := Lib.hid (strOfNums_beq hda hdb)
  have UI := Lib.hid (fun (z : da.length ≤ 200 ∧ ta.length ≤ 200 ∧ pa.length ≤ 1000) (y : db.length ≤ 200 ∧ tb.length ≤ 200 ∧ pb.length ≤ 1000) => uns_inj (d := da) (c := ta) (p := pa) (d' := db) (c' := tb) (p' := pb) (by omega) (by omega) (by omega) (by omega) (by omega) (by omega))
  obtain ⟨U, hU⟩ : ∃ U, U = uns da ta pa := ⟨_, rfl⟩
  obtain ⟨V, hV⟩ : ∃ V, V = uns db tb pb := ⟨_, rfl⟩
  rw [← hU] at UA RU UI
  rw [← hV] at UB UI
  have HU := Lib.hid hU
  have HV := Lib.hid hV
  clear hU hV
  have HL := Lib.hid (rfl : (da.length, ta.length, pa.length, db.length, tb.length, pb.length) = (da.length, ta.length, pa.length, db.length, tb.length, pb.length))
  clear ra1 ra2 rb1 rb2 hW hda hdb hbx hbz sa sb
  obtain ⟨x0, x1, x2, z0, z1, z2⟩ := HB.out _ (Kp.refl _ _)
  go_enter Tryd.func6, Tryd.ntmps6
  go_upto_region 1 with (fail)
  generalize (w.alloc (.cells #[.string (strOfNums da), .slice A1 ta.length c1, .slice A2 pa.length c2] 24)).alloc (.cells #[.string (strOfNums db), .slice B1 tb.length d1, .slice B2 pb.length d2] 24) = W0 at *
  have E1 := Lib.hid (FA.out W0)
  go_wp2_with (fail)
  refine E1.out.mono ?_
  rintro e w1 ⟨k1, q, rfl, _⟩
  clear x0 x1 x2 z0 z1 z2
  obtain ⟨x0, x1, x2, z0, z1, z2⟩ := HB.out w1 k1
  cases q
  · go_wp2
    go_ret
    exact ⟨rfl, k0.then k1⟩
  have E2 := Lib.hid (FB.out w1)
  go_wp2_with (fail)
  refine E2.out.mono ?_
  rintro e w2 ⟨k2', q, rfl, _⟩
  have k2 := k1.then k2'
  clear x0 x1 x2 z0 z1 z2
  obtain ⟨x0, x1, x2, z0, z1, z2⟩ := HB.out w2 k2
  cases q
  · go_wp2
    go_ret
    exact ⟨rfl, k0.then k2⟩
  have E3 := Lib.hid (SA.out w2)
  go_wp2_with (fail)
  refine E3.out.mono ?_
  rintro e w3 ⟨k3', q, rfl, zA⟩
  have k3 := k2.then k3'
  clear x0 x1 x2 z0 z1 z2
  obtain ⟨x0, x1, x2, z0, z1, z2⟩ := HB.out w3 k3
  cases q
  · clear zA
    have E4 := Lib.hid (AW.out w3 (k0.then k3))
    go_wp2_with (fail)
    refine E4.out.mono ?_
    rintro e w4 ⟨rfl, k4⟩
    go_wp2
    go_ret
    exact ⟨rfl, k0.then (k3.then k4)⟩
  have ZA := Lib.hid (zA rfl)
  clear zA
  have E5 := Lib.hid (SB.out w3)
  go_wp2_with (fail)
  refine E5.out.mono ?_
  rintro e w4 ⟨k4', q, rfl, zB⟩
  have k4 := k3.then k4'
  clear x0 x1 x2 z0 z1 z2
  obtain ⟨x0, x1, x2, z0, z1, z2⟩ := HB.out w4 k4
  cases q
  · clear zB
    have E4 := Lib.hid (AW.out w4 (k0.then k4))
    go_wp2_with (fail)
    refine E4.out.mono ?_
    rintro e w5 ⟨rfl, k5⟩
    go_wp2
    go_ret
    exact ⟨rfl, k0.then (k4.then k5)⟩
  have ZB := Lib.hid (zB rfl)
  clear zB
  have kd4 : Kp no W0 w4.drew := k4.then (Kp.refl _ _).drew
  clear x0 x1 x2 z0 z1 z2
  go_upto_region 5 with (fail)
  go_cut [5, 6] from 25 to 28 (fun u v wx => ∃ X x Y y, u = .slice X U.length x ∧ v = .slice Y V.length y ∧ Rd wx X U.length x U ∧ Rd wx Y V.length y V ∧ Kp no W0 wx)
  case first =>
    have HD4 := Lib.hid kd4
    clear AW RU T1 T2 SD UI HU HV SA SB FA FB
    have UA4 := Lib.hid (UA.out w4.drew (k0.then kd4) ZA.out)
    have UB4 := Lib.hid (fun W (k : Kp no W0 W) => UB.out W (k0.then k) ZB.out)
    clear UA UB ZA ZB k1 k2 k3 k4 k2' k3' k4' E1 E2 E3 E5
    generalize hsa : strOfNums da = sa at *
    generalize hsb : strOfNums db = sb at *
    generalize hta : ta.length = nta at *
    generalize htb : tb.length = ntb at *
    generalize hpa : pa.length = npa at *
    generalize hpb : pb.length = npb at *
    have HHH := Lib.hid (And.intro hsa (And.intro hsb (And.intro hta (And.intro htb (And.intro hpa hpb)))))
    clear hsa hsb hta htb hpa hpb
    obtain ⟨x0, x1, x2, z0, z1, z2⟩ := HB.out w4.drew kd4
    go_region_with
      (first
      | (go_at_call 24; refine (UB4.out w5 k5).mono ?_; rintro e w6 ⟨Y, y, rfl, RY, ky⟩; have k6 := k5.then ky)
      | (go_at_call 24; refine UA4.out.mono ?_; rintro e w5 ⟨X, x, rfl, RX, kx⟩; have k5 := kd4.then kx; clear x0 x1 x2 z0 z1 z2; obtain ⟨x0, x1, x2, z0, z1, z2⟩ := HB.out w5 k5))
    all_goals
      go_wp2_with (fail)
      go_meet
      case rel => exact ⟨X, x, Y, y, rfl, rfl, RX.keepN ky, RY, k6⟩
  case rest =>
    obtain ⟨X, x, Y, y, rfl, rfl, RX, RY, k6⟩ := hcut
    have HX := Lib.hid RX
    have HY := Lib.hid RY
    clear RX RY
    obtain ⟨x0, x1, x2, z0, z1, z2⟩ := HB.out wc k6
    have sd0 := SD.out
    have UD : ∀ h : ¬ (da = db ∧ ta = tb ∧ pa = pb), decide (U = V) = false := fun h => decide_eq_false (fun e => h (UI.out ZA.out ZB.out e))
    have UE : (da = db ∧ ta = tb ∧ pa = pb) → decide (U = V) = true := fun h => decide_eq_true (by rw [HU.out, HV.out, h.1, h.2.1, h.2.2])
    by_cases e0 : da = db
    · rw [decide_eq_true e0] at sd0
      by_cases e1 : ta = tb
      · have P1 := Lib.hid (T1.out wc (k0.then k6) true (decide_eq_true e1))
        by_cases e2 : pa = pb
        · have hq := Lib.hid (UE ⟨e0, e1, e2⟩)
          have P2 := Lib.hid (fun W (k : Kp no w W) => T2.out W k true (decide_eq_true e2))
          clear UD UE e0 e1 e2
          go_wp2_with (fail)
          refine P1.out.mono ?_
          rintro e w7 ⟨rfl, k7'⟩
          have k7 := k6.then k7'
          clear x0 x1 x2 z0 z1 z2
          obtain ⟨x0, x1, x2, z0, z1, z2⟩ := HB.out w7 k7
          have P3 := Lib.hid (P2.out w7 (k0.then k7))
          go_wp2_with (fail)
          refine P3.out.mono ?_
          rintro e w8 ⟨rfl, k8'⟩
          have k8 := k7.then k8'
          clear x0 x1 x2 z0 z1 z2
          obtain ⟨x0, x1, x2, z0, z1, z2⟩ := HB.out w8 k8
          have h0K_w8 := k7'.then k8'
          have G1 := Lib.hid (RU.out w8 (k0.then k8) ZA.out)
          go_wp2_with (fail)
          refine G1.out.mono ?_
          rintro e v1 ⟨Q, qc, rfl, MQ⟩
          have j1 := k8.then MQ.kp
          have G2 := Lib.hid (some_same ((HX.out.keepN (h0K_w8)).keepN MQ.kp) MQ.rd true (decide_eq_true rfl))
          go_wp2_with (fail)
          refine G2.out.mono ?_
          rintro e v2 ⟨rfl, j2'⟩
          have j2 := j1.then j2'
          have hz2 := ((h0K_w8).then MQ.kp).then j2'
          have G3 := Lib.hid (some_same (HX.out.keepN hz2) (HY.out.keepN hz2) _ hq.out)
          go_wp2_with (fail)
          refine G3.out.mono ?_
          rintro e v3 ⟨rfl, j3'⟩
          have j3 := j2.then j3'
          have G4 := Lib.hid (AW.out v3 (k0.then j3))
          go_wp2_with (fail)
          refine G4.out.mono ?_
          rintro e v4 ⟨rfl, j4⟩
          go_wp2
          go_ret
          exact ⟨rfl, k0.then (j3.then j4)⟩
        · have hq := Lib.hid (UD (fun h => e2 h.2.2))
          have P2 := Lib.hid (fun W (k : Kp no w W) => T2.out W k false (decide_eq_false e2))
          clear UD UE e0 e1 e2
          go_wp2_with (fail)
          refine P1.out.mono ?_
          rintro e w7 ⟨rfl, k7'⟩
          have k7 := k6.then k7'
          clear x0 x1 x2 z0 z1 z2
          obtain ⟨x0, x1, x2, z0, z1, z2⟩ := HB.out w7 k7
          have P3 := Lib.hid (P2.out w7 (k0.then k7))
          go_wp2_with (fail)
          refine P3.out.mono ?_
          rintro e w8 ⟨rfl, k8'⟩
          have k8 := k7.then k8'
          clear x0 x1 x2 z0 z1 z2
          obtain ⟨x0, x1, x2, z0, z1, z2⟩ := HB.out w8 k8
          have h0K_w8 := k7'.then k8'
          have G1 := Lib.hid (RU.out w8 (k0.then k8) ZA.out)
          go_wp2_with (fail)
          refine G1.out.mono ?_
          rintro e v1 ⟨Q, qc, rfl, MQ⟩
          have j1 := k8.then MQ.kp
          have G2 := Lib.hid (some_same ((HX.out.keepN (h0K_w8)).keepN MQ.kp) MQ.rd true (decide_eq_true rfl))
          go_wp2_with (fail)
          refine G2.out.mono ?_
          rintro e v2 ⟨rfl, j2'⟩
          have j2 := j1.then j2'
          have hz2 := ((h0K_w8).then MQ.kp).then j2'
          have G3 := Lib.hid (some_same (HX.out.keepN hz2) (HY.out.keepN hz2) _ hq.out)
          go_wp2_with (fail)
          refine G3.out.mono ?_
          rintro e v3 ⟨rfl, j3'⟩
          have j3 := j2.then j3'
          have G4 := Lib.hid (AW.out v3 (k0.then j3))
          go_wp2_with (fail)
          refine G4.out.mono ?_
          rintro e v4 ⟨rfl, j4⟩
          go_wp2
          go_ret
          exact ⟨rfl, k0.then (j3.then j4)⟩
      · have P1 := Lib.hid (T1.out wc (k0.then k6) false (decide_eq_false e1))
        have hq := Lib.hid (UD (fun h => e1 h.2.1))
        clear UD UE e0 e1
        go_wp2_with (fail)
        refine P1.out.mono ?_
        rintro e w7 ⟨rfl, k7'⟩
        have k7 := k6.then k7'
        clear x0 x1 x2 z0 z1 z2
        obtain ⟨x0, x1, x2, z0, z1, z2⟩ := HB.out w7 k7
        have h0K_w7 := k7'
        have G1 := Lib.hid (RU.out w7 (k0.then k7) ZA.out)
        go_wp2_with (fail)
        refine G1.out.mono ?_
        rintro e v1 ⟨Q, qc, rfl, MQ⟩
        have j1 := k7.then MQ.kp
        have G2 := Lib.hid (some_same ((HX.out.keepN (h0K_w7)).keepN MQ.kp) MQ.rd true (decide_eq_true rfl))
        go_wp2_with (fail)
        refine G2.out.mono ?_
        rintro e v2 ⟨rfl, j2'⟩
        have j2 := j1.then j2'
        have hz2 := ((h0K_w7).then MQ.kp).then j2'
        have G3 := Lib.hid (some_same (HX.out.keepN hz2) (HY.out.keepN hz2) _ hq.out)
        go_wp2_with (fail)
        refine G3.out.mono ?_
        rintro e v3 ⟨rfl, j3'⟩
        have j3 := j2.then j3'
        have G4 := Lib.hid (AW.out v3 (k0.then j3))
        go_wp2_with (fail)
        refine G4.out.mono ?_
        rintro e v4 ⟨rfl, j4⟩
        go_wp2
        go_ret
        exact ⟨rfl, k0.then (j3.then j4)⟩
    · rw [decide_eq_false e0] at sd0
      have hq := Lib.hid (UD (fun h => e0 h.1))
      clear UD UE e0
      have h0K_wc := Kp.refl no wc
      have G1 := Lib.hid (RU.out wc (k0.then k6) ZA.out)
      go_wp2_with (fail)
      refine G1.out.mono ?_
      rintro e v1 ⟨Q, qc, rfl, MQ⟩
      have j1 := k6.then MQ.kp
      have G2 := Lib.hid (some_same ((HX.out.keepN (h0K_wc)).keepN MQ.kp) MQ.rd true (decide_eq_true rfl))
      go_wp2_with (fail)
      refine G2.out.mono ?_
      rintro e v2 ⟨rfl, j2'⟩
      have j2 := j1.then j2'
      have hz2 := ((h0K_wc).then MQ.kp).then j2'
      have G3 := Lib.hid (some_same (HX.out.keepN hz2) (HY.out.keepN hz2) _ hq.out)
      go_wp2_with (fail)
      refine G3.out.mono ?_
      rintro e v3 ⟨rfl, j3'⟩
      have j3 := j2.then j3'
      have G4 := Lib.hid (AW.out v3 (k0.then j3))
      go_wp2_with (fail)
      refine G4.out.mono ?_
      rintro e v4 ⟨rfl, j4⟩
      go_wp2
      go_ret
      exact ⟨rfl, k0.then (j3.then j4)⟩
end Go.Proofs.YtddofkeajinjpaaDoor
