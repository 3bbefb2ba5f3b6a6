/- (*Envelope).Marshal and EnvelopeBytes of an envelope with a key. -/
import Derived.Test.YtddofkeajinjpaaGreatDoorObs
import Derived.Test.YtddofkeajinjpaaGreatDoorEMoreP
import Derived.Test.YtddofkeajinjpaaGreatDoorEnvE
namespace Go.Proofs.YtddofkeajinjpaaGreatDoor
open Go Go.RowKit
set_option linter.unusedVariables false
set_option linter.unusedSimpArgs false
set_option maxRecDepth 100000

set_option maxHeartbeats 8000000 in
theorem EMarshal_keyG {w : World} {ad : Addr} {A1 A2 A3 : Option Addr} {c0 c1 c2 c3 : Nat} {d0 d1 d2 d3 : List Int} (k : Int) (hk0 : -2147483648 ≤ k) (hk1 : k ≤ 2147483647)
    (r0 : Rd w (some ad) d0.length c0 d0) (r1 : Rd w A1 d1.length c1 d1) (r2 : Rd w A2 d2.length c2 d2) (r3 : Rd w A3 d3.length c3 d3)
    (n0 : d0.length ≤ 300) (n1 : d1.length ≤ 10000) (n2 : d2.length ≤ 10000) (n3 : d3.length ≤ 10000)
    (lo0 : Lo w.heap.size (some ad)) (lo1 : Lo w.heap.size A1) (lo2 : Lo w.heap.size A2) (lo3 : Lo w.heap.size A3)
    (g gk b : Nat) (T : TypeId) (hb : Blk w g #[.pointer (some ⟨gk, 0, none⟩), .slice A1 d1.length c1, .slice A2 d2.length c2, .slice A3 d3.length c3] T)
    (hbk : Blk w gk #[.pointer (some ⟨b, 0, none⟩), .slice (some ad) d0.length c0] 103) (hc : w.cell? ⟨b, 0, none⟩ = some (.int .i32 k)) :
    Calls Tryz.prog 52 #[.pointer (some ⟨g, 0, none⟩)] w (MadeOk w (wb 1 (kb k d0) ++ (ob 2 d1 ++ (ob 3 d2 ++ ob 5 d3)))) := by
  have x0 := hb.cell 0
  have DK := Lib.hid (PKMarshal_calls r0 (by omega) lo0 gk b _ k hk0 hk1 hbk hc)
  have hkl := kb_len k d0
  have hku := (vint_len (ku k)).2
  have hkl' : (kb k d0).length ≤ 340 := by omega
  obtain ⟨K, hK⟩ : ∃ K, K = kb k d0 := ⟨_, rfl⟩
  rw [← hK] at DK hkl'
  have HK := Lib.hid hK
  rw [← hK]
  clear hK hkl hku
  go_enter Tryz.func52, Tryz.ntmps52
  go_wp2_with (fail)
  refine DK.out.mono ?_
  rintro e wk ⟨Ak, ck, rfl, Mk⟩
  have kk := Mk.kp
  have Rk := Mk.rd
  have Lk := Mk.lo
  have D1 := Lib.hid (AT_calls (Own.nil wk 5 wk.heap.size) (Nat.le_refl _) (by simp) 1 2 (by unfold tagOk; omega))
  clear Mk DK
  go_wp2_with (fail)
  refine D1.out.mono ?_
  rintro e w1 ⟨E1, f1, rfl, hM1⟩
  have j1 : Kp no wk w1 := hM1.kpn (Own.nil wk 5 wk.heap.size) (Nat.le_refl _) (Kp.refl _ _)
  have P1 := hM1.own
  obtain ⟨z1, hz1⟩ : ∃ z, z = ([] : List Int) ++ [1 * 8 + 2] := ⟨_, rfl⟩
  rw [← hz1] at P1
  have hl1 : z1.length ≤ 5 := by rw [hz1]; simp
  have hr1 : (([] : List Int) ++ [1 * 8 + 2]).length = z1.length := by rw [hz1]
  have D2 := Lib.hid (AB_calls P1 j1.size (by omega) (Rk.keepN j1) (by omega) Lk)
  have HZ1 := Lib.hid hz1
  rw [hr1]
  clear hM1 hz1 hr1 D1
  go_wp2_with (fail)
  refine D2.out.mono ?_
  rintro e wc ⟨B0, e0, rfl, hM2⟩
  have k0 : Kp no w wc := kk.then (hM2.kpn P1 (Nat.le_refl _) j1)
  have O0 := hM2.own.lower kk.size
  obtain ⟨q0, hq0⟩ : ∃ q, q = z1 ++ vint K.length ++ K := ⟨_, rfl⟩
  rw [← hq0] at O0
  have hl0 : q0.length ≤ 400 := by rw [hq0]; have := (vint_len (K.length : Int)).2; simp only [List.length_append]; omega
  have hr0 : (z1 ++ vint K.length ++ K).length = q0.length := by rw [hq0]
  have HQ0 := Lib.hid (show q0 = wb 1 K from by rw [hq0, HZ1.out]; simp [wb])
  rw [hr0]
  clear hM2 hq0 hr0 D2 x0
  have y1 := (hb.keepN k0).cell 1
  obtain ⟨wv1, rfl⟩ : ∃ wv, wv = wc := ⟨_, rfl⟩
  go_upto_if 33 with (fail)
  go_cut [4] from 7 (fun v wx => SoFar w (q0 ++ ob 2 d1) v wx)
  case first =>
    by_cases hz : d1.length = 0
    · have HZ := Lib.hid (ob_nil (f := 2) hz)
      have hzi : ¬ (0 : Int) < (d1.length : Int) := by omega
      clear hz
      go_wp2_with (fail)
      go_meet
      case rel => rw [HZ.out, List.append_nil]; exact ⟨B0, e0, rfl, O0, k0⟩
    · have hzi : (0 : Int) < (d1.length : Int) := by omega
      have HZ := Lib.hid (ob_some (f := 2) (l := d1) (by omega))
      have D1 := Lib.hid (AT_calls O0 k0.size (by omega) 2 2 (by unfold tagOk; omega))
      clear hz
      go_wp2_with (fail)
      refine D1.out.mono ?_
      rintro e w1 ⟨E1, f1, rfl, hM1⟩
      have j1 : Kp no w w1 := hM1.kpn O0 (Nat.le_refl _) k0
      have P1 := hM1.own
      have u1 := (hb.keepN j1).cell 1
      obtain ⟨z1, hz1⟩ : ∃ z, z = q0 ++ [2 * 8 + 2] := ⟨_, rfl⟩
      rw [← hz1] at P1
      have hl1 : z1.length ≤ 50000 := by rw [hz1]; simp; omega
      have hr1 : (q0 ++ [2 * 8 + 2]).length = z1.length := by rw [hz1]
      have D2 := Lib.hid (AB_calls P1 j1.size (by omega) (r1.keepN j1) (by omega) lo1)
      have HZ1 := Lib.hid hz1
      rw [hr1]
      clear hM1 hz1 hr1 D1
      go_wp2_with (fail)
      refine D2.out.mono ?_
      rintro e w2 ⟨E2, f2, rfl, hM2⟩
      have j2 : Kp no w w2 := hM2.kpn P1 (Nat.le_refl _) j1
      have F := Lib.hid (show SoFar w (q0 ++ ob 2 d1) (.slice E2 (z1 ++ vint d1.length ++ d1).length f2) w2 from by
        have e1 : q0 ++ ob 2 d1 = z1 ++ vint d1.length ++ d1 := by rw [HZ.out, HZ1.out]; simp [wb]
        rw [e1]; exact ⟨E2, f2, rfl, hM2.own, j2⟩)
      generalize (z1 ++ vint d1.length ++ d1).length = m at *
      clear hM2
      go_wp2_with (fail)
      go_meet
      case rel => exact F.out
  case rest =>
  obtain ⟨B1, e1, rfl, O1, k1⟩ := hcut
  have hl1 : (q0 ++ ob 2 d1).length ≤ 10420 := by have := ob_len (f := 2) d1; simp only [List.length_append]; omega
  obtain ⟨q1, hq1⟩ : ∃ q, q = q0 ++ ob 2 d1 := ⟨_, rfl⟩
  rw [← hq1] at O1 hl1
  have HQ1 := Lib.hid hq1
  rw [← hq1]
  clear hq1 y1
  have y2 := (hb.keepN k1).cell 2
  obtain ⟨wv2, rfl⟩ : ∃ wv, wv = wc := ⟨_, rfl⟩
  go_upto_if 47 with (fail)
  go_cut [4] from 7 (fun v wx => SoFar w (q1 ++ ob 3 d2) v wx)
  case first =>
    by_cases hz : d2.length = 0
    · have HZ := Lib.hid (ob_nil (f := 3) hz)
      have hzi : ¬ (0 : Int) < (d2.length : Int) := by omega
      clear hz
      go_wp2_with (fail)
      go_meet
      case rel => rw [HZ.out, List.append_nil]; exact ⟨B1, e1, rfl, O1, k1⟩
    · have hzi : (0 : Int) < (d2.length : Int) := by omega
      have HZ := Lib.hid (ob_some (f := 3) (l := d2) (by omega))
      have D1 := Lib.hid (AT_calls O1 k1.size (by omega) 3 2 (by unfold tagOk; omega))
      clear hz
      go_wp2_with (fail)
      refine D1.out.mono ?_
      rintro e w1 ⟨E1, f1, rfl, hM1⟩
      have j1 : Kp no w w1 := hM1.kpn O1 (Nat.le_refl _) k1
      have P1 := hM1.own
      have u1 := (hb.keepN j1).cell 2
      obtain ⟨z1, hz1⟩ : ∃ z, z = q1 ++ [3 * 8 + 2] := ⟨_, rfl⟩
      rw [← hz1] at P1
      have hl1 : z1.length ≤ 50000 := by rw [hz1]; simp; omega
      have hr1 : (q1 ++ [3 * 8 + 2]).length = z1.length := by rw [hz1]
      have D2 := Lib.hid (AB_calls P1 j1.size (by omega) (r2.keepN j1) (by omega) lo2)
      have HZ1 := Lib.hid hz1
      rw [hr1]
      clear hM1 hz1 hr1 D1
      go_wp2_with (fail)
      refine D2.out.mono ?_
      rintro e w2 ⟨E2, f2, rfl, hM2⟩
      have j2 : Kp no w w2 := hM2.kpn P1 (Nat.le_refl _) j1
      have F := Lib.hid (show SoFar w (q1 ++ ob 3 d2) (.slice E2 (z1 ++ vint d2.length ++ d2).length f2) w2 from by
        have e1 : q1 ++ ob 3 d2 = z1 ++ vint d2.length ++ d2 := by rw [HZ.out, HZ1.out]; simp [wb]
        rw [e1]; exact ⟨E2, f2, rfl, hM2.own, j2⟩)
      generalize (z1 ++ vint d2.length ++ d2).length = m at *
      clear hM2
      go_wp2_with (fail)
      go_meet
      case rel => exact F.out
  case rest =>
  obtain ⟨B2, e2, rfl, O2, k2⟩ := hcut
  have hl2 : (q1 ++ ob 3 d2).length ≤ 20440 := by have := ob_len (f := 3) d2; simp only [List.length_append]; omega
  obtain ⟨q2, hq2⟩ : ∃ q, q = q1 ++ ob 3 d2 := ⟨_, rfl⟩
  rw [← hq2] at O2 hl2
  have HQ2 := Lib.hid hq2
  rw [← hq2]
  clear hq2 y2
  have y3 := (hb.keepN k2).cell 3
  obtain ⟨wv3, rfl⟩ : ∃ wv, wv = wc := ⟨_, rfl⟩
  go_upto_if 61 with (fail)
  go_cut [4] from 7 (fun v wx => SoFar w (q2 ++ ob 5 d3) v wx)
  case first =>
    by_cases hz : d3.length = 0
    · have HZ := Lib.hid (ob_nil (f := 5) hz)
      have hzi : ¬ (0 : Int) < (d3.length : Int) := by omega
      clear hz
      go_wp2_with (fail)
      go_meet
      case rel => rw [HZ.out, List.append_nil]; exact ⟨B2, e2, rfl, O2, k2⟩
    · have hzi : (0 : Int) < (d3.length : Int) := by omega
      have HZ := Lib.hid (ob_some (f := 5) (l := d3) (by omega))
      have D1 := Lib.hid (AT_calls O2 k2.size (by omega) 5 2 (by unfold tagOk; omega))
      clear hz
      go_wp2_with (fail)
      refine D1.out.mono ?_
      rintro e w1 ⟨E1, f1, rfl, hM1⟩
      have j1 : Kp no w w1 := hM1.kpn O2 (Nat.le_refl _) k2
      have P1 := hM1.own
      have u1 := (hb.keepN j1).cell 3
      obtain ⟨z1, hz1⟩ : ∃ z, z = q2 ++ [5 * 8 + 2] := ⟨_, rfl⟩
      rw [← hz1] at P1
      have hl1 : z1.length ≤ 50000 := by rw [hz1]; simp; omega
      have hr1 : (q2 ++ [5 * 8 + 2]).length = z1.length := by rw [hz1]
      have D2 := Lib.hid (AB_calls P1 j1.size (by omega) (r3.keepN j1) (by omega) lo3)
      have HZ1 := Lib.hid hz1
      rw [hr1]
      clear hM1 hz1 hr1 D1
      go_wp2_with (fail)
      refine D2.out.mono ?_
      rintro e w2 ⟨E2, f2, rfl, hM2⟩
      have j2 : Kp no w w2 := hM2.kpn P1 (Nat.le_refl _) j1
      have F := Lib.hid (show SoFar w (q2 ++ ob 5 d3) (.slice E2 (z1 ++ vint d3.length ++ d3).length f2) w2 from by
        have e1 : q2 ++ ob 5 d3 = z1 ++ vint d3.length ++ d3 := by rw [HZ.out, HZ1.out]; simp [wb]
        rw [e1]; exact ⟨E2, f2, rfl, hM2.own, j2⟩)
      generalize (z1 ++ vint d3.length ++ d3).length = m at *
      clear hM2
      go_wp2_with (fail)
      go_meet
      case rel => exact F.out
  case rest =>
  obtain ⟨B3, e3, rfl, O3, k3⟩ := hcut
  have hl3 : (q2 ++ ob 5 d3).length ≤ 30460 := by have := ob_len (f := 5) d3; simp only [List.length_append]; omega
  obtain ⟨q3, hq3⟩ : ∃ q, q = q2 ++ ob 5 d3 := ⟨_, rfl⟩
  rw [← hq3] at O3 hl3
  have HQ3 := Lib.hid hq3
  rw [← hq3]
  clear hq3 y3
  have F := Lib.hid (show MadeOk w (wb 1 K ++ (ob 2 d1 ++ (ob 3 d2 ++ ob 5 d3))) (.returned (.tuple #[.slice B3 q3.length e3, .nilIface])) wc from by
    have e1 : (wb 1 K ++ (ob 2 d1 ++ (ob 3 d2 ++ ob 5 d3))) = q3 := by rw [HQ3.out, HQ2.out, HQ1.out, HQ0.out]; simp
    rw [e1]
    obtain ⟨A9, c9, h9, hr9, _⟩ := O3.rd
    injection h9 with h9 _ h9'
    subst h9 h9'
    exact ⟨B3, e3, rfl, O3, hr9, k3⟩)
  go_wp2
  go_ret2
  exact F.out

set_option maxHeartbeats 8000000 in
theorem EMarshal_non {w : World} {A1 A2 A3 : Option Addr} {c1 c2 c3 : Nat} {d1 d2 d3 : List Int}
    (r1 : Rd w A1 d1.length c1 d1) (r2 : Rd w A2 d2.length c2 d2) (r3 : Rd w A3 d3.length c3 d3)
    (n1 : d1.length ≤ 10000) (n2 : d2.length ≤ 10000) (n3 : d3.length ≤ 10000)
    (lo1 : Lo w.heap.size A1) (lo2 : Lo w.heap.size A2) (lo3 : Lo w.heap.size A3)
    (g : Nat) (T : TypeId) (hb : Blk w g #[.pointer none, .slice A1 d1.length c1, .slice A2 d2.length c2, .slice A3 d3.length c3] T) :
    Calls Tryz.prog 52 #[.pointer (some ⟨g, 0, none⟩)] w (MadeOk w (ob 2 d1 ++ (ob 3 d2 ++ ob 5 d3))) := by
  have x0 := hb.cell 0
  obtain ⟨q0, hq0⟩ : ∃ q : List Int, q = [] := ⟨_, rfl⟩
  have O0 : Own w 5 w.heap.size (.slice none 0 0) q0 := by rw [hq0]; exact Own.nil _ _ _
  have k0 : Kp no w w := Kp.refl _ _
  have HQ0 := Lib.hid hq0
  have hl0 : q0.length ≤ 400 := by rw [hq0]; simp
  clear hq0
  go_enter Tryz.func52, Tryz.ntmps52
  have y1 := (hb.keepN k0).cell 1
  go_upto_if 33 with (fail)
  go_cut [4] from 7 (fun v wx => SoFar w (q0 ++ ob 2 d1) v wx)
  case first =>
    by_cases hz : d1.length = 0
    · have HZ := Lib.hid (ob_nil (f := 2) hz)
      have hzi : ¬ (0 : Int) < (d1.length : Int) := by omega
      clear hz
      go_wp2_with (fail)
      go_meet
      case rel => rw [HZ.out, List.append_nil]; exact ⟨none, 0, by rw [HQ0.out]; rfl, by rw [HQ0.out]; exact Own.nil _ _ _, k0⟩
    · have hzi : (0 : Int) < (d1.length : Int) := by omega
      have HZ := Lib.hid (ob_some (f := 2) (l := d1) (by omega))
      have D1 := Lib.hid (AT_calls O0 k0.size (by omega) 2 2 (by unfold tagOk; omega))
      clear hz
      go_wp2_with (fail)
      refine D1.out.mono ?_
      rintro e w1 ⟨E1, f1, rfl, hM1⟩
      have j1 : Kp no w w1 := hM1.kpn O0 (Nat.le_refl _) k0
      have P1 := hM1.own
      have u1 := (hb.keepN j1).cell 1
      obtain ⟨z1, hz1⟩ : ∃ z, z = q0 ++ [2 * 8 + 2] := ⟨_, rfl⟩
      rw [← hz1] at P1
      have hl1 : z1.length ≤ 50000 := by rw [hz1]; simp; omega
      have hr1 : (q0 ++ [2 * 8 + 2]).length = z1.length := by rw [hz1]
      have D2 := Lib.hid (AB_calls P1 j1.size (by omega) (r1.keepN j1) (by omega) lo1)
      have HZ1 := Lib.hid hz1
      rw [hr1]
      clear hM1 hz1 hr1 D1
      go_wp2_with (fail)
      refine D2.out.mono ?_
      rintro e w2 ⟨E2, f2, rfl, hM2⟩
      have j2 : Kp no w w2 := hM2.kpn P1 (Nat.le_refl _) j1
      have F := Lib.hid (show SoFar w (q0 ++ ob 2 d1) (.slice E2 (z1 ++ vint d1.length ++ d1).length f2) w2 from by
        have e1 : q0 ++ ob 2 d1 = z1 ++ vint d1.length ++ d1 := by rw [HZ.out, HZ1.out]; simp [wb]
        rw [e1]; exact ⟨E2, f2, rfl, hM2.own, j2⟩)
      generalize (z1 ++ vint d1.length ++ d1).length = m at *
      clear hM2
      go_wp2_with (fail)
      go_meet
      case rel => exact F.out
  case rest =>
  obtain ⟨B1, e1, rfl, O1, k1⟩ := hcut
  have hl1 : (q0 ++ ob 2 d1).length ≤ 10420 := by have := ob_len (f := 2) d1; simp only [List.length_append]; omega
  obtain ⟨q1, hq1⟩ : ∃ q, q = q0 ++ ob 2 d1 := ⟨_, rfl⟩
  rw [← hq1] at O1 hl1
  have HQ1 := Lib.hid hq1
  rw [← hq1]
  clear hq1 y1
  have y2 := (hb.keepN k1).cell 2
  obtain ⟨wv2, rfl⟩ : ∃ wv, wv = wc := ⟨_, rfl⟩
  go_upto_if 47 with (fail)
  go_cut [4] from 7 (fun v wx => SoFar w (q1 ++ ob 3 d2) v wx)
  case first =>
    by_cases hz : d2.length = 0
    · have HZ := Lib.hid (ob_nil (f := 3) hz)
      have hzi : ¬ (0 : Int) < (d2.length : Int) := by omega
      clear hz
      go_wp2_with (fail)
      go_meet
      case rel => rw [HZ.out, List.append_nil]; exact ⟨B1, e1, rfl, O1, k1⟩
    · have hzi : (0 : Int) < (d2.length : Int) := by omega
      have HZ := Lib.hid (ob_some (f := 3) (l := d2) (by omega))
      have D1 := Lib.hid (AT_calls O1 k1.size (by omega) 3 2 (by unfold tagOk; omega))
      clear hz
      go_wp2_with (fail)
      refine D1.out.mono ?_
      rintro e w1 ⟨E1, f1, rfl, hM1⟩
      have j1 : Kp no w w1 := hM1.kpn O1 (Nat.le_refl _) k1
      have P1 := hM1.own
      have u1 := (hb.keepN j1).cell 2
      obtain ⟨z1, hz1⟩ : ∃ z, z = q1 ++ [3 * 8 + 2] := ⟨_, rfl⟩
      rw [← hz1] at P1
      have hl1 : z1.length ≤ 50000 := by rw [hz1]; simp; omega
      have hr1 : (q1 ++ [3 * 8 + 2]).length = z1.length := by rw [hz1]
      have D2 := Lib.hid (AB_calls P1 j1.size (by omega) (r2.keepN j1) (by omega) lo2)
      have HZ1 := Lib.hid hz1
      rw [hr1]
      clear hM1 hz1 hr1 D1
      go_wp2_with (fail)
      refine D2.out.mono ?_
      rintro e w2 ⟨E2, f2, rfl, hM2⟩
      have j2 : Kp no w w2 := hM2.kpn P1 (Nat.le_refl _) j1
      have F := Lib.hid (show SoFar w (q1 ++ ob 3 d2) (.slice E2 (z1 ++ vint d2.length ++ d2).length f2) w2 from by
        have e1 : q1 ++ ob 3 d2 = z1 ++ vint d2.length ++ d2 := by rw [HZ.out, HZ1.out]; simp [wb]
        rw [e1]; exact ⟨E2, f2, rfl, hM2.own, j2⟩)
      generalize (z1 ++ vint d2.length ++ d2).length = m at *
      clear hM2
      go_wp2_with (fail)
      go_meet
      case rel => exact F.out
  case rest =>
  obtain ⟨B2, e2, rfl, O2, k2⟩ := hcut
  have hl2 : (q1 ++ ob 3 d2).length ≤ 20440 := by have := ob_len (f := 3) d2; simp only [List.length_append]; omega
  obtain ⟨q2, hq2⟩ : ∃ q, q = q1 ++ ob 3 d2 := ⟨_, rfl⟩
  rw [← hq2] at O2 hl2
  have HQ2 := Lib.hid hq2
  rw [← hq2]
  clear hq2 y2
  have y3 := (hb.keepN k2).cell 3
  obtain ⟨wv3, rfl⟩ : ∃ wv, wv = wc := ⟨_, rfl⟩
  go_upto_if 61 with (fail)
  go_cut [4] from 7 (fun v wx => SoFar w (q2 ++ ob 5 d3) v wx)
  case first =>
    by_cases hz : d3.length = 0
    · have HZ := Lib.hid (ob_nil (f := 5) hz)
      have hzi : ¬ (0 : Int) < (d3.length : Int) := by omega
      clear hz
      go_wp2_with (fail)
      go_meet
      case rel => rw [HZ.out, List.append_nil]; exact ⟨B2, e2, rfl, O2, k2⟩
    · have hzi : (0 : Int) < (d3.length : Int) := by omega
      have HZ := Lib.hid (ob_some (f := 5) (l := d3) (by omega))
      have D1 := Lib.hid (AT_calls O2 k2.size (by omega) 5 2 (by unfold tagOk; omega))
      clear hz
      go_wp2_with (fail)
      refine D1.out.mono ?_
      rintro e w1 ⟨E1, f1, rfl, hM1⟩
      have j1 : Kp no w w1 := hM1.kpn O2 (Nat.le_refl _) k2
      have P1 := hM1.own
      have u1 := (hb.keepN j1).cell 3
      obtain ⟨z1, hz1⟩ : ∃ z, z = q2 ++ [5 * 8 + 2] := ⟨_, rfl⟩
      rw [← hz1] at P1
      have hl1 : z1.length ≤ 50000 := by rw [hz1]; simp; omega
      have hr1 : (q2 ++ [5 * 8 + 2]).length = z1.length := by rw [hz1]
      have D2 := Lib.hid (AB_calls P1 j1.size (by omega) (r3.keepN j1) (by omega) lo3)
      have HZ1 := Lib.hid hz1
      rw [hr1]
      clear hM1 hz1 hr1 D1
      go_wp2_with (fail)
      refine D2.out.mono ?_
      rintro e w2 ⟨E2, f2, rfl, hM2⟩
      have j2 : Kp no w w2 := hM2.kpn P1 (Nat.le_refl _) j1
      have F := Lib.hid (show SoFar w (q2 ++ ob 5 d3) (.slice E2 (z1 ++ vint d3.length ++ d3).length f2) w2 from by
        have e1 : q2 ++ ob 5 d3 = z1 ++ vint d3.length ++ d3 := by rw [HZ.out, HZ1.out]; simp [wb]
        rw [e1]; exact ⟨E2, f2, rfl, hM2.own, j2⟩)
      generalize (z1 ++ vint d3.length ++ d3).length = m at *
      clear hM2
      go_wp2_with (fail)
      go_meet
      case rel => exact F.out
  case rest =>
  obtain ⟨B3, e3, rfl, O3, k3⟩ := hcut
  have hl3 : (q2 ++ ob 5 d3).length ≤ 30460 := by have := ob_len (f := 5) d3; simp only [List.length_append]; omega
  obtain ⟨q3, hq3⟩ : ∃ q, q = q2 ++ ob 5 d3 := ⟨_, rfl⟩
  rw [← hq3] at O3 hl3
  have HQ3 := Lib.hid hq3
  rw [← hq3]
  clear hq3 y3
  have F := Lib.hid (show MadeOk w (ob 2 d1 ++ (ob 3 d2 ++ ob 5 d3)) (.returned (.tuple #[.slice B3 q3.length e3, .nilIface])) wc from by
    have e1 : (ob 2 d1 ++ (ob 3 d2 ++ ob 5 d3)) = q3 := by rw [HQ3.out, HQ2.out, HQ1.out, HQ0.out]; simp
    rw [e1]
    obtain ⟨A9, c9, h9, hr9, _⟩ := O3.rd
    injection h9 with h9 _ h9'
    subst h9 h9'
    exact ⟨B3, e3, rfl, O3, hr9, k3⟩)
  go_wp2
  go_ret2
  exact F.out
end Go.Proofs.YtddofkeajinjpaaGreatDoor
