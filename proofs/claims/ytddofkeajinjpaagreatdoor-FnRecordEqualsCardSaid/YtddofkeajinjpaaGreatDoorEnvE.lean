/- A small envelope as it is written; sameEnvelope, envelopesLive. -/
import Derived.Test.YtddofkeajinjpaaGreatDoorEnvC
import Derived.Test.YtddofkeajinjpaaGreatDoorMar
import Derived.Test.YtddofkeajinjpaaGreatDoorLive
import Derived.Deep.RegionHeld3
namespace Go.Proofs.YtddofkeajinjpaaGreatDoor
open Go Go.RowKit
set_option linter.unusedVariables false
set_option linter.unusedSimpArgs false
set_option maxRecDepth 100000

set_option maxHeartbeats 2000000 in
theorem EMarshal_some {w : World} {A1 A2 A3 : Option Addr} {c1 c2 c3 : Nat} {l1 l2 : List Int} (h1 : Rd w A1 l1.length c1 l1) (h2 : Rd w A2 l2.length c2 l2) (p1 : (0 : Int) < l1.length) (p2 : (0 : Int) < l2.length) (s1 : l1.length ≤ 1000) (s2 : l2.length ≤ 1000)
    (lo1 : Lo w.heap.size A1) (lo2 : Lo w.heap.size A2) (g : Nat) (T : TypeId) (hb : Blk w g #[.pointer none, .slice A1 l1.length c1, .slice A2 l2.length c2, .slice A3 0 c3] T) :
    Calls Tryz.prog 52 #[.pointer (some ⟨g, 0, none⟩)] w (MadeOk w (wb 2 l1 ++ wb 3 l2)) := by
  have x0 := hb.cell 0
  have x1 := hb.cell 1
  have D1 := Lib.hid (AT_calls (Own.nil w 5 w.heap.size) (Nat.le_refl _) (by simp) 2 2 (by unfold tagOk; omega))
  go_enter Tryz.func52, Tryz.ntmps52
  go_wp2_with (fail)
  refine D1.out.mono ?_
  rintro e w1 ⟨B1, cc1, rfl, hM1⟩
  have k1 : Kp no w w1 := hM1.kpn (Own.nil w 5 w.heap.size) (Nat.le_refl _) (Kp.refl _ _)
  have O1 := hM1.own
  have b1 := (hb.keepN k1).cell 1
  obtain ⟨q1, hq1⟩ : ∃ q, q = ([] : List Int) ++ [2 * 8 + 2] := ⟨_, rfl⟩
  rw [← hq1] at O1
  have hl1 : q1.length ≤ 5 := by rw [hq1]; simp
  have hr1 : (([] : List Int) ++ [2 * 8 + 2]).length = q1.length := by rw [hq1]
  have D2 := Lib.hid (AB_calls O1 k1.size (by omega) (h1.keepN k1) (by omega) lo1)
  have HQ1 := Lib.hid hq1
  rw [hr1]
  clear hM1 hq1 hr1 D1
  go_wp2_with (fail)
  refine D2.out.mono ?_
  rintro e w2 ⟨B2, cc2, rfl, hM2⟩
  have k2 : Kp no w w2 := hM2.kpn O1 (Nat.le_refl _) k1
  have O2 := hM2.own
  have b2 := (hb.keepN k2).cell 2
  obtain ⟨q2, hq2⟩ : ∃ q, q = q1 ++ vint l1.length ++ l1 := ⟨_, rfl⟩
  have hr2 : (q1 ++ vint l1.length ++ l1).length = q2.length := by rw [hq2]
  rw [← hq2] at O2
  have hl2 : q2.length ≤ 1100 := by rw [hq2]; have := (vint_len l1.length).2; simp only [List.length_append]; omega
  have D3 := Lib.hid (AT_calls O2 k2.size (by omega) 3 2 (by unfold tagOk; omega))
  have HQ2 := Lib.hid hq2
  rw [hr2]
  clear hM2 hq2 hr2 D2
  go_wp2_with (fail)
  refine D3.out.mono ?_
  rintro e w3 ⟨B3, cc3, rfl, hM3⟩
  have k3 : Kp no w w3 := hM3.kpn O2 (Nat.le_refl _) k2
  have O3 := hM3.own
  have b3 := (hb.keepN k3).cell 2
  obtain ⟨q3, hq3⟩ : ∃ q, q = q2 ++ [3 * 8 + 2] := ⟨_, rfl⟩
  have hr3 : (q2 ++ [3 * 8 + 2]).length = q3.length := by rw [hq3]
  rw [← hq3] at O3
  have hl3 : q3.length ≤ 1110 := by rw [hq3]; simp only [List.length_append, List.length_cons, List.length_nil]; omega
  have D4 := Lib.hid (AB_calls O3 k3.size (by omega) (h2.keepN k3) (by omega) lo2)
  have HQ3 := Lib.hid hq3
  rw [hr3]
  clear hM3 hq3 hr3 D3
  go_wp2_with (fail)
  refine D4.out.mono ?_
  rintro e w4 ⟨B4, cc4, rfl, hM4⟩
  have k4 : Kp no w w4 := hM4.kpn O3 (Nat.le_refl _) k3
  have b4 := (hb.keepN k4).cell 3
  have e1 : wb 2 l1 ++ wb 3 l2 = q3 ++ vint l2.length ++ l2 := by rw [HQ3.out, HQ2.out, HQ1.out]; simp [wb]
  have F := Lib.hid (show MadeOk w (wb 2 l1 ++ wb 3 l2) (.returned (.tuple #[.slice B4 (q3 ++ vint l2.length ++ l2).length cc4, .nilIface])) w4 from ⟨B4, cc4, by rw [e1], by rw [e1]; exact ⟨hM4.own, hM4.rd, k4⟩⟩)
  generalize (q3 ++ vint l2.length ++ l2).length = m at *
  go_wp2
  go_ret2
  exact F.out

theorem elive : wb 2 [1] ++ wb 3 [2] = [18, 1, 1, 26, 1, 2] := by simp [wb, vint_1]
theorem elive_res {x : EV} {ok : Bool} (h : ERes [18, 1, 1, 26, 1, 2] x ok) : ok = true ∧ x.has = false ∧ x.d2 = [2] := by
  have a := From.step (From.start (wb 2 [1] ++ wb 3 [2])) ((wb_byt (by omega) (by omega) (Byt.one (by omega) (by omega)) (by simp)).app (wb_byt (by omega) (by omega) (Byt.one (by omega) (by omega)) (by simp))) (by simp [wb]) (hd_wb 2 [1] (wb 3 [2]) (by omega) (by omega) (by simp))
  have b := a.step (wb_byt (by omega) (by omega) (Byt.one (by omega) (by omega)) (by simp)) (by simp [wb]) (r := []) (by have := hd_wb 3 [2] [] (by omega) (by omega) (by simp); rwa [List.append_nil] at this)
  have hw := b.done
  rw [elive] at hw
  unfold ERes at h
  have e1 : efin (whole estep [18, 1, 1, 26, 1, 2] ES.zero) = .ok ⟨none, [1], [2], []⟩ := by
    rw [whole_ok hw]
    simp [fo, estep, ES.zero, efin]
  rw [e1] at h
  obtain ⟨h1, h2⟩ := h
  exact ⟨h1, h2.key.1, h2.pl⟩

end Go.Proofs.YtddofkeajinjpaaGreatDoor
