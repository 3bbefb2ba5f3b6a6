/- FnKeyRecordSize walked. -/
import Derived.Test.YtipleaojejbkpaaDoorRcE
namespace Go.Proofs.YtipleaojejbkpaaDoor
open Go Go.RowKit
set_option linter.unusedVariables false
set_option linter.unusedSimpArgs false
set_option maxRecDepth 100000

/-- How long a field is, by its bytes. -/
def lg (n : Nat) : Nat := 1 + (vint (n : Int)).length + n
theorem lg_wb (f : Int) (l : List Int) : (wb f l).length = lg l.length := by unfold lg; exact wb_len f l
theorem lg_le (n : Nat) : lg n ≤ n + 11 := by unfold lg; have := (vint_len (n : Int)).2; omega

set_option maxHeartbeats 1000000 in
theorem RecordSize1_calls {w : World} (n : Nat) (hn : n ≤ 1000000) : Calls Tryd.prog 33 #[.int .i64 n] w fun e w' => e = .returned (.int .i64 (lg n : Nat)) ∧ Kp no w w' := by
  have D := Lib.hid (sWireNumber_calls (w := w) (n : Int) (by omega) (by omega))
  have e3 : IntKind.u64.wrap (n : Int) = n := IntWalk.u64_in _ (by omega)
  have hvl := (vint_len (n : Int)).2
  have F := Lib.hid (show ((lg n : Nat) : Int) = 1 + ((vint (n : Int)).length : Int) + n by unfold lg; omega)
  go_enter Tryd.func33, Tryd.ntmps33
  go_wp2_with (fail)
  refine D.out.mono ?_
  rintro e w2 ⟨A2, c2, rfl, M2⟩
  have k2 := M2.kp
  clear M2 D
  generalize (vint (n : Int)).length = m at *
  go_wp2
  go_ret
  exact ⟨by rw [F.out]; rfl, k2⟩

/-- A number so far. -/
def NumSo (w : World) (n : Nat) (v : Value) (wx : World) : Prop := ∃ m : Nat, v = .int .i64 m ∧ m = n ∧ Kp no w wx

set_option maxHeartbeats 8000000 in
theorem fnKeyRecordSize_calls {w : World} (x : RV) (hx : x.At w ∧ 0 ≤ x.seq ∧ x.seq < 18446744073709551616) (hE : RErrs w) :
    Calls Tryd.prog 8 #[.agg x.cells] w (LawOk w) := by
  obtain ⟨hx, hs0, hs1⟩ := hx
  have k0 : Kp no w (w.alloc (.cells x.cells 47)) := (Kp.refl _ _).alloc _
  have hb0 := Blk.new w x.cells 47
  have D1 := Lib.hid (zzFits13_calls x (hx.keepN k0))
  have HOK := Lib.hid (ROk_of hx hs0 hs1)
  obtain ⟨A0, c0, d0, q0, B0, e0, L0⟩ := x
  simp only [RV.cells] at *
  generalize hW : w.alloc (.cells #[.slice A0 d0.length c0, .int .u64 q0, .slice B0 L0.length e0] 47) = W0 at *
  have y0 := hb0.cell 0
  have y1 := hb0.cell 1
  have y2 := hb0.cell 2
  go_enter Tryd.func8, Tryd.ntmps8
  go_wp2_with (fail)
  refine D1.out.mono ?_
  rintro e w1 ⟨k1, b, rfl, hb⟩
  cases b with
  | false =>
    clear hb
    go_wp2
    go_ret
    exact ⟨rfl, k0.then k1⟩
  | true =>
    clear hb D1
    have k01 := k0.then k1
    have hb1 := hb0.keepN k1
    have z0 := hb1.cell 0
    have z1 := hb1.cell 1
    have z2 := hb1.cell 2
    have D2 := Lib.hid (recordFits_calls ⟨A0, c0, d0, q0, B0, e0, L0⟩ (hx.keepN k01))
    go_wp2_with (fail)
    refine D2.out.mono ?_
    rintro e w2 ⟨k2, b, rfl, hb⟩
    have k02 := k01.then k2
    have DL2 := Lib.hid (recordsLive_calls (hE.keepN k02))
    cases b with
    | false =>
      clear hb
      go_wp2_with (first | (go_at_call 32; refine DL2.out.mono ?_; rintro e w3 ⟨rfl, hk3⟩))
      go_ret
      exact ⟨rfl, k02.then hk3⟩
    | true =>
      have hfit := hb rfl
      have HFT := Lib.hid hfit
      obtain ⟨hf0, hf1, _⟩ := hfit
      have hS := hx.s
      simp only at hS
      have hcapS := hS.cap
      have hmaxS := hS.max
      have hR := hx.r
      simp only at hR
      have hcapR := hR.cap
      have hmaxR := hR.max
      have HA := Lib.hid (show ∀ j, j < L0.length → (L0.getD j []).length ≤ 300 from fun j hj => HFT.out.2.2 _ (by rw [List.getD_eq_getElem?_getD, List.getElem?_eq_getElem hj]; simp))
      clear hb D2 DL2 y0 y1 y2 z0 z1 z2
      have hb2 := hb1.keepN k2
      have HB := Lib.hid hb2
      have x0 := hb2.cell 0
      go_upto_if 20 with (fail)
      go_cut [3] from 10 (fun v wx => NumSo w2 (ob 1 d0).length v wx)
      case first =>
        by_cases hz : d0.length = 0
        · have HZ := Lib.hid (ob_nil (f := 1) hz)
          have hzi : ¬ (0 : Int) < (d0.length : Int) := by omega
          clear hz
          go_wp2_with (fail)
          go_meet
          case rel => exact ⟨0, rfl, by rw [HZ.out]; rfl, Kp.refl _ _⟩
        · have HZ := Lib.hid (show (ob 1 d0).length = lg d0.length by rw [ob_some (by omega), lg_wb])
          have hzi : (0 : Int) < (d0.length : Int) := by omega
          have D3 := Lib.hid (RecordSize1_calls (w := w2) d0.length (by omega))
          have hl := lg_le d0.length
          clear hz
          go_wp2_with (fail)
          refine D3.out.mono ?_
          rintro e w3 ⟨rfl, k3⟩
          go_wp2_with (fail)
          go_meet
          case rel => exact ⟨lg d0.length, by go_num, HZ.out.symm, k3⟩
      case rest =>
        obtain ⟨m1, rfl, hm1, k3⟩ := hcut
        have HM1 := Lib.hid hm1
        have hl1 := ob_len (f := 1) d0
        rw [← hm1] at hl1
        clear hm1 x0
        have x1 := (HB.out.keepN k3).cell 1
        obtain ⟨wa, rfl⟩ : ∃ wa, wa = wc := ⟨_, rfl⟩
        go_upto_if 30 with (fail)
        go_cut [3] from 10 (fun v wx => NumSo w2 (m1 + (sqb q0).length) v wx)
        case first =>
          by_cases hz : q0 = 0
          · have HZ := Lib.hid (show sqb q0 = [] from by unfold sqb; rw [if_pos hz])
            have hzi : ¬ (0 : Int) < q0 := by omega
            clear hz
            go_wp2_with (fail)
            go_meet
            case rel => exact ⟨m1, rfl, by rw [HZ.out]; rfl, k3⟩
          · have HZ := Lib.hid (show sqb q0 = [16] ++ vint q0 from by unfold sqb; rw [if_neg hz])
            have hzi : (0 : Int) < q0 := by omega
            have D3 := Lib.hid (sWireNumber_calls (w := wa) q0 hs0 hs1)
            have hl := (vint_len q0).2
            clear hz
            go_wp2_with (fail)
            refine D3.out.mono ?_
            rintro e w3 ⟨A3, c3, rfl, M3⟩
            have k4 := k3.then M3.kp
            have HV := Lib.hid (show (sqb q0).length = 1 + (vint q0).length by rw [HZ.out]; simp; omega)
            clear M3 D3
            generalize (vint q0).length = v0 at *
            go_wp2_with (fail)
            go_meet
            case rel => exact ⟨m1 + (1 + v0), by go_num, by rw [HV.out], k4⟩
        case rest =>
          obtain ⟨m2, rfl, hm2, k4⟩ := hcut
          have hl2 := sqb_len q0
          have hm2' : m2 ≤ 400 := by omega
          have HM2 := Lib.hid hm2
          clear hm2 hl2 x1
          have x2 := (HB.out.keepN k4).cell 2
          obtain ⟨wb0, rfl⟩ : ∃ wb0, wb0 = wc := ⟨_, rfl⟩
          go_wp2
          go_loopw [3, 41] (fun v iv wr => ∃ (k m : Nat), k ≤ L0.length ∧ iv = .int .i64 k ∧ v = .int .i64 m ∧ m ≤ 400 + 400 * k ∧ Hid (m = m2 + (ras (L0.take k)).length) ∧ Kp no w2 wr) (fun _ iv _ => L0.length - (intOf iv).toNat)
          case atStart => exact ⟨0, m2, Nat.zero_le _, rfl, rfl, by omega, Lib.hid (by simp [ras]), k4⟩
          case round =>
            obtain ⟨k, m, hk0, rfl, rfl, hml, HQ, k5⟩ := hrel
            by_cases hlt : k < L0.length
            · obtain ⟨g0, o0, hB0, hc⟩ := (hS.keepN (k02.then k5)).at_ (by omega)
              subst hB0
              obtain ⟨A', c', cu, hR'⟩ := hc k hlt
              have hra := Lib.hid (ras_next L0 k hlt)
              have hal := HA.out k hlt
              have hc1 := hR'.cap
              have hc2 := hR'.max
              clear hR' hc
              generalize L0.getD k [] = y at *
              obtain ⟨wr0, rfl⟩ : ∃ wr0, wr0 = wr := ⟨_, rfl⟩
              go_upto_if 47 with (fail)
              go_cut [7] from 42 to 57 (fun v wx => NumSo wr0 (ob 1 y).length v wx)
              case first =>
                by_cases hz : y.length = 0
                · have HZ := Lib.hid (ob_nil (f := 1) hz)
                  have hzi : ¬ (0 : Int) < (y.length : Int) := by omega
                  clear hz
                  go_wp2_with (fail)
                  go_meet
                  case rel => exact ⟨0, rfl, by rw [HZ.out]; rfl, Kp.refl _ _⟩
                · have HZ := Lib.hid (show (ob 1 y).length = lg y.length by rw [ob_some (by omega), lg_wb])
                  have hzi : (0 : Int) < (y.length : Int) := by omega
                  have D3 := Lib.hid (RecordSize1_calls (w := wr0) y.length (by omega))
                  have hl := lg_le y.length
                  clear hz
                  go_wp2_with (fail)
                  refine D3.out.mono ?_
                  rintro e w3 ⟨rfl, k3'⟩
                  go_wp2_with (fail)
                  go_meet
                  case rel => exact ⟨lg y.length, rfl, HZ.out.symm, k3'⟩
              case rest =>
                obtain ⟨n3, rfl, hn3, k6⟩ := hcut
                have hl3 := ob_len (f := 1) y
                rw [← hn3] at hl3
                have HN3 := Lib.hid (show (aw y).length = lg n3 by unfold aw; rw [lg_wb, hn3])
                clear hn3
                have D3 := Lib.hid (RecordSize1_calls (w := wc) n3 (by omega))
                have hl := lg_le n3
                go_wp2_with (fail)
                refine D3.out.mono ?_
                rintro e w7 ⟨rfl, k7⟩
                generalize lg n3 = u3 at *
                go_wp2_with (fail)
                go_roundw
                case rel => exact ⟨k + 1, m + u3, by omega, by go_num, by go_num, by omega, Lib.hid (by rw [hra.out, List.length_append, HN3.out, HQ.out]; omega), (k5.then k6).then k7⟩
                case measure => simp [intOf]; omega
            · obtain rfl : k = L0.length := by omega
              have hmr : m = (rb ⟨d0, q0, L0⟩).length := by
                rw [HQ.out, List.take_length, HM2.out, HM1.out]; unfold rb; simp only [List.length_append]
              have k05 := k02.then k5
              have b5 := HB.out.keepN k5
              have u0 := b5.cell 0
              have u1 := b5.cell 1
              have u2 := b5.cell 2
              have D8 := Lib.hid (RecordBytes_calls ⟨A0, c0, d0, q0, B0, e0, L0⟩ (hx.keepN k05) hs0 hs1 (by simp only; omega) (fun a ha => Nat.le_trans (HFT.out.2.2 a ha) (by omega)) (by simp only; omega))
              have hrl := rb_len (HOK.out HFT.out)
              simp only at D8
              generalize rb ⟨d0, q0, L0⟩ = P at *
              subst hmr
              clear HQ
              go_wp2_with (fail)
              refine D8.out.mono ?_
              rintro e w8 ⟨A8, c8, rfl, M8⟩
              have k08 := k05.then M8.kp
              have DL8 := Lib.hid (recordsLive_calls (hE.keepN k08))
              clear M8
              go_wp2_with (first | (go_at_call 32; refine DL8.out.mono ?_; rintro e w9 ⟨rfl, hk9⟩))
              go_ret
              exact ⟨rfl, k08.then hk9⟩
end Go.Proofs.YtipleaojejbkpaaDoor
