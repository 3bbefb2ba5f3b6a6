/- base58.FastBase58EncodingAlphabet. -/
import Derived.Test.YtflafpklphgbpaaGreatDoorB58A
import Derived.Test.YtflafpklphgbpaaGreatDoorB58Q
import Derived.OwnWalk
namespace Go.Proofs.YtflafpklphgbpaaGreatDoor
open Go Go.RowKit
set_option linter.unusedVariables false
set_option linter.unusedSimpArgs false
set_option maxRecDepth 100000

theorem BTC_calls {w : World} :
    Calls Tryz.prog 53 #[] w
      fun e w' => ∃ g, e = .returned (.pointer (some ⟨g, 0, none⟩)) ∧ w.heap.size ≤ g ∧ g < w'.heap.size ∧ (∀ i : Nat, i < 58 → w'.cell? ⟨g, 128 + i, none⟩ = some (.int .u8 (alpha.getD i 0))) ∧ Kp no w w' := by
  have D := Lib.hid (NewAlphabet_calls (w := w))
  go_enter Tryz.func53, Tryz.ntmps53
  go_wp2_with (fail)
  refine D.out.mono ?_
  rintro e w2 ⟨g, rfl, h1, h2, h3, h4⟩
  have H3 := Lib.hid h3
  clear h3
  go_wp2
  go_ret
  exact ⟨g, rfl, h1, h2, H3.out, h4⟩

/-- 'b[lo:]' of a whole row, the place written out. -/
theorem cutHigh (g m j : Nat) (hj : j < m) : ∀ W : World, (Instr.slice 23 (.slice (some ⟨g, 0, none⟩) m m) (some (.int .i64 j)) none none).run Tryz.prog W = .ok (.slice (some ⟨g, j, none⟩) (m - j) (m - j)) W := by
  intro W
  obtain ⟨i, hi, hsz⟩ := Option.map_eq_some_iff.1 Tryz.size_byte
  have hel : Tryz.prog.elem 23 = 5 := by simp [Program.elem, Tryz.und_bytes]
  have hu : Tryz.prog.underlying 23 = some (.slice (Tryz.prog.elem 23)) := by rw [hel]; exact Tryz.und_bytes
  rw [run_slice_l W 23 (some ⟨g, 0, none⟩) m m hu .i64 j (by omega) (by omega), hel]
  have ha : (⟨g, 0, none⟩ : Addr).add j = ⟨g, j, none⟩ := by unfold Addr.add; split <;> simp_all
  have hne : ¬ m = j := by omega
  simp [sizeOf, typeInfo, hi, hsz, sliced, Result.andThen, ha, hne]

theorem made_zero (m : Nat) : (madeCells (Value.int .u8 0).cells (m * 1)).toList = nums .u8 (List.replicate m 0 ++ []) := by
  simp only [madeCells, Value.cells, nums]
  apply List.ext_getElem
  · simp
  · intro i h1 h2
    simp [Nat.mod_one]

set_option maxHeartbeats 16000000 in
theorem encode58_calls {w : World} {A : Option Addr} {n c gA : Nat} {l : List Int} (h : Rd w A n c l) (hn : n ≤ 100) (hA : ∀ i : Nat, i < 58 → w.cell? ⟨gA, 128 + i, none⟩ = some (.int .u8 (alpha.getD i 0))) :
    Calls Tryz.prog 84 #[.slice A n c, .pointer (some ⟨gA, 0, none⟩)] w fun e w' => e = .returned (.string (strOfNums (text58 l))) ∧ Kp no w w' := by
  obtain rfl := h.len
  have hcap := h.cap
  have hmax := h.max
  have HB := Lib.hid h.byt
  have cA0 : w.cell? ⟨gA, 128, none⟩ = some (.int .u8 49) := hA 0 (by omega)
  have HA := Lib.hid hA
  have hzl := zs_le l
  have HZ0 := Lib.hid (zs_zero l)
  have HZS := Lib.hid (zs_stop l)
  clear hA
  go_enter Tryz.func84, Tryz.ntmps84
  go_upto_block 0 with (fail)
  go_cut [9] from 23 (fun v wx => v = .int .i64 (zs l : Nat) ∧ wx = w)
  case first =>
    go_wp2
    go_loop [9] (fun iv => ∃ i : Nat, iv = .int .i64 i ∧ i ≤ zs l) (fun iv => l.length - (intOf iv).toNat)
    case atStart => exact ⟨0, rfl, Nat.zero_le _⟩
    case round =>
      obtain ⟨i, rfl, hi⟩ := hrel
      by_cases hiz : i < zs l
      · obtain ⟨g, o, hA0, hc⟩ := h.at_ (by omega)
        subst hA0
        have cz := hc i (by omega)
        rw [HZ0.out i hiz] at cz
        have hil : (i : Int) < (l.length : Int) := by omega
        clear hc
        go_wp2
        go_round
        case rel => exact ⟨i + 1, by go_num, by omega⟩
        case measure => simp [intOf]; omega
      · obtain rfl : i = zs l := by omega
        by_cases hil : zs l < l.length
        · obtain ⟨g, o, hA0, hc⟩ := h.at_ (by omega)
          subst hA0
          have cz := hc (zs l) (by omega)
          have hne2 : (l.getD (zs l) 0 == 0) = false := beq_eq_false_iff_ne.2 (HZS.out hil)
          generalize l.getD (zs l) 0 = y at *
          generalize zs l = z at *
          clear hc
          go_wp2
          go_meet
          case rel => exact ⟨rfl, rfl⟩
        · have hge : ¬ (zs l : Int) < (l.length : Int) := by omega
          generalize zs l = z at *
          clear hil
          go_wp2
          go_meet
          case rel => exact ⟨rfl, rfl⟩
  case rest =>
    obtain ⟨rfl, rfl⟩ := hcut
    obtain ⟨w, rfl⟩ : ∃ w : World, w = wc := ⟨_, rfl⟩
    have HDZ := Lib.hid (dig58_zs l)
    have HTX := Lib.hid (show text58 l = List.replicate (zs l) 49 ++ (dig58 l).map sign from rfl)
    obtain ⟨z, hz⟩ : ∃ z, z = zs l := ⟨_, rfl⟩
    rw [← hz] at hzl HDZ HTX ⊢
    clear HZ0 HZS hz
    obtain ⟨sz, hsz⟩ : ∃ sz : Nat, sz = (l.length - z) * 138 / 100 + 1 := ⟨_, rfl⟩
    have hszb : sz ≤ 140 := by omega
    have hsz1 : 1 ≤ sz := by omega
    have hS : ((l.length : Int) - (z : Int)) * 138 / 100 + 1 = (sz : Int) := by omega
    have HSZ := Lib.hid hsz
    have hnn : (0 : Int) ≤ (l.length : Int) - (z : Int) := by omega
    clear hsz
    obtain ⟨i0, hi, hzz⟩ := Option.map_eq_some_iff.1 Tryz.info_byte
    simp only [Prod.mk.injEq] at hzz
    obtain ⟨hz0, hz1, hz2⟩ := hzz
    obtain ⟨m, hm⟩ : ∃ m : Nat, m = sz * 2 + z := ⟨_, rfl⟩
    have hch := cutHigh w.heap.size m (sz + z) (by omega)
    rw [show m - (sz + z) = sz from by omega] at hch
    have HCH := Lib.hid hch
    have HI := Lib.hid (And.intro hi (And.intro hz0 (And.intro hz1 hz2)))
    clear hi hz0 hz1 hz2 hch
    go_upto_block 2 with (first | (at_make; refine wpList_make_full _ rfl (.tmp 44) (.tmp 44) 23 rfl w.heap.size 5 i0 (.int .u8 0) 1 Tryz.und_bytes HI.out.1 HI.out.2.1 HI.out.2.2.1 .i64 .i64 _ _ m rfl rfl (by omega) (by omega) (by rw [HI.out.2.2.2]; omega) (by simp only [maxLen]; omega) (Nat.le_refl _) ?_; intro w4 hrow hgr; have hch := HCH.out))
    have k4 : Kp no w w4 := (Kp.refl _ _).grown hgr (fun k hk _ => by cases hk)
    have O4 : Own w4 5 w.heap.size (.slice (some ⟨w.heap.size, 0, none⟩) m m) (List.replicate m 0 ++ []) := by
      refine ⟨?_, fun x hx => by simp at hx; omega⟩
      have e : (madeCells (Value.int .u8 0).cells (m * 1)).toList = nums .u8 (List.replicate m 0 ++ []) := made_zero m
      rw [e] at hrow
      simpa using hrow
    clear hrow hgr hch
    obtain ⟨D, hD⟩ : ∃ D, D = dig58 l := ⟨_, rfl⟩
    have HD0 := Lib.hid hD
    have hDl : D.length ≤ sz := by
      rw [hD, HDZ.out]
      have := dig58_len (HB.out.drop z) (by rw [List.length_drop]; omega)
      rw [List.length_drop] at this
      have := HSZ.out
      omega
    have HDD := Lib.hid (show Dg8 D from by rw [hD]; exact dig58_ok HB.out)
    have HDT := Lib.hid (show Tip D from by rw [hD]; exact dig58_tip HB.out)
    have HNL := Lib.hid (show ∀ k, (dig58 ((l.drop z).take k)).length ≤ sz from fun k => by
      have := dig58_len ((HB.out.drop z).take k) (by rw [List.length_take, List.length_drop]; omega)
      rw [List.length_take, List.length_drop] at this
      have h2 := HSZ.out
      have h3 : min k (l.length - z) * 138 / 100 ≤ (l.length - z) * 138 / 100 := Nat.div_le_div_right (Nat.mul_le_mul_right _ (Nat.min_le_right _ _))
      omega)
    clear hD
    go_cut [] from 54 (fun wx => Own wx 5 w.heap.size (.slice (some ⟨w.heap.size, 0, none⟩) m m) (List.replicate (m - D.length) 0 ++ D) ∧ Kp no w wx)
    case first =>
      go_wp2
      go_loopw [7, 10] (fun iv hv wr => ∃ (i : Nat) (N : List Int) (hh : Int), z ≤ i ∧ i ≤ l.length ∧ iv = .int .i64 i ∧ Hid (N = dig58 ((l.drop z).take (i - z))) ∧ hv = .int .i64 hh ∧ hh = sz - 1 - N.length ∧ N.length ≤ sz ∧ Own wr 5 w.heap.size (.slice (some ⟨w.heap.size, 0, none⟩) m m) (List.replicate (m - N.length) 0 ++ N) ∧ Kp no w wr) (fun iv _ _ => l.length - (intOf iv).toNat)
      case atStart => exact ⟨z, [], _, Nat.le_refl _, hzl, rfl, Lib.hid (by simp [dig58]), rfl, by simp, by simp, by simpa using O4, k4⟩
      case round =>
        obtain ⟨i, N, hh, hzi, hil, rfl, HN, rfl, hhe, hNs, O5, k5⟩ := hrel
        by_cases hlt : i < l.length
        · obtain ⟨g, o, hA0, hc⟩ := h.at_ (by omega)
          subst hA0
          have hci := k5.cellN (hc i hlt)
          have hbi : 0 ≤ l.getD i 0 ∧ l.getD i 0 < 256 := by
            have := HB.out (l.getD i 0) (by rw [List.getD_eq_getElem?_getD, List.getElem?_eq_getElem hlt]; simp)
            omega
          have HT := Lib.hid (take_step l z i hzi hlt)
          rw [← HN.out] at HT
          have HDN := Lib.hid (show Dg8 N from by rw [HN.out]; exact dig58_ok ((HB.out.drop z).take _))
          have HLN := Lib.hid (show (dstep N (l.getD i 0)).length ≤ sz from by rw [← HT.out]; exact HNL.out _)
          generalize l.getD i 0 = y at *
          clear hc
          obtain ⟨wo, rfl⟩ : ∃ wo : World, wo = wr := ⟨_, rfl⟩
          have HHE := Lib.hid hhe
          clear hhe
          go_upto_block 3 with (fail)
          go_cut [10] from 59 to 91 (fun hv wx => ∃ (F : List Int) (h2 : Int), hv = .int .i64 h2 ∧ h2 = sz - 1 - F.length ∧ Hid (F = dstep N y) ∧ Own wx 5 w.heap.size (.slice (some ⟨w.heap.size, 0, none⟩) m m) (List.replicate (m - F.length) 0 ++ F) ∧ Kp no w wx)
          case first =>
            have HI := Lib.hid (In58.start N y m)
            go_upto_block 4 with (fail)
            go_cut [8, 11] from 66 to 90 (fun jv kv wx => ∃ (F : List Int) (h2 : Int), jv = .int .i64 h2 ∧ h2 = sz - 1 - F.length ∧ Hid (F = dstep N y) ∧ Own wx 5 w.heap.size (.slice (some ⟨w.heap.size, 0, none⟩) m m) (List.replicate (m - F.length) 0 ++ F) ∧ Kp no w wx)
            case first =>
              go_wp2
              go_loopw [8, 11] (fun jv kv wr => ∃ (p : Nat) (j k : Int) (L : List Int), p ≤ sz ∧ jv = .int .i64 j ∧ j = sz - 1 - p ∧ kv = .int .u32 k ∧ 0 ≤ k ∧ k ≤ 255 ∧ Hid (In58 N y k m p L) ∧ Own wr 5 w.heap.size (.slice (some ⟨w.heap.size, 0, none⟩) m m) L ∧ Kp no w wr) (fun jv _ _ => (intOf jv + 1).toNat)
              case atStart => exact ⟨0, _, y, _, Nat.zero_le _, rfl, by simp, rfl, hbi.1, by omega, HI, O5, k5⟩
              case round =>
                obtain ⟨p, j, k, L, hps, rfl, hj, rfl, hk0, hk1, HX, O6, k6⟩ := hrel
                by_cases hgo : hh < j
                · obtain ⟨q, rfl⟩ : ∃ q : Nat, j = q := ⟨sz - 1 - p, by have := HHE.out; omega⟩
                  have hps2 : p < sz := by omega
                  have hLl := HX.out.len (by omega) (by omega)
                  have hc1 := O6.cellAt (sz + z + q) (by rw [hLl]; omega)
                  have hf1 := O6.freeAt (sz + z + q)
                  have hd := HX.out.digit HDN.out (by omega) (by omega)
                  have HST := Lib.hid (HX.out.step (by omega) (by omega) hk0 hk1 (.inl (by have := HHE.out; omega)))
                  rw [show m - 1 - p = sz + z + q from by omega] at hd HST
                  have HPQ := Lib.hid (show p + q + 1 = sz from by omega)
                  generalize L.getD (sz + z + q) 0 = d at *
                  have hqs : q < sz := by omega
                  clear hj hps2 hLl
                  go_wp2
                  go_roundw
                  case rel => exact ⟨p + 1, _, _, _, by have := HPQ.out; omega, rfl, by have := HPQ.out; omega, rfl, by omega, by omega, HST, O6.set (sz + z + q) ((k + 256 * d) % 58) (by omega) (by omega), k6.setCell (p := ⟨w.heap.size, sz + z + q, none⟩) (fun hh => by have hh : w.heap.size < w.heap.size := hh; omega) _⟩
                  case measure => first | (simp [intOf]; done) | (simp [intOf]; omega)
                · by_cases hkz : 0 < k
                  · have hps1 := HX.out.more hk1 (.inr hkz) hNs HLN.out
                    obtain ⟨q, rfl⟩ : ∃ q : Nat, j = q := ⟨sz - 1 - p, by have := HHE.out; omega⟩
                    have hps2 : p < sz := by omega
                    have hLl := HX.out.len (by omega) (by omega)
                    have hc1 := O6.cellAt (sz + z + q) (by rw [hLl]; omega)
                    have hf1 := O6.freeAt (sz + z + q)
                    have hd := HX.out.digit HDN.out (by omega) (by omega)
                    have HST := Lib.hid (HX.out.step (by omega) (by omega) hk0 hk1 (.inr hkz))
                    rw [show m - 1 - p = sz + z + q from by omega] at hd HST
                    have HPQ := Lib.hid (show p + q + 1 = sz from by omega)
                    generalize L.getD (sz + z + q) 0 = d at *
                    have hqs : q < sz := by omega
                    clear hj hps2 hLl
                    go_wp2
                    go_roundw
                    case rel => exact ⟨p + 1, _, _, _, by have := HPQ.out; omega, rfl, by have := HPQ.out; omega, rfl, by omega, by omega, HST, O6.set (sz + z + q) ((k + 256 * d) % 58) (by omega) (by omega), k6.setCell (p := ⟨w.heap.size, sz + z + q, none⟩) (fun hh => by have hh : w.heap.size < w.heap.size := hh; omega) _⟩
                    case measure => first | (simp [intOf]; done) | (simp [intOf]; omega)
                  · have hk00 : k = 0 := by omega
                    have hfin := HX.out.stop (by have := HHE.out; omega) hk00
                    have hkb : (k != 0) = false := by rw [hk00]; rfl
                    have HFIN := Lib.hid hfin
                    clear hk00 hfin
                    go_wp2
                    go_meet
                    case rel =>
                      have hfin := HFIN.out
                      rw [hfin.2] at O6
                      exact ⟨dstep N y, _, rfl, by rw [hfin.1] <;> omega, Lib.hid rfl, O6, k6⟩
            case rest =>
              obtain ⟨F, h2, rfl, hh2, HF, O6, k6⟩ := hcut
              have HH2 := Lib.hid hh2
              clear hh2
              go_wp2
              go_meet
              case rel => exact ⟨F, h2, rfl, HH2.out, HF, O6, k6⟩
          case rest =>
            obtain ⟨F, h2, rfl, hh2, HF, O6, k6⟩ := hcut
            have HH2 := Lib.hid hh2
            clear hh2
            go_wp2
            go_roundw
            case rel => exact ⟨i + 1, F, h2, by omega, by omega, by go_num, Lib.hid (by rw [HF.out, HT.out]), rfl, HH2.out, by rw [HF.out]; exact HLN.out, O6, k6⟩
            case measure => first | (simp [intOf]; done) | (simp [intOf]; omega)
        · obtain rfl : i = l.length := by omega
          have hND : N = D := by
            rw [HN.out, HD0.out, HDZ.out, List.take_of_length_le (by rw [List.length_drop]; omega)]
          subst hND
          go_wp2
          go_meet
          case rel => exact ⟨O5, k5⟩
    case rest =>
      obtain ⟨O5, k5⟩ := hcut
      rw [Out58.first] at O5
      obtain ⟨wo, rfl⟩ : ∃ wo : World, wo = wc := ⟨_, rfl⟩
      obtain ⟨J, hJ⟩ : ∃ J, J = sz - D.length := ⟨_, rfl⟩
      have hJs : J ≤ sz := by omega
      have HJ := Lib.hid (show J + D.length = sz from by omega)
      have HM := Lib.hid hm
      obtain ⟨q, hq⟩ : ∃ q, q = D.length + z := ⟨_, rfl⟩
      have hS2 : (sz : Int) - (J : Int) + (z : Int) = (q : Int) := by omega
      have HQ := Lib.hid hq
      have hqm : q ≤ m := by omega
      clear hq hJ hm
      have HLS := Lib.hid (show ∀ t i, i ≤ z → t ≤ D.length → (Out58 D m i t).length = m from fun t i h1 h2 => Out58.len h2 (by have := HM.out; omega))
      go_upto_block 6 with (fail)
      go_cut [8] from 92 (fun jv wx => jv = .int .i64 (J : Nat) ∧ wx = wo)
      case first =>
        go_wp2
        go_loop [8] (fun jv => ∃ j : Nat, jv = .int .i64 j ∧ j ≤ J) (fun jv => sz - (intOf jv).toNat)
        case atStart => exact ⟨0, rfl, Nat.zero_le _⟩
        case round =>
          obtain ⟨j, rfl, hj⟩ := hrel
          by_cases hjz : j < J
          · have cz := O5.cellAt (sz + z + j) (by rw [HLS.out 0 0 (Nat.zero_le _) (Nat.zero_le _)]; have := HM.out; omega)
            rw [Out58.zero (by have := HM.out; omega) _ (Nat.zero_le _) (by have := HM.out; have := HJ.out; omega)] at cz
            have hjs : j < sz := by omega
            go_wp2
            go_round
            case rel => exact ⟨j + 1, by go_num, by omega⟩
            case measure => simp [intOf]; omega
          · obtain rfl : j = J := by omega
            by_cases hjs : j < sz
            · have cz := O5.cellAt (sz + z + j) (by rw [HLS.out 0 0 (Nat.zero_le _) (Nat.zero_le _)]; have := HM.out; omega)
              rw [show sz + z + j = m - D.length + 0 from by have := HM.out; have := HJ.out; omega, Out58.get (by omega) (by have := HM.out; omega), show m - D.length + 0 = sz + z + j from by have := HM.out; have := HJ.out; omega] at cz
              have hne2 : (D.getD 0 0 == 0) = false := by
                rcases HDT.out with h0 | h0
                · rw [h0] at HJ
                  have := HJ.out
                  simp at this
                  omega
                · apply beq_eq_false_iff_ne.2
                  intro h1
                  cases hD : D with
                  | nil => rw [hD] at h0; simp at h0
                  | cons d N => rw [hD] at h0 h1; simp at h0 h1; omega
              generalize D.getD 0 0 = y at *
              go_wp2
              go_meet
              case rel => exact ⟨rfl, rfl⟩
            · have hge : ¬ (j : Int) < (sz : Int) := by omega
              go_wp2
              go_meet
              case rel => exact ⟨rfl, rfl⟩
      case rest =>
        obtain ⟨rfl, rfl⟩ := hcut
        have hct := cutTo (P := Tryz.prog) Tryz.und_bytes Tryz.size_byte (some ⟨w.heap.size, 0, none⟩) m m .i64 (q : Int) (by omega) (by omega) (Nat.le_refl _)
        rw [Int.toNat_natCast, HM.out] at hct
        go_upto_if 112 with (fail)
        go_cut [] from 111 (fun wx => Own wx 5 w.heap.size (.slice (some ⟨w.heap.size, 0, none⟩) m m) (Out58 D m z 0) ∧ Kp no w wx)
        case first =>
          by_cases hz0 : 0 < z
          · have hzb : ((z : Int) != 0) = true := by simp; omega
            go_wp2
            go_loopw [7] (fun iv wr => ∃ i : Nat, iv = .int .i64 i ∧ i ≤ z ∧ Own wr 5 w.heap.size (.slice (some ⟨w.heap.size, 0, none⟩) m m) (Out58 D m i 0) ∧ Kp no w wr) (fun iv _ => z - (intOf iv).toNat)
            case atStart => exact ⟨0, rfl, Nat.zero_le _, O5, k5⟩
            case round =>
              obtain ⟨i, rfl, hi, O6, k6⟩ := hrel
              by_cases hiz : i < z
              · have hc1 := O6.cellAt i (by rw [HLS.out 0 i hi (Nat.zero_le _)]; have := HM.out; omega)
                have hf1 := O6.freeAt i
                have hiq : i < q := by have := HQ.out; omega
                generalize (Out58 D m i 0).getD i 0 = y at *
                go_wp2
                go_roundw
                case rel =>
                  have O7 := O6.set i 49 (by omega) (by omega)
                  rw [Out58.sets (by have := HM.out; omega)] at O7
                  exact ⟨i + 1, by go_num, by omega, O7, k6.setCell (p := ⟨w.heap.size, i, none⟩) (fun hh => by have hh : w.heap.size < w.heap.size := hh; omega) _⟩
                case measure => first | (simp [intOf]; done) | (simp [intOf]; omega)
              · obtain rfl : i = z := by omega
                go_wp2
                go_meet
                case rel => exact ⟨O6, k6⟩
          · have hzb : ((z : Int) != 0) = false := by simp; omega
            go_wp2
            go_meet
            case rel =>
              have hz00 : z = 0 := by omega
              rw [hz00]
              exact ⟨O5, k5⟩
        case rest =>
          obtain ⟨O6, k6⟩ := hcut
          obtain ⟨wp, rfl⟩ : ∃ wp : World, wp = wc := ⟨_, rfl⟩
          go_wp2
          go_loopw [7, 8] (fun iv jv wr => ∃ t a b : Nat, iv = .int .i64 a ∧ jv = .int .i64 b ∧ t ≤ D.length ∧ Hid (a = z + t) ∧ Hid (b = J + t) ∧ Own wr 5 w.heap.size (.slice (some ⟨w.heap.size, 0, none⟩) m m) (Out58 D m z t) ∧ Kp no w wr) (fun _ jv _ => sz - (intOf jv).toNat)
          case atStart => exact ⟨0, z, J, rfl, rfl, Nat.zero_le _, Lib.hid rfl, Lib.hid rfl, O6, k6⟩
          case round =>
            obtain ⟨t, a, b, rfl, rfl, ht, HA2, HB2, O7, k7⟩ := hrel
            have hLl := HLS.out t z (Nat.le_refl _) ht
            by_cases hbs : b < sz
            · have htD : t < D.length := by have := HB2.out; have := HJ.out; omega
              have hc1 := O7.cellAt (sz + z + b) (by rw [hLl]; have := HM.out; omega)
              have hc2 := O7.cellAt a (by rw [hLl]; have := HM.out; have := HA2.out; omega)
              have hf1 := O7.freeAt a
              rw [show sz + z + b = m - D.length + t from by have := HM.out; have := HJ.out; have := HB2.out; omega, Out58.get ht (by have := HM.out; omega), show m - D.length + t = sz + z + b from by have := HM.out; have := HJ.out; have := HB2.out; omega] at hc1
              have hd := HDD.out (D.getD t 0) (by rw [List.getD_eq_getElem?_getD, List.getElem?_eq_getElem htD]; simp)
              have O8 := O7.set a (sign (D.getD t 0)) (sign_byt _).1 (sign_byt _).2
              rw [HA2.out, Out58.next htD (by have := HM.out; omega), ← HA2.out] at O8
              obtain ⟨d, hdd⟩ : ∃ d : Nat, D.getD t 0 = d := ⟨(D.getD t 0).toNat, by omega⟩
              rw [hdd] at hc1 hd O8
              have hd58 : d < 58 := by omega
              have cA := k7.cellN (HA.out d hd58)
              have hsg : sign (d : Int) = alpha.getD d 0 := by simp [sign]
              rw [← hsg] at cA
              generalize sign (d : Int) = y at *
              generalize (Out58 D m z t).getD a 0 = y0 at *
              have haq : a < q := by have := HQ.out; have := HA2.out; omega
              have ham : a < sz * 2 + z := by have := HM.out; have := HA2.out; omega
              clear hdd hsg hd
              go_wp2
              go_region
              all_goals
                go_wp2
                go_roundw
                case rel => exact ⟨t + 1, a + 1, b + 1, by go_num, by go_num, by omega, Lib.hid (by have := HA2.out; omega), Lib.hid (by have := HB2.out; omega), O8.keepN (Kp.refl _ _).drew, (k7.setCell (p := ⟨w.heap.size, a, none⟩) (fun hh => by have hh : w.heap.size < w.heap.size := hh; omega) _).drew⟩
                case measure => first | (simp [intOf]; done) | (simp [intOf]; omega)
            · have htD : t = D.length := by have := HB2.out; have := HJ.out; omega
              have hge : ¬ (b : Int) < (sz : Int) := by omega
              subst htD
              obtain ⟨A9, c9, h9, R9, _⟩ := O7.rd
              injection h9 with h9 h10 h11
              subst h9
              rw [← h10, ← h11] at R9
              have R10 := (R9.take q hqm).str
              rw [show (Out58 D m z D.length).take q = text58 l from by rw [HQ.out, Out58.done, HTX.out, ← HD0.out], HM.out] at R10
              clear h10 h11 R9
              go_wp2
              go_ret
              exact ⟨rfl, k7⟩
end Go.Proofs.YtflafpklphgbpaaGreatDoor
