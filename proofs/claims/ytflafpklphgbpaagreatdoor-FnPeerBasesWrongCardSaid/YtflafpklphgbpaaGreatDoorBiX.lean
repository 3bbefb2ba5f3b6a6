/- spec.peerBits: the digits of some bits each. The alphabets of the bases, by their letters; laws.peerBase; spec.PeerBased in the bases of bits. -/
import Derived.Test.YtflafpklphgbpaaGreatDoorB32K
import Derived.Test.YtflafpklphgbpaaGreatDoorShaA
import Derived.Deep.QuietTactic
import Derived.BigQuiet
namespace Go.Proofs.YtflafpklphgbpaaGreatDoor
open Go Go.RowKit
set_option linter.unusedVariables false
set_option linter.unusedSimpArgs false
set_option maxRecDepth 100000

/-- The letter of a digit. -/
def ltr (dl : List Int) (d : Int) : Int := dl.getD d.toNat 0
theorem subG (dl : List Int) (n : Nat) (hn : dl.length = n) (hm : n ≤ 1000) : Hid (∀ d : Int, 0 ≤ d → d < (n : Int) → ∀ W : World, (Instr.slice 9 (.string (strOfNums dl)) (some (.int .i64 d)) (some (.int .i64 (d + 1))) none).run Tryz.prog W = .ok (.string ⟨#[UInt8.ofNat (ltr dl d).toNat]⟩) W) := by
  refine Lib.hid (fun d h0 h1 W => ?_)
  have hs := strOfNums_size dl
  rw [run_slice_string W 9 _ .i64 .i64 d (d + 1) Tryz.underlying9 h0 (by omega) (by omega)]
  have e : (strOfNums dl).extract d.toNat (d + 1).toNat = ⟨#[UInt8.ofNat (ltr dl d).toNat]⟩ := by
    apply ByteArray.ext
    apply Array.toList_inj.1
    rw [ByteArray.data_extract, Array.toList_extract, strOfNums_data, show (d + 1).toNat = d.toNat + 1 from by omega]
    simp only [List.extract, Nat.add_sub_cancel_left, ltr]
    rw [List.drop_eq_getElem_cons (by simp; omega)]
    simp [List.getD_eq_getElem?_getD, List.getElem?_eq_getElem (show d.toNat < dl.length by omega)]
  rw [e]
set_option maxHeartbeats 8000000 in
theorem bits4_calls {w : World} {A : Option Addr} {n c : Nat} {l dl : List Int} {al : ByteArray} (h : Rd w A n c l) (hn : n ≤ 100)
    (hsub0 : Hid (∀ d : Int, 0 ≤ d → d < 16 → ∀ W : World, (Instr.slice 9 (.string al) (some (.int .i64 d)) (some (.int .i64 (d + 1))) none).run Tryz.prog W = .ok (.string ⟨#[UInt8.ofNat (ltr dl d).toNat]⟩) W)) :
    Calls Tryz.prog 14 #[.slice A n c, .string al, .int .i64 4] w fun e w' => e = .returned (.string (strOfNums ((dgs 4 l).map (ltr dl)))) ∧ Kp no w w' := by
  obtain rfl := h.len
  have hcap := h.cap
  have hmax := h.max
  have HB := Lib.hid h.byt
  have HRR := Lib.hid h
  clear h
  go_enter Tryz.func14, Tryz.ntmps14
  go_wp2
  go_loopw [7, 8, 9, 16] (fun sv hv bv iv wx => ∃ (i b : Nat) (hold : Int) (s : ByteArray) (O : List Int), i ≤ l.length ∧ iv = .int .i64 i ∧ bv = .int .i64 b ∧ hv = .int .i64 hold ∧ sv = .string s ∧ b < 4 ∧ 0 ≤ hold ∧ hold < 16 ∧ Hid (hold < 2 ^ b) ∧ s.size ≤ 2 * i ∧ Hid (s = strOfNums (O.map (ltr dl))) ∧ Hid (dgs 4 l = O ++ st 4 (l.drop i) b hold) ∧ Kp no w wx) (fun _ _ _ iv _ => l.length - (intOf iv).toNat)
  case atStart => exact ⟨0, 0, 0, _, [], Nat.zero_le _, rfl, rfl, rfl, rfl, by omega, by omega, by omega, Lib.hid (by decide), by decide, Lib.hid rfl, Lib.hid (by rw [List.drop_zero]; rfl), Kp.refl _ _⟩
  case round =>
    obtain ⟨i, b, hold, s, O, hi, rfl, rfl, rfl, rfl, hb5, hh0, hh1, HH, hs, HS, HD, hkp⟩ := hrel
    have HKP := Lib.hid hkp
    clear hkp
    by_cases hlt : i < l.length
    · obtain ⟨g, o, rfl, hc⟩ := (HRR.out.keepN HKP.out).at_ (by omega)
      have hci := hc i hlt
      have hbi := HB.out.getD i
      have HDR := Lib.hid (show st 4 (l.drop i) b hold = em 4 (b + 8) (hold * 256 + l.getD i 0) ++ st 4 (l.drop (i + 1)) ((b + 8) % 4) ((hold * 256 + l.getD i 0) % 2 ^ ((b + 8) % 4)) from by
        rw [List.drop_eq_getElem_cons hlt, st]; simp [List.getD_eq_getElem?_getD, List.getElem?_eq_getElem hlt])
      generalize l.getD i 0 = y at *
      clear hc
      have hor := i64_join8 hold y hh0 (by omega) hbi.1 hbi.2
      obtain ⟨H, hH⟩ : ∃ H, H = hold * 256 + y := ⟨_, rfl⟩
      rw [← hH] at hor
      have HHH := Lib.hid hH
      have hHr : 0 ≤ H ∧ H < 17000 := by omega
      clear hH
      go_upto_block 2 with (fail)
      go_cut [7, 9] from 27 to 46 (fun sv bv wx => Kp no w wx ∧ ∃ s', sv = .string s' ∧ bv = .int .i64 ((b + 8) % 4 : Nat) ∧ s'.size ≤ 2 * i + 2 ∧ Hid (s' = strOfNums ((O ++ em 4 (b + 8) H).map (ltr dl))))
      case first =>
        obtain ⟨wo, rfl⟩ : ∃ wo : World, wo = wr := ⟨_, rfl⟩
        go_wp2
        go_loopw [7, 9] (fun sv bv wx => ∃ (j b' : Nat) (s' : ByteArray), j ≤ (b + 8) / 4 ∧ bv = .int .i64 b' ∧ Hid (b' + 4 * j = b + 8) ∧ sv = .string s' ∧ s'.size ≤ 2 * i + j ∧ Hid (s' = strOfNums ((O ++ (em 4 (b + 8) H).take j).map (ltr dl))) ∧ Kp no w wx) (fun _ bv _ => (intOf bv).toNat)
        case atStart => exact ⟨0, b + 8, s, Nat.zero_le _, by simp, Lib.hid rfl, rfl, by omega, Lib.hid (by simpa using HS.out), HKP.out⟩
        case round =>
          obtain ⟨j, b', s', hj, rfl, HBJ, rfl, hs', HS', hkp⟩ := hrel
          have HKQ := Lib.hid hkp
          clear hkp
          by_cases hb' : 4 ≤ b'
          · obtain ⟨q, rfl⟩ : ∃ q, b' = q + 4 := ⟨b' - 4, by omega⟩
            have hq : q ≤ 12 := by have := HBJ.out; omega
            have hp := pow_small hq
            have hdv : 0 ≤ H / 2 ^ q ∧ H / 2 ^ q < 17000 := by
              refine ⟨Int.ediv_nonneg hHr.1 (by omega), ?_⟩
              exact Int.lt_of_le_of_lt (Int.ediv_le_self _ hHr.1) hHr.2
            have ha := i64_mask (H / 2 ^ q) 4 hdv.1 (by omega) (by omega)
            rw [show (2 : Int) ^ 4 - 1 = 15 from rfl, show (2 : Int) ^ 4 = 16 from rfl] at ha
            have HT := Lib.hid (em_take 4 (b + 8) H j (by have := HBJ.out; omega))
            have HDG := Lib.hid (show dg 4 (b + 8 - 4 * (j + 1)) H = H / 2 ^ q % 16 from by
              unfold dg; rw [show b + 8 - 4 * (j + 1) = q from by have := HBJ.out; omega]; rfl)
            have hd0 : 0 ≤ H / 2 ^ q % 16 := Int.emod_nonneg _ (by omega)
            have hd1 : H / 2 ^ q % 16 < 16 := Int.emod_lt_of_pos _ (by omega)
            have hqi : ((q + 4 : Nat) : Int) - 4 = (q : Int) := by omega
            generalize hdd : H / 2 ^ q % 16 = d at *
            have hsub := hsub0.out d hd0 hd1
            obtain ⟨t, ht⟩ : ∃ t : ByteArray, t = ⟨#[UInt8.ofNat (ltr dl d).toNat]⟩ := ⟨_, rfl⟩
            rw [← ht] at hsub
            have hts : t.size = 1 := by rw [ht]; rfl
            have hss2 : ¬ 9223372036854775807 < s'.size + t.size := by omega
            have HT3 := Lib.hid ht
            have hb5 : (4 : Int) ≤ ((q + 4 : Nat) : Int) := by omega
            clear hdd ht hp
            go_wp2
            go_quiet (fail)
            go_wp2
            go_roundw
            case rel => exact ⟨j + 1, q, s' ++ t, by have := HBJ.out; omega, rfl, Lib.hid (by have := HBJ.out; omega), rfl, by rw [ByteArray.size_append]; omega, Lib.hid (by rw [HT.out, HDG.out, ← List.append_assoc, List.map_append, HS'.out, HT3.out]; exact cat_one _ _), HKQ.out.then (Kp.byDraws _ _)⟩
            case measure => simp [intOf]; omega
          · have hb5 : ¬ (4 : Int) ≤ (b' : Int) := by omega
            have hjj : j = (b + 8) / 4 := by have := HBJ.out; omega
            have HJ := Lib.hid hjj
            have HE := Lib.hid (show b' = (b + 8) % 4 from by have := HBJ.out; omega)
            clear hjj
            go_wp2
            go_meet
            case rel => exact ⟨HKQ.out, s', rfl, by rw [HE.out], by have := HJ.out; omega, Lib.hid (by rw [HS'.out, List.take_of_length_le (by rw [em_len, HJ.out]; exact Nat.le_refl _)])⟩
      case rest =>
        obtain ⟨hkp, s', rfl, rfl, hs', HS'⟩ := hcut
        have HKC := Lib.hid hkp
        clear hkp
        obtain ⟨q, hq⟩ : ∃ q, q = (b + 8) % 4 := ⟨_, rfl⟩
        rw [← hq]
        have hq5 : q < 4 := by omega
        have hp := pow_small (show q ≤ 12 by omega)
        have ha := i64_mask H q hHr.1 (by omega) (by omega)
        have HQ := Lib.hid hq
        have hm0 : 0 ≤ H % 2 ^ q := Int.emod_nonneg _ (by omega)
        have HM := Lib.hid (show H % 2 ^ q < 2 ^ q from Int.emod_lt_of_pos _ (by omega))
        have hm1 : H % 2 ^ q < 16 := by
          have : ∀ i : Nat, i < 4 → (2 : Int) ^ i < 16 := by decide
          have := this q hq5
          have := HM.out
          omega
        clear hq
        go_wp2
        go_roundw
        case rel => exact ⟨i + 1, q, H % 2 ^ q, s', O ++ em 4 (b + 8) H, by omega, by go_num, rfl, rfl, rfl, hq5, hm0, hm1, HM, by omega, HS', Lib.hid (by rw [HD.out, HDR.out, ← HHH.out, List.append_assoc, HQ.out]), HKC.out⟩
        case measure => simp [intOf]; omega
    · obtain rfl : i = l.length := by omega
      have HDR := Lib.hid (show dgs 4 l = O ++ (if 0 < b then [hold * 2 ^ (4 - b) % 2 ^ 4] else []) from by rw [HD.out, List.drop_length, st])
      clear HD
      by_cases hb0 : 0 < b
      · have hbi : (0 : Int) < (b : Int) := by omega
        obtain ⟨q, hq⟩ : ∃ q, q + b = 4 := ⟨4 - b, by omega⟩
        have hqi : (4 : Int) - (b : Int) = (q : Int) := by omega
        have hqw : IntKind.i64.wrap ((4 : Int) - (b : Int)) = (q : Int) := by rw [IntKind.wrap_i64]; omega
        have HQ := Lib.hid (show 4 - b = q from by omega)
        have hp := pow_small (show q ≤ 12 by omega)
        have hmul : 0 ≤ hold * 2 ^ q ∧ hold * 2 ^ q ≤ 15 * 4096 := by
          refine ⟨Int.mul_nonneg hh0 (by omega), ?_⟩
          exact Int.mul_le_mul (by omega) hp.2 (by omega) (by omega)
        have ha := i64_mask (hold * 2 ^ q) 4 hmul.1 (by omega) (by omega)
        rw [show (2 : Int) ^ 4 - 1 = 15 from rfl, show (2 : Int) ^ 4 = 16 from rfl] at ha
        have hmw : IntKind.i64.wrap (hold * 2 ^ q) = hold * 2 ^ q := by rw [IntKind.wrap_i64]; omega
        have hd0 : 0 ≤ hold * 2 ^ q % 16 := Int.emod_nonneg _ (by omega)
        have hd1 : hold * 2 ^ q % 16 < 16 := Int.emod_lt_of_pos _ (by omega)
        have HF := Lib.hid (show dgs 4 l = O ++ [hold * 2 ^ q % 16] from by rw [HDR.out, if_pos hb0, HQ.out]; rfl)
        generalize hdd : hold * 2 ^ q % 16 = d at *
        have hsub := hsub0.out d hd0 hd1
        obtain ⟨t, ht⟩ : ∃ t : ByteArray, t = ⟨#[UInt8.ofNat (ltr dl d).toNat]⟩ := ⟨_, rfl⟩
        rw [← ht] at hsub
        have hts : t.size = 1 := by rw [ht]; rfl
        have hss2 : ¬ 9223372036854775807 < s.size + t.size := by omega
        have HT3 := Lib.hid ht
        have HFIN := Lib.hid (show s ++ t = strOfNums ((dgs 4 l).map (ltr dl)) from by rw [HF.out, List.map_append, HS.out, HT3.out]; exact cat_one _ _)
        clear hdd ht hp hq
        go_wp2
        go_quiet (fail)
        go_wp2
        go_ret
        exact ⟨by rw [← HFIN.out]; rfl, HKP.out.then (Kp.byDraws _ _)⟩
      · have hbi : ¬ (0 : Int) < (b : Int) := by omega
        have HFIN := Lib.hid (show s = strOfNums ((dgs 4 l).map (ltr dl)) from by rw [HDR.out, if_neg hb0, List.append_nil, HS.out])
        clear hb0
        go_wp2
        go_ret
        exact ⟨by rw [← HFIN.out]; rfl, HKP.out⟩
set_option maxHeartbeats 8000000 in
theorem bits5_calls {w : World} {A : Option Addr} {n c : Nat} {l dl : List Int} {al : ByteArray} (h : Rd w A n c l) (hn : n ≤ 100)
    (hsub0 : Hid (∀ d : Int, 0 ≤ d → d < 32 → ∀ W : World, (Instr.slice 9 (.string al) (some (.int .i64 d)) (some (.int .i64 (d + 1))) none).run Tryz.prog W = .ok (.string ⟨#[UInt8.ofNat (ltr dl d).toNat]⟩) W)) :
    Calls Tryz.prog 14 #[.slice A n c, .string al, .int .i64 5] w fun e w' => e = .returned (.string (strOfNums ((dgs 5 l).map (ltr dl)))) ∧ Kp no w w' := by
  obtain rfl := h.len
  have hcap := h.cap
  have hmax := h.max
  have HB := Lib.hid h.byt
  have HRR := Lib.hid h
  clear h
  go_enter Tryz.func14, Tryz.ntmps14
  go_wp2
  go_loopw [7, 8, 9, 16] (fun sv hv bv iv wx => ∃ (i b : Nat) (hold : Int) (s : ByteArray) (O : List Int), i ≤ l.length ∧ iv = .int .i64 i ∧ bv = .int .i64 b ∧ hv = .int .i64 hold ∧ sv = .string s ∧ b < 5 ∧ 0 ≤ hold ∧ hold < 32 ∧ Hid (hold < 2 ^ b) ∧ s.size ≤ 2 * i ∧ Hid (s = strOfNums (O.map (ltr dl))) ∧ Hid (dgs 5 l = O ++ st 5 (l.drop i) b hold) ∧ Kp no w wx) (fun _ _ _ iv _ => l.length - (intOf iv).toNat)
  case atStart => exact ⟨0, 0, 0, _, [], Nat.zero_le _, rfl, rfl, rfl, rfl, by omega, by omega, by omega, Lib.hid (by decide), by decide, Lib.hid rfl, Lib.hid (by rw [List.drop_zero]; rfl), Kp.refl _ _⟩
  case round =>
    obtain ⟨i, b, hold, s, O, hi, rfl, rfl, rfl, rfl, hb5, hh0, hh1, HH, hs, HS, HD, hkp⟩ := hrel
    have HKP := Lib.hid hkp
    clear hkp
    by_cases hlt : i < l.length
    · obtain ⟨g, o, rfl, hc⟩ := (HRR.out.keepN HKP.out).at_ (by omega)
      have hci := hc i hlt
      have hbi := HB.out.getD i
      have HDR := Lib.hid (show st 5 (l.drop i) b hold = em 5 (b + 8) (hold * 256 + l.getD i 0) ++ st 5 (l.drop (i + 1)) ((b + 8) % 5) ((hold * 256 + l.getD i 0) % 2 ^ ((b + 8) % 5)) from by
        rw [List.drop_eq_getElem_cons hlt, st]; simp [List.getD_eq_getElem?_getD, List.getElem?_eq_getElem hlt])
      generalize l.getD i 0 = y at *
      clear hc
      have hor := i64_join8 hold y hh0 (by omega) hbi.1 hbi.2
      obtain ⟨H, hH⟩ : ∃ H, H = hold * 256 + y := ⟨_, rfl⟩
      rw [← hH] at hor
      have HHH := Lib.hid hH
      have hHr : 0 ≤ H ∧ H < 17000 := by omega
      clear hH
      go_upto_block 2 with (fail)
      go_cut [7, 9] from 27 to 46 (fun sv bv wx => Kp no w wx ∧ ∃ s', sv = .string s' ∧ bv = .int .i64 ((b + 8) % 5 : Nat) ∧ s'.size ≤ 2 * i + 2 ∧ Hid (s' = strOfNums ((O ++ em 5 (b + 8) H).map (ltr dl))))
      case first =>
        obtain ⟨wo, rfl⟩ : ∃ wo : World, wo = wr := ⟨_, rfl⟩
        go_wp2
        go_loopw [7, 9] (fun sv bv wx => ∃ (j b' : Nat) (s' : ByteArray), j ≤ (b + 8) / 5 ∧ bv = .int .i64 b' ∧ Hid (b' + 5 * j = b + 8) ∧ sv = .string s' ∧ s'.size ≤ 2 * i + j ∧ Hid (s' = strOfNums ((O ++ (em 5 (b + 8) H).take j).map (ltr dl))) ∧ Kp no w wx) (fun _ bv _ => (intOf bv).toNat)
        case atStart => exact ⟨0, b + 8, s, Nat.zero_le _, by simp, Lib.hid rfl, rfl, by omega, Lib.hid (by simpa using HS.out), HKP.out⟩
        case round =>
          obtain ⟨j, b', s', hj, rfl, HBJ, rfl, hs', HS', hkp⟩ := hrel
          have HKQ := Lib.hid hkp
          clear hkp
          by_cases hb' : 5 ≤ b'
          · obtain ⟨q, rfl⟩ : ∃ q, b' = q + 5 := ⟨b' - 5, by omega⟩
            have hq : q ≤ 12 := by have := HBJ.out; omega
            have hp := pow_small hq
            have hdv : 0 ≤ H / 2 ^ q ∧ H / 2 ^ q < 17000 := by
              refine ⟨Int.ediv_nonneg hHr.1 (by omega), ?_⟩
              exact Int.lt_of_le_of_lt (Int.ediv_le_self _ hHr.1) hHr.2
            have ha := i64_mask (H / 2 ^ q) 5 hdv.1 (by omega) (by omega)
            rw [show (2 : Int) ^ 5 - 1 = 31 from rfl, show (2 : Int) ^ 5 = 32 from rfl] at ha
            have HT := Lib.hid (em_take 5 (b + 8) H j (by have := HBJ.out; omega))
            have HDG := Lib.hid (show dg 5 (b + 8 - 5 * (j + 1)) H = H / 2 ^ q % 32 from by
              unfold dg; rw [show b + 8 - 5 * (j + 1) = q from by have := HBJ.out; omega]; rfl)
            have hd0 : 0 ≤ H / 2 ^ q % 32 := Int.emod_nonneg _ (by omega)
            have hd1 : H / 2 ^ q % 32 < 32 := Int.emod_lt_of_pos _ (by omega)
            have hqi : ((q + 5 : Nat) : Int) - 5 = (q : Int) := by omega
            generalize hdd : H / 2 ^ q % 32 = d at *
            have hsub := hsub0.out d hd0 hd1
            obtain ⟨t, ht⟩ : ∃ t : ByteArray, t = ⟨#[UInt8.ofNat (ltr dl d).toNat]⟩ := ⟨_, rfl⟩
            rw [← ht] at hsub
            have hts : t.size = 1 := by rw [ht]; rfl
            have hss2 : ¬ 9223372036854775807 < s'.size + t.size := by omega
            have HT3 := Lib.hid ht
            have hb5 : (5 : Int) ≤ ((q + 5 : Nat) : Int) := by omega
            clear hdd ht hp
            go_wp2
            go_quiet (fail)
            go_wp2
            go_roundw
            case rel => exact ⟨j + 1, q, s' ++ t, by have := HBJ.out; omega, rfl, Lib.hid (by have := HBJ.out; omega), rfl, by rw [ByteArray.size_append]; omega, Lib.hid (by rw [HT.out, HDG.out, ← List.append_assoc, List.map_append, HS'.out, HT3.out]; exact cat_one _ _), HKQ.out.then (Kp.byDraws _ _)⟩
            case measure => simp [intOf]; omega
          · have hb5 : ¬ (5 : Int) ≤ (b' : Int) := by omega
            have hjj : j = (b + 8) / 5 := by have := HBJ.out; omega
            have HJ := Lib.hid hjj
            have HE := Lib.hid (show b' = (b + 8) % 5 from by have := HBJ.out; omega)
            clear hjj
            go_wp2
            go_meet
            case rel => exact ⟨HKQ.out, s', rfl, by rw [HE.out], by have := HJ.out; omega, Lib.hid (by rw [HS'.out, List.take_of_length_le (by rw [em_len, HJ.out]; exact Nat.le_refl _)])⟩
      case rest =>
        obtain ⟨hkp, s', rfl, rfl, hs', HS'⟩ := hcut
        have HKC := Lib.hid hkp
        clear hkp
        obtain ⟨q, hq⟩ : ∃ q, q = (b + 8) % 5 := ⟨_, rfl⟩
        rw [← hq]
        have hq5 : q < 5 := by omega
        have hp := pow_small (show q ≤ 12 by omega)
        have ha := i64_mask H q hHr.1 (by omega) (by omega)
        have HQ := Lib.hid hq
        have hm0 : 0 ≤ H % 2 ^ q := Int.emod_nonneg _ (by omega)
        have HM := Lib.hid (show H % 2 ^ q < 2 ^ q from Int.emod_lt_of_pos _ (by omega))
        have hm1 : H % 2 ^ q < 32 := by
          have : ∀ i : Nat, i < 5 → (2 : Int) ^ i < 32 := by decide
          have := this q hq5
          have := HM.out
          omega
        clear hq
        go_wp2
        go_roundw
        case rel => exact ⟨i + 1, q, H % 2 ^ q, s', O ++ em 5 (b + 8) H, by omega, by go_num, rfl, rfl, rfl, hq5, hm0, hm1, HM, by omega, HS', Lib.hid (by rw [HD.out, HDR.out, ← HHH.out, List.append_assoc, HQ.out]), HKC.out⟩
        case measure => simp [intOf]; omega
    · obtain rfl : i = l.length := by omega
      have HDR := Lib.hid (show dgs 5 l = O ++ (if 0 < b then [hold * 2 ^ (5 - b) % 2 ^ 5] else []) from by rw [HD.out, List.drop_length, st])
      clear HD
      by_cases hb0 : 0 < b
      · have hbi : (0 : Int) < (b : Int) := by omega
        obtain ⟨q, hq⟩ : ∃ q, q + b = 5 := ⟨5 - b, by omega⟩
        have hqi : (5 : Int) - (b : Int) = (q : Int) := by omega
        have hqw : IntKind.i64.wrap ((5 : Int) - (b : Int)) = (q : Int) := by rw [IntKind.wrap_i64]; omega
        have HQ := Lib.hid (show 5 - b = q from by omega)
        have hp := pow_small (show q ≤ 12 by omega)
        have hmul : 0 ≤ hold * 2 ^ q ∧ hold * 2 ^ q ≤ 31 * 4096 := by
          refine ⟨Int.mul_nonneg hh0 (by omega), ?_⟩
          exact Int.mul_le_mul (by omega) hp.2 (by omega) (by omega)
        have ha := i64_mask (hold * 2 ^ q) 5 hmul.1 (by omega) (by omega)
        rw [show (2 : Int) ^ 5 - 1 = 31 from rfl, show (2 : Int) ^ 5 = 32 from rfl] at ha
        have hmw : IntKind.i64.wrap (hold * 2 ^ q) = hold * 2 ^ q := by rw [IntKind.wrap_i64]; omega
        have hd0 : 0 ≤ hold * 2 ^ q % 32 := Int.emod_nonneg _ (by omega)
        have hd1 : hold * 2 ^ q % 32 < 32 := Int.emod_lt_of_pos _ (by omega)
        have HF := Lib.hid (show dgs 5 l = O ++ [hold * 2 ^ q % 32] from by rw [HDR.out, if_pos hb0, HQ.out]; rfl)
        generalize hdd : hold * 2 ^ q % 32 = d at *
        have hsub := hsub0.out d hd0 hd1
        obtain ⟨t, ht⟩ : ∃ t : ByteArray, t = ⟨#[UInt8.ofNat (ltr dl d).toNat]⟩ := ⟨_, rfl⟩
        rw [← ht] at hsub
        have hts : t.size = 1 := by rw [ht]; rfl
        have hss2 : ¬ 9223372036854775807 < s.size + t.size := by omega
        have HT3 := Lib.hid ht
        have HFIN := Lib.hid (show s ++ t = strOfNums ((dgs 5 l).map (ltr dl)) from by rw [HF.out, List.map_append, HS.out, HT3.out]; exact cat_one _ _)
        clear hdd ht hp hq
        go_wp2
        go_quiet (fail)
        go_wp2
        go_ret
        exact ⟨by rw [← HFIN.out]; rfl, HKP.out.then (Kp.byDraws _ _)⟩
      · have hbi : ¬ (0 : Int) < (b : Int) := by omega
        have HFIN := Lib.hid (show s = strOfNums ((dgs 5 l).map (ltr dl)) from by rw [HDR.out, if_neg hb0, List.append_nil, HS.out])
        clear hb0
        go_wp2
        go_ret
        exact ⟨by rw [← HFIN.out]; rfl, HKP.out⟩
set_option maxHeartbeats 8000000 in
theorem bits6_calls {w : World} {A : Option Addr} {n c : Nat} {l dl : List Int} {al : ByteArray} (h : Rd w A n c l) (hn : n ≤ 100)
    (hsub0 : Hid (∀ d : Int, 0 ≤ d → d < 64 → ∀ W : World, (Instr.slice 9 (.string al) (some (.int .i64 d)) (some (.int .i64 (d + 1))) none).run Tryz.prog W = .ok (.string ⟨#[UInt8.ofNat (ltr dl d).toNat]⟩) W)) :
    Calls Tryz.prog 14 #[.slice A n c, .string al, .int .i64 6] w fun e w' => e = .returned (.string (strOfNums ((dgs 6 l).map (ltr dl)))) ∧ Kp no w w' := by
  obtain rfl := h.len
  have hcap := h.cap
  have hmax := h.max
  have HB := Lib.hid h.byt
  have HRR := Lib.hid h
  clear h
  go_enter Tryz.func14, Tryz.ntmps14
  go_wp2
  go_loopw [7, 8, 9, 16] (fun sv hv bv iv wx => ∃ (i b : Nat) (hold : Int) (s : ByteArray) (O : List Int), i ≤ l.length ∧ iv = .int .i64 i ∧ bv = .int .i64 b ∧ hv = .int .i64 hold ∧ sv = .string s ∧ b < 6 ∧ 0 ≤ hold ∧ hold < 64 ∧ Hid (hold < 2 ^ b) ∧ s.size ≤ 2 * i ∧ Hid (s = strOfNums (O.map (ltr dl))) ∧ Hid (dgs 6 l = O ++ st 6 (l.drop i) b hold) ∧ Kp no w wx) (fun _ _ _ iv _ => l.length - (intOf iv).toNat)
  case atStart => exact ⟨0, 0, 0, _, [], Nat.zero_le _, rfl, rfl, rfl, rfl, by omega, by omega, by omega, Lib.hid (by decide), by decide, Lib.hid rfl, Lib.hid (by rw [List.drop_zero]; rfl), Kp.refl _ _⟩
  case round =>
    obtain ⟨i, b, hold, s, O, hi, rfl, rfl, rfl, rfl, hb5, hh0, hh1, HH, hs, HS, HD, hkp⟩ := hrel
    have HKP := Lib.hid hkp
    clear hkp
    by_cases hlt : i < l.length
    · obtain ⟨g, o, rfl, hc⟩ := (HRR.out.keepN HKP.out).at_ (by omega)
      have hci := hc i hlt
      have hbi := HB.out.getD i
      have HDR := Lib.hid (show st 6 (l.drop i) b hold = em 6 (b + 8) (hold * 256 + l.getD i 0) ++ st 6 (l.drop (i + 1)) ((b + 8) % 6) ((hold * 256 + l.getD i 0) % 2 ^ ((b + 8) % 6)) from by
        rw [List.drop_eq_getElem_cons hlt, st]; simp [List.getD_eq_getElem?_getD, List.getElem?_eq_getElem hlt])
      generalize l.getD i 0 = y at *
      clear hc
      have hor := i64_join8 hold y hh0 (by omega) hbi.1 hbi.2
      obtain ⟨H, hH⟩ : ∃ H, H = hold * 256 + y := ⟨_, rfl⟩
      rw [← hH] at hor
      have HHH := Lib.hid hH
      have hHr : 0 ≤ H ∧ H < 17000 := by omega
      clear hH
      go_upto_block 2 with (fail)
      go_cut [7, 9] from 27 to 46 (fun sv bv wx => Kp no w wx ∧ ∃ s', sv = .string s' ∧ bv = .int .i64 ((b + 8) % 6 : Nat) ∧ s'.size ≤ 2 * i + 2 ∧ Hid (s' = strOfNums ((O ++ em 6 (b + 8) H).map (ltr dl))))
      case first =>
        obtain ⟨wo, rfl⟩ : ∃ wo : World, wo = wr := ⟨_, rfl⟩
        go_wp2
        go_loopw [7, 9] (fun sv bv wx => ∃ (j b' : Nat) (s' : ByteArray), j ≤ (b + 8) / 6 ∧ bv = .int .i64 b' ∧ Hid (b' + 6 * j = b + 8) ∧ sv = .string s' ∧ s'.size ≤ 2 * i + j ∧ Hid (s' = strOfNums ((O ++ (em 6 (b + 8) H).take j).map (ltr dl))) ∧ Kp no w wx) (fun _ bv _ => (intOf bv).toNat)
        case atStart => exact ⟨0, b + 8, s, Nat.zero_le _, by simp, Lib.hid rfl, rfl, by omega, Lib.hid (by simpa using HS.out), HKP.out⟩
        case round =>
          obtain ⟨j, b', s', hj, rfl, HBJ, rfl, hs', HS', hkp⟩ := hrel
          have HKQ := Lib.hid hkp
          clear hkp
          by_cases hb' : 6 ≤ b'
          · obtain ⟨q, rfl⟩ : ∃ q, b' = q + 6 := ⟨b' - 6, by omega⟩
            have hq : q ≤ 12 := by have := HBJ.out; omega
            have hp := pow_small hq
            have hdv : 0 ≤ H / 2 ^ q ∧ H / 2 ^ q < 17000 := by
              refine ⟨Int.ediv_nonneg hHr.1 (by omega), ?_⟩
              exact Int.lt_of_le_of_lt (Int.ediv_le_self _ hHr.1) hHr.2
            have ha := i64_mask (H / 2 ^ q) 6 hdv.1 (by omega) (by omega)
            rw [show (2 : Int) ^ 6 - 1 = 63 from rfl, show (2 : Int) ^ 6 = 64 from rfl] at ha
            have HT := Lib.hid (em_take 6 (b + 8) H j (by have := HBJ.out; omega))
            have HDG := Lib.hid (show dg 6 (b + 8 - 6 * (j + 1)) H = H / 2 ^ q % 64 from by
              unfold dg; rw [show b + 8 - 6 * (j + 1) = q from by have := HBJ.out; omega]; rfl)
            have hd0 : 0 ≤ H / 2 ^ q % 64 := Int.emod_nonneg _ (by omega)
            have hd1 : H / 2 ^ q % 64 < 64 := Int.emod_lt_of_pos _ (by omega)
            have hqi : ((q + 6 : Nat) : Int) - 6 = (q : Int) := by omega
            generalize hdd : H / 2 ^ q % 64 = d at *
            have hsub := hsub0.out d hd0 hd1
            obtain ⟨t, ht⟩ : ∃ t : ByteArray, t = ⟨#[UInt8.ofNat (ltr dl d).toNat]⟩ := ⟨_, rfl⟩
            rw [← ht] at hsub
            have hts : t.size = 1 := by rw [ht]; rfl
            have hss2 : ¬ 9223372036854775807 < s'.size + t.size := by omega
            have HT3 := Lib.hid ht
            have hb5 : (6 : Int) ≤ ((q + 6 : Nat) : Int) := by omega
            clear hdd ht hp
            go_wp2
            go_quiet (fail)
            go_wp2
            go_roundw
            case rel => exact ⟨j + 1, q, s' ++ t, by have := HBJ.out; omega, rfl, Lib.hid (by have := HBJ.out; omega), rfl, by rw [ByteArray.size_append]; omega, Lib.hid (by rw [HT.out, HDG.out, ← List.append_assoc, List.map_append, HS'.out, HT3.out]; exact cat_one _ _), HKQ.out.then (Kp.byDraws _ _)⟩
            case measure => simp [intOf]; omega
          · have hb5 : ¬ (6 : Int) ≤ (b' : Int) := by omega
            have hjj : j = (b + 8) / 6 := by have := HBJ.out; omega
            have HJ := Lib.hid hjj
            have HE := Lib.hid (show b' = (b + 8) % 6 from by have := HBJ.out; omega)
            clear hjj
            go_wp2
            go_meet
            case rel => exact ⟨HKQ.out, s', rfl, by rw [HE.out], by have := HJ.out; omega, Lib.hid (by rw [HS'.out, List.take_of_length_le (by rw [em_len, HJ.out]; exact Nat.le_refl _)])⟩
      case rest =>
        obtain ⟨hkp, s', rfl, rfl, hs', HS'⟩ := hcut
        have HKC := Lib.hid hkp
        clear hkp
        obtain ⟨q, hq⟩ : ∃ q, q = (b + 8) % 6 := ⟨_, rfl⟩
        rw [← hq]
        have hq5 : q < 6 := by omega
        have hp := pow_small (show q ≤ 12 by omega)
        have ha := i64_mask H q hHr.1 (by omega) (by omega)
        have HQ := Lib.hid hq
        have hm0 : 0 ≤ H % 2 ^ q := Int.emod_nonneg _ (by omega)
        have HM := Lib.hid (show H % 2 ^ q < 2 ^ q from Int.emod_lt_of_pos _ (by omega))
        have hm1 : H % 2 ^ q < 64 := by
          have : ∀ i : Nat, i < 6 → (2 : Int) ^ i < 64 := by decide
          have := this q hq5
          have := HM.out
          omega
        clear hq
        go_wp2
        go_roundw
        case rel => exact ⟨i + 1, q, H % 2 ^ q, s', O ++ em 6 (b + 8) H, by omega, by go_num, rfl, rfl, rfl, hq5, hm0, hm1, HM, by omega, HS', Lib.hid (by rw [HD.out, HDR.out, ← HHH.out, List.append_assoc, HQ.out]), HKC.out⟩
        case measure => simp [intOf]; omega
    · obtain rfl : i = l.length := by omega
      have HDR := Lib.hid (show dgs 6 l = O ++ (if 0 < b then [hold * 2 ^ (6 - b) % 2 ^ 6] else []) from by rw [HD.out, List.drop_length, st])
      clear HD
      by_cases hb0 : 0 < b
      · have hbi : (0 : Int) < (b : Int) := by omega
        obtain ⟨q, hq⟩ : ∃ q, q + b = 6 := ⟨6 - b, by omega⟩
        have hqi : (6 : Int) - (b : Int) = (q : Int) := by omega
        have hqw : IntKind.i64.wrap ((6 : Int) - (b : Int)) = (q : Int) := by rw [IntKind.wrap_i64]; omega
        have HQ := Lib.hid (show 6 - b = q from by omega)
        have hp := pow_small (show q ≤ 12 by omega)
        have hmul : 0 ≤ hold * 2 ^ q ∧ hold * 2 ^ q ≤ 63 * 4096 := by
          refine ⟨Int.mul_nonneg hh0 (by omega), ?_⟩
          exact Int.mul_le_mul (by omega) hp.2 (by omega) (by omega)
        have ha := i64_mask (hold * 2 ^ q) 6 hmul.1 (by omega) (by omega)
        rw [show (2 : Int) ^ 6 - 1 = 63 from rfl, show (2 : Int) ^ 6 = 64 from rfl] at ha
        have hmw : IntKind.i64.wrap (hold * 2 ^ q) = hold * 2 ^ q := by rw [IntKind.wrap_i64]; omega
        have hd0 : 0 ≤ hold * 2 ^ q % 64 := Int.emod_nonneg _ (by omega)
        have hd1 : hold * 2 ^ q % 64 < 64 := Int.emod_lt_of_pos _ (by omega)
        have HF := Lib.hid (show dgs 6 l = O ++ [hold * 2 ^ q % 64] from by rw [HDR.out, if_pos hb0, HQ.out]; rfl)
        generalize hdd : hold * 2 ^ q % 64 = d at *
        have hsub := hsub0.out d hd0 hd1
        obtain ⟨t, ht⟩ : ∃ t : ByteArray, t = ⟨#[UInt8.ofNat (ltr dl d).toNat]⟩ := ⟨_, rfl⟩
        rw [← ht] at hsub
        have hts : t.size = 1 := by rw [ht]; rfl
        have hss2 : ¬ 9223372036854775807 < s.size + t.size := by omega
        have HT3 := Lib.hid ht
        have HFIN := Lib.hid (show s ++ t = strOfNums ((dgs 6 l).map (ltr dl)) from by rw [HF.out, List.map_append, HS.out, HT3.out]; exact cat_one _ _)
        clear hdd ht hp hq
        go_wp2
        go_quiet (fail)
        go_wp2
        go_ret
        exact ⟨by rw [← HFIN.out]; rfl, HKP.out.then (Kp.byDraws _ _)⟩
      · have hbi : ¬ (0 : Int) < (b : Int) := by omega
        have HFIN := Lib.hid (show s = strOfNums ((dgs 6 l).map (ltr dl)) from by rw [HDR.out, if_neg hb0, List.append_nil, HS.out])
        clear hb0
        go_wp2
        go_ret
        exact ⟨by rw [← HFIN.out]; rfl, HKP.out⟩
end Go.Proofs.YtflafpklphgbpaaGreatDoor
namespace Go.Proofs.YtflafpklphgbpaaGreatDoor
open Go Go.RowKit
set_option linter.unusedVariables false
set_option linter.unusedSimpArgs false
set_option maxRecDepth 100000

theorem strCat (a b : List Int) : strOfNums a ++ strOfNums b = strOfNums (a ++ b) := by
  apply ByteArray.ext
  apply Array.toList_inj.1
  simp [ByteArray.data_append, strOfNums_data]
def alp102 : List Int := [48, 49, 50, 51, 52, 53, 54, 55, 56, 57, 97, 98, 99, 100, 101, 102]
def alp70 : List Int := [48, 49, 50, 51, 52, 53, 54, 55, 56, 57, 65, 66, 67, 68, 69, 70]
def alp98 : List Int := [97, 98, 99, 100, 101, 102, 103, 104, 105, 106, 107, 108, 109, 110, 111, 112, 113, 114, 115, 116, 117, 118, 119, 120, 121, 122, 50, 51, 52, 53, 54, 55]
def alp66 : List Int := [65, 66, 67, 68, 69, 70, 71, 72, 73, 74, 75, 76, 77, 78, 79, 80, 81, 82, 83, 84, 85, 86, 87, 88, 89, 90, 50, 51, 52, 53, 54, 55]
def alp118 : List Int := [48, 49, 50, 51, 52, 53, 54, 55, 56, 57, 97, 98, 99, 100, 101, 102, 103, 104, 105, 106, 107, 108, 109, 110, 111, 112, 113, 114, 115, 116, 117, 118]
def alp86 : List Int := [48, 49, 50, 51, 52, 53, 54, 55, 56, 57, 65, 66, 67, 68, 69, 70, 71, 72, 73, 74, 75, 76, 77, 78, 79, 80, 81, 82, 83, 84, 85, 86]
def alp107 : List Int := [48, 49, 50, 51, 52, 53, 54, 55, 56, 57, 97, 98, 99, 100, 101, 102, 103, 104, 105, 106, 107, 108, 109, 110, 111, 112, 113, 114, 115, 116, 117, 118, 119, 120, 121, 122]
def alp75 : List Int := [48, 49, 50, 51, 52, 53, 54, 55, 56, 57, 65, 66, 67, 68, 69, 70, 71, 72, 73, 74, 75, 76, 77, 78, 79, 80, 81, 82, 83, 84, 85, 86, 87, 88, 89, 90]
def alp122 : List Int := [49, 50, 51, 52, 53, 54, 55, 56, 57, 65, 66, 67, 68, 69, 70, 71, 72, 74, 75, 76, 77, 78, 80, 81, 82, 83, 84, 85, 86, 87, 88, 89, 90, 97, 98, 99, 100, 101, 102, 103, 104, 105, 106, 107, 109, 110, 111, 112, 113, 114, 115, 116, 117, 118, 119, 120, 121, 122]
def alp109 : List Int := [65, 66, 67, 68, 69, 70, 71, 72, 73, 74, 75, 76, 77, 78, 79, 80, 81, 82, 83, 84, 85, 86, 87, 88, 89, 90, 97, 98, 99, 100, 101, 102, 103, 104, 105, 106, 107, 108, 109, 110, 111, 112, 113, 114, 115, 116, 117, 118, 119, 120, 121, 122, 48, 49, 50, 51, 52, 53, 54, 55, 56, 57, 43, 47]
def alp117 : List Int := [65, 66, 67, 68, 69, 70, 71, 72, 73, 74, 75, 76, 77, 78, 79, 80, 81, 82, 83, 84, 85, 86, 87, 88, 89, 90, 97, 98, 99, 100, 101, 102, 103, 104, 105, 106, 107, 108, 109, 110, 111, 112, 113, 114, 115, 116, 117, 118, 119, 120, 121, 122, 48, 49, 50, 51, 52, 53, 54, 55, 56, 57, 45, 95]
def AlphaP (w : World) (dl : List Int) (e : Ending) (w' : World) : Prop := e = .returned (.string (strOfNums dl)) ∧ w' = w
theorem alpha102 (w : World) : Calls Tryz.prog 13 #[.int .u8 102] w (AlphaP w alp102) := by
  go_enter Tryz.func13, Tryz.ntmps13
  go_wp2
  go_ret
  exact ⟨by kernel_rfl, rfl⟩
theorem alpha70 (w : World) : Calls Tryz.prog 13 #[.int .u8 70] w (AlphaP w alp70) := by
  go_enter Tryz.func13, Tryz.ntmps13
  go_wp2
  go_ret
  exact ⟨by kernel_rfl, rfl⟩
theorem alpha98 (w : World) : Calls Tryz.prog 13 #[.int .u8 98] w (AlphaP w alp98) := by
  go_enter Tryz.func13, Tryz.ntmps13
  go_wp2
  go_ret
  exact ⟨by kernel_rfl, rfl⟩
theorem alpha66 (w : World) : Calls Tryz.prog 13 #[.int .u8 66] w (AlphaP w alp66) := by
  go_enter Tryz.func13, Tryz.ntmps13
  go_wp2
  go_ret
  exact ⟨by kernel_rfl, rfl⟩
theorem alpha118 (w : World) : Calls Tryz.prog 13 #[.int .u8 118] w (AlphaP w alp118) := by
  go_enter Tryz.func13, Tryz.ntmps13
  go_wp2
  go_ret
  exact ⟨by kernel_rfl, rfl⟩
theorem alpha86 (w : World) : Calls Tryz.prog 13 #[.int .u8 86] w (AlphaP w alp86) := by
  go_enter Tryz.func13, Tryz.ntmps13
  go_wp2
  go_ret
  exact ⟨by kernel_rfl, rfl⟩
theorem alpha107 (w : World) : Calls Tryz.prog 13 #[.int .u8 107] w (AlphaP w alp107) := by
  go_enter Tryz.func13, Tryz.ntmps13
  go_wp2
  go_ret
  exact ⟨by kernel_rfl, rfl⟩
theorem alpha75 (w : World) : Calls Tryz.prog 13 #[.int .u8 75] w (AlphaP w alp75) := by
  go_enter Tryz.func13, Tryz.ntmps13
  go_wp2
  go_ret
  exact ⟨by kernel_rfl, rfl⟩
theorem alpha122 (w : World) : Calls Tryz.prog 13 #[.int .u8 122] w (AlphaP w alp122) := by
  go_enter Tryz.func13, Tryz.ntmps13
  go_wp2
  go_ret
  exact ⟨by kernel_rfl, rfl⟩
theorem alpha109 (w : World) : Calls Tryz.prog 13 #[.int .u8 109] w (AlphaP w alp109) := by
  go_enter Tryz.func13, Tryz.ntmps13
  go_wp2
  go_ret
  exact ⟨by kernel_rfl, rfl⟩
theorem alpha117 (w : World) : Calls Tryz.prog 13 #[.int .u8 117] w (AlphaP w alp117) := by
  go_enter Tryz.func13, Tryz.ntmps13
  go_wp2
  go_ret
  exact ⟨by kernel_rfl, rfl⟩
def letters : List Int := [102, 70, 98, 66, 118, 86, 107, 75, 122, 109, 117]
def BaseP (w : World) (L : Int) (e : Ending) (w' : World) : Prop := e = .returned (.int .u8 L) ∧ w' = w
theorem peerBase_calls (n : Int) (h0 : 0 ≤ n) (h1 : n < 256) : ∃ L ∈ letters, ∀ w : World, Calls Tryz.prog 8 #[.int .u8 n] w (BaseP w L) := by
  rcases (show n % 11 = 0 ∨ n % 11 = 1 ∨ n % 11 = 2 ∨ n % 11 = 3 ∨ n % 11 = 4 ∨ n % 11 = 5 ∨ n % 11 = 6 ∨ n % 11 = 7 ∨ n % 11 = 8 ∨ n % 11 = 9 ∨ n % 11 = 10 by omega) with h | h | h | h | h | h | h | h | h | h | h
  · refine ⟨102, by simp [letters], fun w => ?_⟩
    go_enter Tryz.func8, Tryz.ntmps8
    go_wp2
    go_ret
    exact ⟨rfl, rfl⟩
  · refine ⟨70, by simp [letters], fun w => ?_⟩
    go_enter Tryz.func8, Tryz.ntmps8
    go_wp2
    go_ret
    exact ⟨rfl, rfl⟩
  · refine ⟨98, by simp [letters], fun w => ?_⟩
    go_enter Tryz.func8, Tryz.ntmps8
    go_wp2
    go_ret
    exact ⟨rfl, rfl⟩
  · refine ⟨66, by simp [letters], fun w => ?_⟩
    go_enter Tryz.func8, Tryz.ntmps8
    go_wp2
    go_ret
    exact ⟨rfl, rfl⟩
  · refine ⟨118, by simp [letters], fun w => ?_⟩
    go_enter Tryz.func8, Tryz.ntmps8
    go_wp2
    go_ret
    exact ⟨rfl, rfl⟩
  · refine ⟨86, by simp [letters], fun w => ?_⟩
    go_enter Tryz.func8, Tryz.ntmps8
    go_wp2
    go_ret
    exact ⟨rfl, rfl⟩
  · refine ⟨107, by simp [letters], fun w => ?_⟩
    go_enter Tryz.func8, Tryz.ntmps8
    go_wp2
    go_ret
    exact ⟨rfl, rfl⟩
  · refine ⟨75, by simp [letters], fun w => ?_⟩
    go_enter Tryz.func8, Tryz.ntmps8
    go_wp2
    go_ret
    exact ⟨rfl, rfl⟩
  · refine ⟨122, by simp [letters], fun w => ?_⟩
    go_enter Tryz.func8, Tryz.ntmps8
    go_wp2
    go_ret
    exact ⟨rfl, rfl⟩
  · refine ⟨109, by simp [letters], fun w => ?_⟩
    go_enter Tryz.func8, Tryz.ntmps8
    go_wp2
    go_ret
    exact ⟨rfl, rfl⟩
  · refine ⟨117, by simp [letters], fun w => ?_⟩
    go_enter Tryz.func8, Tryz.ntmps8
    go_wp2
    go_ret
    exact ⟨rfl, rfl⟩
/-- What PeerBased gives. -/
def BasedP (w : World) (L : Int) (T : List Int) (e : Ending) (w' : World) : Prop := e = .returned (.string (strOfNums (L :: T))) ∧ Kp no w w'
theorem dgs_len_le (s : Nat) (hs : 4 ≤ s) (l : List Int) (hl : l.length ≤ 100) : (dgs s l).length ≤ 250 := by
  have key : ∀ (l : List Int) (b : Nat) (h : Int), (st s l b h).length ≤ (b + 8 * l.length) / s + 1 := by
    intro l
    induction l with
    | nil => intro b h; unfold st; split <;> simp
    | cons x l ih =>
      intro b h
      unfold st
      rw [List.length_append, em_len]
      have := ih ((b + 8) % s) ((h * 256 + x) % 2 ^ ((b + 8) % s))
      have e : (b + 8 * (x :: l).length) / s = ((b + 8) % s + 8 * l.length) / s + (b + 8) / s := by
        rw [List.length_cons, show b + 8 * (l.length + 1) = ((b + 8) % s + 8 * l.length) + s * ((b + 8) / s) from by have := Nat.mod_add_div (b + 8) s; omega, Nat.add_mul_div_left _ _ (by omega)]
      omega
  have h1 := key l 0 0
  have h2 : (0 + 8 * l.length) / s ≤ (8 * 100) / 4 := by
    refine Nat.le_trans (Nat.div_le_div_right (c := s) (show 0 + 8 * l.length ≤ 8 * 100 by omega)) ?_
    exact Nat.div_le_div_left hs (by omega)
  have : dgs s l = st s l 0 0 := rfl
  rw [this]
  omega
set_option maxHeartbeats 1000000 in
theorem based16_calls {w : World} {A : Option Addr} {n c : Nat} {l dl : List Int} {L : Int} (h : Rd w A n c l) (hn : n ≤ 100) (L0 : 0 ≤ L) (L1 : L < 128) (hdl : dl.length = 16)
    (hal : ∀ W, Calls Tryz.prog 13 #[.int .u8 L] W (AlphaP W dl)) :
    Calls Tryz.prog 7 #[.slice A n c, .int .u8 L] w (BasedP w L ((dgs 4 l).map (ltr dl))) := by
  have D1 := Lib.hid (hal w)
  have ka : Kp no w (w.alloc (.cells (nums .u8 [L]).toArray 5)) := (Kp.refl _ _).alloc _
  have hcv : (convert 23 9 (.slice (some ⟨w.heap.size, 0, none⟩) 1 1)).run Tryz.prog (w.alloc (.cells #[.int .u8 L] 5)) = .ok (.string (strOfNums [L])) (w.alloc (.cells #[.int .u8 L] 5)) := (Rd.lit w 5 [L] (Byt.one (by omega) (by omega)) (by simp)).str
  have D2 := Lib.hid (bits4_calls (h.keepN ka) hn (subG dl 16 hdl (by omega)))
  have hsz := strOfNums_size dl
  rw [hdl] at hsz
  have HT := Lib.hid (show strOfNums [L] ++ strOfNums ((dgs 4 l).map (ltr dl)) = strOfNums (L :: (dgs 4 l).map (ltr dl)) from by rw [strCat]; rfl)
  have hts : (strOfNums ((dgs 4 l).map (ltr dl))).size ≤ 250 := by rw [strOfNums_size, List.length_map]; exact dgs_len_le 4 (by omega) l (by rw [h.len]; exact hn)
  have h1s : (strOfNums [L]).size = 1 := by rw [strOfNums_size]; rfl
  have HKA := Lib.hid ka
  obtain ⟨T, hT⟩ : ∃ T, T = (dgs 4 l).map (ltr dl) := ⟨_, rfl⟩
  rw [← hT] at D2 HT hts ⊢
  generalize strOfNums T = t at *
  generalize strOfNums [L] = u at *
  have D1 := Lib.hid (D1.out.mono (R' := fun e w' => e = .returned (.string (strOfNums dl)) ∧ w = w') fun e w' ⟨h1, h2⟩ => ⟨h1, h2.symm⟩)
  generalize strOfNums dl = al at *
  have e16 : ((al.size : Int) == 16) = true := by rw [beq_iff_eq]; omega
  have hss : ¬ 9223372036854775807 < u.size + t.size := by omega
  clear hT h hal hdl hsz ka
  go_enter Tryz.func7, Tryz.ntmps7
  go_wp2_with (fail)
  refine D1.out.mono ?_
  rintro e w1 ⟨rfl, rfl⟩
  go_wp2_with (first | (go_at_call 14; refine D2.out.mono ?_; rintro e w2 ⟨rfl, k2⟩))
  go_ret
  exact ⟨by rw [← HT.out]; rfl, HKA.out.then k2⟩
set_option maxHeartbeats 1000000 in
theorem based32_calls {w : World} {A : Option Addr} {n c : Nat} {l dl : List Int} {L : Int} (h : Rd w A n c l) (hn : n ≤ 100) (L0 : 0 ≤ L) (L1 : L < 128) (hdl : dl.length = 32)
    (hal : ∀ W, Calls Tryz.prog 13 #[.int .u8 L] W (AlphaP W dl)) :
    Calls Tryz.prog 7 #[.slice A n c, .int .u8 L] w (BasedP w L ((dgs 5 l).map (ltr dl))) := by
  have D1 := Lib.hid (hal w)
  have ka : Kp no w (w.alloc (.cells (nums .u8 [L]).toArray 5)) := (Kp.refl _ _).alloc _
  have hcv : (convert 23 9 (.slice (some ⟨w.heap.size, 0, none⟩) 1 1)).run Tryz.prog (w.alloc (.cells #[.int .u8 L] 5)) = .ok (.string (strOfNums [L])) (w.alloc (.cells #[.int .u8 L] 5)) := (Rd.lit w 5 [L] (Byt.one (by omega) (by omega)) (by simp)).str
  have D2 := Lib.hid (bits5_calls (h.keepN ka) hn (subG dl 32 hdl (by omega)))
  have hsz := strOfNums_size dl
  rw [hdl] at hsz
  have HT := Lib.hid (show strOfNums [L] ++ strOfNums ((dgs 5 l).map (ltr dl)) = strOfNums (L :: (dgs 5 l).map (ltr dl)) from by rw [strCat]; rfl)
  have hts : (strOfNums ((dgs 5 l).map (ltr dl))).size ≤ 250 := by rw [strOfNums_size, List.length_map]; exact dgs_len_le 5 (by omega) l (by rw [h.len]; exact hn)
  have h1s : (strOfNums [L]).size = 1 := by rw [strOfNums_size]; rfl
  have HKA := Lib.hid ka
  obtain ⟨T, hT⟩ : ∃ T, T = (dgs 5 l).map (ltr dl) := ⟨_, rfl⟩
  rw [← hT] at D2 HT hts ⊢
  generalize strOfNums T = t at *
  generalize strOfNums [L] = u at *
  have D1 := Lib.hid (D1.out.mono (R' := fun e w' => e = .returned (.string (strOfNums dl)) ∧ w = w') fun e w' ⟨h1, h2⟩ => ⟨h1, h2.symm⟩)
  generalize strOfNums dl = al at *
  have e16 : ((al.size : Int) == 16) = false := beq_eq_false_iff_ne.2 (by omega)
  have e32 : ((al.size : Int) == 32) = true := by rw [beq_iff_eq]; omega
  have hss : ¬ 9223372036854775807 < u.size + t.size := by omega
  clear hT h hal hdl hsz ka
  go_enter Tryz.func7, Tryz.ntmps7
  go_wp2_with (fail)
  refine D1.out.mono ?_
  rintro e w1 ⟨rfl, rfl⟩
  go_wp2_with (first | (go_at_call 14; refine D2.out.mono ?_; rintro e w2 ⟨rfl, k2⟩))
  go_ret
  exact ⟨by rw [← HT.out]; rfl, HKA.out.then k2⟩
set_option maxHeartbeats 1000000 in
theorem based64_calls {w : World} {A : Option Addr} {n c : Nat} {l dl : List Int} {L : Int} (h : Rd w A n c l) (hn : n ≤ 100) (L0 : 0 ≤ L) (L1 : L < 128) (hdl : dl.length = 64)
    (hal : ∀ W, Calls Tryz.prog 13 #[.int .u8 L] W (AlphaP W dl)) :
    Calls Tryz.prog 7 #[.slice A n c, .int .u8 L] w (BasedP w L ((dgs 6 l).map (ltr dl))) := by
  have D1 := Lib.hid (hal w)
  have ka : Kp no w (w.alloc (.cells (nums .u8 [L]).toArray 5)) := (Kp.refl _ _).alloc _
  have hcv : (convert 23 9 (.slice (some ⟨w.heap.size, 0, none⟩) 1 1)).run Tryz.prog (w.alloc (.cells #[.int .u8 L] 5)) = .ok (.string (strOfNums [L])) (w.alloc (.cells #[.int .u8 L] 5)) := (Rd.lit w 5 [L] (Byt.one (by omega) (by omega)) (by simp)).str
  have D2 := Lib.hid (bits6_calls (h.keepN ka) hn (subG dl 64 hdl (by omega)))
  have hsz := strOfNums_size dl
  rw [hdl] at hsz
  have HT := Lib.hid (show strOfNums [L] ++ strOfNums ((dgs 6 l).map (ltr dl)) = strOfNums (L :: (dgs 6 l).map (ltr dl)) from by rw [strCat]; rfl)
  have hts : (strOfNums ((dgs 6 l).map (ltr dl))).size ≤ 250 := by rw [strOfNums_size, List.length_map]; exact dgs_len_le 6 (by omega) l (by rw [h.len]; exact hn)
  have h1s : (strOfNums [L]).size = 1 := by rw [strOfNums_size]; rfl
  have HKA := Lib.hid ka
  obtain ⟨T, hT⟩ : ∃ T, T = (dgs 6 l).map (ltr dl) := ⟨_, rfl⟩
  rw [← hT] at D2 HT hts ⊢
  generalize strOfNums T = t at *
  generalize strOfNums [L] = u at *
  have D1 := Lib.hid (D1.out.mono (R' := fun e w' => e = .returned (.string (strOfNums dl)) ∧ w = w') fun e w' ⟨h1, h2⟩ => ⟨h1, h2.symm⟩)
  generalize strOfNums dl = al at *
  have e16 : ((al.size : Int) == 16) = false := beq_eq_false_iff_ne.2 (by omega)
  have e32 : ((al.size : Int) == 32) = false := beq_eq_false_iff_ne.2 (by omega)
  have e64 : ((al.size : Int) == 64) = true := by rw [beq_iff_eq]; omega
  have hss : ¬ 9223372036854775807 < u.size + t.size := by omega
  clear hT h hal hdl hsz ka
  go_enter Tryz.func7, Tryz.ntmps7
  go_wp2_with (fail)
  refine D1.out.mono ?_
  rintro e w1 ⟨rfl, rfl⟩
  go_wp2_with (first | (go_at_call 14; refine D2.out.mono ?_; rintro e w2 ⟨rfl, k2⟩))
  go_ret
  exact ⟨by rw [← HT.out]; rfl, HKA.out.then k2⟩
end Go.Proofs.YtflafpklphgbpaaGreatDoor
