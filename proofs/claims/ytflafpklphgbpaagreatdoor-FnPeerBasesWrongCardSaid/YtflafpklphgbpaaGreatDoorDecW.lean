/- base58.FastBase58DecodingAlphabet, walked. -/
import Derived.Test.YtflafpklphgbpaaGreatDoorDec58
namespace Go.Proofs.YtflafpklphgbpaaGreatDoor
open Go Go.RowKit
set_option linter.unusedVariables false
set_option linter.unusedSimpArgs false
set_option maxRecDepth 100000

/-- What the decoder answers to digits' letters, and a letter that has no digit. -/
def Dec58 (w : World) (D R : List Int) (e : Ending) (w' : World) : Prop := Kp no w w' ∧
  (R = [] → ∃ A n c, e = .returned (.tuple #[.slice A n c, Value.nilIface]) ∧ Rd w' A n c (decB 58 D)) ∧
  (R ≠ [] → ∃ t x, e = .returned (.tuple #[.slice none 0 0, .iface t x]))
/-- The words, as the inner loop turns them. -/
def InW (w0 : World) (gO : Nat) (N : List Int) (y : Int) (k : Int) (r : Nat) (wr : World) : Prop :=
  ∃ M, (k, M) = mulw 58 y (N.drop r) ∧ M.length = N.length - r ∧ Nw .u32 wr gO 46 (N.take r ++ M) ∧ Kp (· = gO) w0 wr

set_option maxHeartbeats 16000000 in
theorem decode58_calls {w : World} {gA : Nat} {D R : List Int} (hT : Txt D R) (h1 : 1 ≤ (D.map sign ++ R).length) (hn : (D.map sign ++ R).length ≤ 300)
    (hA : w.cell? ⟨gA, 128, none⟩ = some (.int .u8 49)) (hTab : ∀ i : Nat, i < 128 → w.cell? ⟨gA, i, none⟩ = some (.int .i8 ((tab58 58).getD i 0))) :
    Calls Tryz.prog 64 #[.string (strOfNums (D.map sign ++ R)), .pointer (some ⟨gA, 0, none⟩)] w (Dec58 w D R) := by
  obtain ⟨cr, w1, hcv, hru, k1, hz1, hcr⟩ := str_runes (w := w) hT.asc (by omega) Tryz.und_string Tryz.und_runes Tryz.und_rune
  obtain ⟨n, hnn⟩ : ∃ n, n = (D.map sign ++ R).length := ⟨_, rfl⟩
  have HDn := Lib.hid (show D.length ≤ n from by rw [hnn]; simp)
  have HRn := Lib.hid (show R = [] → D.length = n from fun h => by rw [hnn, h]; simp)
  have HRr := Lib.hid (show R ≠ [] → D.length < n from fun h => by
    rw [hnn]; cases R with
    | nil => exact absurd rfl h
    | cons b r => simp)
  have HNT := Lib.hid hnn
  have HRU := Lib.hid hru
  have HT := Lib.hid hT
  have HTB := Lib.hid hTab
  rw [← hnn] at h1 hn hcv
  have hs : (strOfNums (D.map sign ++ R)).size = n := by rw [strOfNums_size, hnn]
  generalize strOfNums (D.map sign ++ R) = s at *
  have hsz : ¬ (s.size : Int) = 0 := by omega
  have HZ1 := Lib.hid hz1
  clear hs hnn hru hT hTab hz1 hcr
  have cA := k1.cellN hA
  obtain ⟨i8, hi8, hz8⟩ := Option.map_eq_some_iff.1 Tryz.info_byte
  obtain ⟨i4, hi4, hz4⟩ := Option.map_eq_some_iff.1 Tryz.info_u32
  simp only [Prod.mk.injEq] at hz8 hz4
  have HI8 := Lib.hid (And.intro hi8 hz8)
  have HI4 := Lib.hid (And.intro hi4 hz4)
  clear hi8 hz8 hi4 hz4
  go_enter Tryz.func64, Tryz.ntmps64
  obtain ⟨m, hm⟩ : ∃ m, m = (n + 3) / 4 := ⟨_, rfl⟩
  obtain ⟨nb, hnb⟩ : ∃ nb, nb = (n + 3) * 3 := ⟨_, rfl⟩
  have hmi : ((n : Int) + 3) / 4 = (m : Int) := by omega
  have hnbi : ((n : Int) + 3) * 3 = (nb : Int) := by omega
  have hm1 : 1 ≤ m := by omega
  have hm0 : (0 : Int) < (m : Int) := by omega
  have hmb : m ≤ 100 := by omega
  have hnbb : nb ≤ 1000 := by omega
  have HM := Lib.hid hm
  have HNB := Lib.hid hnb
  have HF := Lib.hid (fr_eq h1)
  have hfr := fr_rng n
  have HFD := Lib.hid (show fr n = if n % 4 = 0 then 4 else n % 4 from rfl)
  clear hm hnb
  go_upto_if 51 with (first | (at_make; refine wpList_make_full _ rfl (.tmp 40) (.tmp 40) 23 rfl 0 5 i8 (.int .u8 0) 1 Tryz.und_bytes HI8.out.1 HI8.out.2.1 HI8.out.2.2.1 .i64 .i64 _ _ nb rfl rfl rfl rfl (by rw [HI8.out.2.2.2]; omega) (by simp only [maxLen]; omega) (Nat.zero_le _) ?_; intro w4 hrow4 hgr4; have k4' : Kp no w1 w4 := (Kp.refl _ _).grown hgr4 (fun k hk _ => by cases hk); have cA4 := k4'.cellN cA))
  have B4 : Nw .u8 w4 w1.heap.size 5 (List.replicate nb 0) := Nw.made hrow4
  clear hrow4 hgr4 hmi hnbi
  go_cut [7, 14] from 50 to 55 (fun zv bv wx => zv = .int .u32 (zm (fr n)) ∧ bv = .int .i64 (fr n : Nat) ∧ wx = w4)
  case first =>
    rcases (show (n % 4 = 0 ∨ n % 4 = 1) ∨ (n % 4 = 2 ∨ n % 4 = 3) by omega) with (hq | hq) | (hq | hq)
    · have hqi : (n : Int) % 4 = 0 := by omega
      have HX := Lib.hid (show fr n = 4 from by rw [HFD.out, if_pos hq])
      clear hq
      go_wp2
      go_meet
      case rel => rw [HX.out]; exact ⟨rfl, rfl, rfl⟩
    · have hqi : (n : Int) % 4 = 1 := by omega
      have HX := Lib.hid (show fr n = 1 from by rw [HFD.out, if_neg (by omega), hq])
      clear hq
      go_wp2
      go_meet
      case rel => rw [HX.out]; exact ⟨rfl, by rw [hqi]; rfl, rfl⟩
    · have hqi : (n : Int) % 4 = 2 := by omega
      have HX := Lib.hid (show fr n = 2 from by rw [HFD.out, if_neg (by omega), hq])
      clear hq
      go_wp2
      go_meet
      case rel => rw [HX.out]; exact ⟨rfl, by rw [hqi]; rfl, rfl⟩
    · have hqi : (n : Int) % 4 = 3 := by omega
      have HX := Lib.hid (show fr n = 3 from by rw [HFD.out, if_neg (by omega), hq])
      clear hq
      go_wp2
      go_meet
      case rel => rw [HX.out]; exact ⟨rfl, by rw [hqi]; rfl, rfl⟩
  case rest =>
    obtain ⟨rfl, rfl, rfl⟩ := hcut
    obtain ⟨w4, rfl⟩ : ∃ x : World, x = wc := ⟨_, rfl⟩
    have hzr := zm_rng (fr n)
    have HZM := Lib.hid (show ∀ x : Int, 0 ≤ x → x < 256 ^ fr n → bits .and .u32 x (zm (fr n)) = 0 from fun x h0 h1 => zm_and h0 h1 hfr.1 hfr.2)
    generalize zm (fr n) = z at *
    have hlt4 := B4.lt
    obtain ⟨gB, hgB⟩ : ∃ g, g = w1.heap.size := ⟨_, rfl⟩
    rw [← hgB] at B4 hlt4 ⊢
    have HGB := Lib.hid (show w.heap.size < gB from by rw [hgB, HZ1.out]; omega)
    clear hgB
    have K4 := k1.then k4'
    have HRU4 := Lib.hid (fun j (hj : j < (D.map sign ++ R).length) => k4'.cellN (HRU.out j hj))
    have HTB4 := Lib.hid (fun j (hj : j < 128) => K4.cellN (HTB.out j hj))
    clear HRU HTB HZ1 cA cA4 hcv
    go_upto_region 16 with (first | (at_make; refine wpList_make_full _ rfl (.tmp 56) (.tmp 56) 113 rfl 0 46 i4 (.int .u32 0) 1 Tryz.und_words HI4.out.1 HI4.out.2.1 HI4.out.2.2.1 .i64 .i64 _ _ m rfl rfl rfl rfl (by rw [HI4.out.2.2.2]; omega) (by simp only [maxLen]; omega) (Nat.zero_le _) ?_; intro w5 hrow5 hgr5; have k5' : Kp no w4 w5 := (Kp.refl _ _).grown hgr5 (fun k hk _ => by cases hk)))
    have O5 : Nw .u32 w5 w4.heap.size 46 (List.replicate m 0) := Nw.made hrow5
    have B5 := B4.keepN k5'
    have hgBO : gB < w4.heap.size := hlt4
    have hgAO : gA < w4.heap.size := Nat.lt_of_lt_of_le (World.block_lt_of_cell? _ _ hA) K4.size
    have K5 := K4.then k5'
    have HRU5 := Lib.hid (fun j (hj : j < (D.map sign ++ R).length) => k5'.cellN (HRU4.out j hj))
    have HTB5 := Lib.hid (fun j (hj : j < 128) => k5'.cellN (HTB4.out j hj))
    generalize w4.heap.size = gO at *
    clear hrow5 hgr5 HRU4 HTB4 K4 k5' B4 hA hlt4
    have HZ0 := Lib.hid (zs_zero D)
    have HZS := Lib.hid (zs_stop D)
    have hzl := zs_le D
    go_upto_block 0 with (fail)
    go_cut [9] from 58 to 72 (fun v wx => v = .int .i64 (zs D : Nat) ∧ wx = w5)
    case first =>
      go_wp2
      go_loop [9, 17] (fun zv iv => ∃ i : Nat, zv = .int .i64 i ∧ iv = .int .i64 i ∧ i ≤ zs D) (fun _ iv => n - (intOf iv).toNat)
      case atStart => exact ⟨0, rfl, rfl, Nat.zero_le _⟩
      case round =>
        obtain ⟨i, rfl, rfl, hi⟩ := hrel
        by_cases hiz : i < zs D
        · obtain ⟨b, hb, _, _, _, _, hb49⟩ := HT.out.at_ (i := i) (by omega)
          have hc := HRU5.out i (by have := HNT.out; have := HDn.out; omega)
          rw [← hb, hb49.2 (HZ0.out i hiz)] at hc
          have hin : (i : Int) < (n : Int) := by have := HDn.out; omega
          clear hb hb49
          go_wp2
          go_round
          case rel => exact ⟨i + 1, by go_num, by go_num, by omega⟩
          case measure => simp [intOf]; omega
        · obtain rfl : i = zs D := by omega
          by_cases hzd : zs D < D.length
          · obtain ⟨b, hb, _, _, _, _, hb49⟩ := HT.out.at_ (i := zs D) hzd
            have hc := HRU5.out (zs D) (by have := HNT.out; have := HDn.out; omega)
            rw [← hb] at hc
            have hne : ((b : Int) == 49) = false := beq_eq_false_iff_ne.2 (fun e => HZS.out hzd (hb49.1 e))
            have hin : (zs D : Int) < (n : Int) := by have := HDn.out; omega
            generalize zs D = q at *
            clear hb hb49
            go_wp2
            go_meet
            case rel => exact ⟨rfl, rfl⟩
          · have hzd2 : zs D = D.length := by omega
            by_cases hR : R = []
            · have hin : ¬ (zs D : Int) < (n : Int) := by have := HRn.out hR; omega
              generalize zs D = q at *
              clear hzd hzd2
              go_wp2
              go_meet
              case rel => exact ⟨rfl, rfl⟩
            · obtain ⟨b, hb, _, _, hb49⟩ := HT.out.at_end hR
              have hc := HRU5.out (zs D) (by have := HNT.out; have := HRr.out hR; omega)
              rw [hzd2, ← hb, ← hzd2] at hc
              have hne : ((b : Int) == 49) = false := beq_eq_false_iff_ne.2 hb49
              have hin : (zs D : Int) < (n : Int) := by have := HRr.out hR; omega
              generalize zs D = q at *
              clear hb hb49 hzd hzd2
              go_wp2
              go_meet
              case rel => exact ⟨rfl, rfl⟩
    case rest =>
      obtain ⟨rfl, rfl⟩ := hcut
      obtain ⟨w5, rfl⟩ : ∃ x : World, x = wc := ⟨_, rfl⟩
      clear HZ0 HZS
      have HDD := Lib.hid HT.out.d
      go_wp2
      go_loopw [75] (fun iv wr => ∃ i : Nat, iv = .int .i64 i ∧ i ≤ D.length ∧ Nw .u32 wr gO 46 (rowF 58 (D.take i) (List.replicate m 0)) ∧ Kp (· = gO) w5 wr) (fun iv _ => n - (intOf iv).toNat)
      case atStart => exact ⟨0, rfl, Nat.zero_le _, O5, Kp.refl _ _⟩
      case round =>
        obtain ⟨i, rfl, hi, O6, k6⟩ := hrel
        by_cases hlt : i < D.length
        · obtain ⟨b, hb, hb128, hbd, hd0, hd1, _⟩ := HT.out.at_ hlt
          have hc := k6.cell (HRU5.out i (by have := HNT.out; have := HDn.out; omega)) (by show ¬ w.heap.size = gO; have := HGB.out; omega)
          rw [← hb] at hc
          have ht := k6.cell (HTB5.out b hb128) (by show ¬ gA = gO; omega)
          rw [hbd] at ht
          obtain ⟨hz, hw1, hw2, hv⟩ := row_fit (n := n) HDD.out HDn.out i hlt
          rw [← HM.out] at hz hw1 hw2 hv
          have HST := Lib.hid (rowF_take 58 D (List.replicate m 0) i hlt)
          have HFS := Lib.hid (first_small (n := n) hw2 h1 (by rw [rowF_len, List.length_replicate, HM.out]) hv)
          have hNl : (rowF 58 (D.take i) (List.replicate m 0)).length = m := by rw [rowF_len, List.length_replicate]
          have hin : (i : Int) < (n : Int) := by have := HDn.out; omega
          have hbi : (b : Int) ≤ 127 := by omega
          have HW2 := Lib.hid hw2
          rw [HST.out] at HFS HW2
          generalize hN : rowF 58 (D.take i) (List.replicate m 0) = N at *
          generalize hy : D.getD i 0 = y at *
          have HN := Lib.hid hN
          have HNL := Lib.hid hNl
          have HW1 := Lib.hid hw1
          have HZ := Lib.hid hz
          clear hN hy hb hbd hw1 hw2 hv hNl hz hb128
          obtain ⟨wo, rfl⟩ : ∃ wo : World, wo = wr := ⟨_, rfl⟩
          go_upto_block 4 with (fail)
          go_cut [8, 20] from 99 to 121 (fun cv jv wx => cv = .int .u32 0 ∧ jv = .int .i64 (-1) ∧ Nw .u32 wx gO 46 (mulw 58 y N).2 ∧ Kp (· = gO) wo wx)
          case first =>
            go_wp2
            go_loopw [8, 20] (fun cv jv wr => ∃ (r : Nat) (k j : Int), r ≤ m ∧ jv = .int .i64 j ∧ j = r - 1 ∧ cv = .int .u32 k ∧ 0 ≤ k ∧ k < 58 ∧ Hid (InW wo gO N y k r wr)) (fun _ jv _ => (intOf jv + 1).toNat)
            case atStart => exact ⟨m, y, _, Nat.le_refl _, rfl, rfl, rfl, hd0, hd1, Lib.hid ⟨[], by rw [List.drop_of_length_le (by rw [HNL.out]; exact Nat.le_refl _)]; rfl, by rw [HNL.out]; simp, by rw [List.take_of_length_le (by rw [HNL.out]; exact Nat.le_refl _), List.append_nil]; exact O6, Kp.refl _ _⟩⟩
            case round =>
              obtain ⟨r, k, j, hr, rfl, hj, rfl, hk0, hk1, HI⟩ := hrel
              cases r with
              | zero =>
                have HJ := Lib.hid (show j = -1 by omega)
                have hj2 : j < 0 := by omega
                clear hj
                obtain ⟨M, hM, _, hO, hK⟩ := HI.out
                rw [List.drop_zero] at hM
                have hk : k = 0 := by have := congrArg Prod.fst hM; rw [HZ.out] at this; exact this
                have hM2 : M = (mulw 58 y N).2 := congrArg Prod.snd hM
                subst hk
                rw [List.take_zero, List.nil_append, hM2] at hO
                clear hM hM2
                go_wp2
                go_meet
                case rel => exact ⟨rfl, by rw [HJ.out], hO, hK⟩
              | succ r =>
                obtain rfl : j = (r : Int) := by omega
                obtain ⟨M, hM, hMl, hO, hK⟩ := HI.out
                have hrl : r < N.length := by have := HNL.out; omega
                have c1 := hO.cell r (by rw [List.length_append, List.length_take]; omega)
                rw [row_get N M r hrl] at c1
                have f1 := hO.free r
                have hdr := HW1.out.getD r
                have HNX := Lib.hid (mulw_next 58 y N r hrl)
                have HRS := Lib.hid (fun v => row_set N M r v hrl)
                generalize N.getD r 0 = d at *
                have a1 : bits .and .u32 ((d * 58 + k) / 4294967296) 63 = (d * 58 + k) / 4294967296 := by
                  have := u32_and ((d * 58 + k) / 4294967296) 63 (by omega) (by omega) (by omega) (by omega)
                  rw [this, show (63 : Int).toNat = 2 ^ 6 - 1 from rfl, Nat.and_two_pow_sub_one_eq_mod]; omega
                have a2 : bits .and .u64 (d * 58 + k) 4294967295 = (d * 58 + k) % 4294967296 := by
                  have := u64_and (d * 58 + k) 4294967295 (by omega) (by omega) (by omega) (by omega)
                  rw [this, show (4294967295 : Int).toNat = 2 ^ 32 - 1 from rfl, Nat.and_two_pow_sub_one_eq_mod]; omega
                have HMM := Lib.hid hM
                have HML := Lib.hid hMl
                clear hj hM hMl hrl
                have hrm : (r : Int) < (m : Int) := by omega
                go_wp2
                go_roundw
                case rel =>
                  refine ⟨r, (d * 58 + k) / 4294967296, _, by omega, rfl, rfl, rfl, by omega, by omega, Lib.hid ⟨(d * 58 + k) % 4294967296 :: M, ?_, ?_, ?_, ?_⟩⟩
                  · rw [HNX.out, ← HMM.out]
                  · rw [List.length_cons, HML.out]; have := HNL.out; omega
                  · exact hO.setTo r rfl (HRS.out _)
                  · exact hK.setCell (p := ⟨gO, r, none⟩) (fun _ => rfl) _
                case measure => first | (simp [intOf]; done) | (simp [intOf]; omega)
          case rest =>
            obtain ⟨rfl, rfl, O7, k7⟩ := hcut
            obtain ⟨wq, rfl⟩ : ∃ x : World, x = wc := ⟨_, rfl⟩
            have c0 := O7.cell 0 (by rw [mulw_len, HNL.out]; omega)
            have hx := HW2.out.getD 0
            have ha := HZM.out _ hx.1 HFS.out
            have K8 := k6.trans k7 (fun i _ h => h)
            generalize (mulw 58 y N).2.getD 0 0 = x at *
            have hm0' : 0 < m := by omega
            go_wp2
            go_roundw
            case rel => exact ⟨i + 1, by go_num, by omega, by rw [HST.out]; exact O7, K8⟩
            case measure => simp [intOf]; omega
        · obtain rfl : i = D.length := by omega
          by_cases hR : R = []
          · have hDn := HRn.out hR
            rw [hDn] at O6
            have hin : ¬ (D.length : Int) < (n : Int) := by omega
            rw [List.take_of_length_le (by omega)] at O6
            have HBI := Lib.hid hR
            have hLw := rowF_ok (b := 58) (by omega) (by omega) D _ HDD.out (W32.zero m)
            have hLl : (rowF 58 D (List.replicate m 0)).length = m := by rw [rowF_len, List.length_replicate]
            have HDEC := Lib.hid (show decB 58 D = (fun o : List Int => if zs o = o.length then o else o.drop (zs o - zs D)) (outB (rowF 58 D (List.replicate m 0)) n) from by
              unfold decB; rw [hDn, ← HM.out])
            generalize rowF 58 D (List.replicate m 0) = L at *
            have HLL := Lib.hid hLl
            have hol : (outB L n).length = n := outB_len (by rw [hLl, HM.out]; omega)
            have HOG := Lib.hid (fun j p i (hj : j < m) (hp : p < 4) (hi : i + (4 - fr n) = 4 * j + p) => outB_get (L := L) (n := n) (j := j) (p := p) (i := i) (by rw [hLl, HM.out]; omega) (by rw [hLl]; exact hj) hp (by rw [hLl]; have := HF.out.1; rw [← HM.out] at this; omega))
            have HOB := Lib.hid (outB_byt L n)
            generalize outB L n = o at *
            have HOL := Lib.hid hol
            have HLW := Lib.hid hLw
            have hcI : Hid (D.length = n) := Lib.hid hDn
            clear hLl hol hLw hR hDn hlt hi
            have B6 := B5.keep k6 (by show ¬ gB = gO; omega)
            have O6' := O6
            have kp6 : Kp no w wr := K5.trans k6 (fun i hi h => by have h : i = gO := h; have := HGB.out; omega)
            have HKP := Lib.hid kp6
            have HBO := Lib.hid hgBO
            have HN3 := Lib.hid (show n ≤ nb from by rw [HNB.out]; omega)
            obtain ⟨w6, rfl⟩ : ∃ x : World, x = wr := ⟨_, rfl⟩
            clear HRU5 HTB5 k6 kp6 K5 O5 B5 O6
            go_upto_block 6 with (fail)
            go_cut [22] from 133 to 159 (fun cv wx => cv = .int .i64 n ∧ Nw .u8 wx gB 5 (o ++ List.replicate (nb - n) 0) ∧ Kp (· = gB) w6 wx)
            case first =>
              go_wp2
              go_loopw [14, 21, 22] (fun bv jv cv wr => ∃ j c b : Nat, bv = .int .i64 b ∧ jv = .int .i64 j ∧ cv = .int .i64 c ∧ j ≤ m ∧ 1 ≤ b ∧ b ≤ 4 ∧ Hid ((j = 0 ∧ c = 0 ∧ b = fr n) ∨ (1 ≤ j ∧ c + (4 - fr n) = 4 * j ∧ b = 4)) ∧ Nw .u8 wr gB 5 (o.take c ++ List.replicate (nb - c) 0) ∧ Kp (· = gB) w6 wr) (fun _ jv _ _ => m - (intOf jv).toNat)
              case atStart => exact ⟨0, 0, fr n, rfl, rfl, rfl, Nat.zero_le _, hfr.1, hfr.2, Lib.hid (.inl ⟨rfl, rfl, rfl⟩), by simpa using B6, Kp.refl _ _⟩
              case round =>
                obtain ⟨j, c, b, rfl, rfl, rfl, hj, hb1, hb4, HC, B7, k7⟩ := hrel
                by_cases hjm : j < m
                · have hcj : c + (4 - fr n) = 4 * j + (4 - b) := by rcases HC.out with ⟨a1, a2, a3⟩ | ⟨a1, a2, a3⟩ <;> omega
                  have HCJ := Lib.hid hcj
                  have HB4 := Lib.hid (show j ≠ 0 → b = 4 from fun h => by rcases HC.out with ⟨a1, a2, a3⟩ | ⟨a1, a2, a3⟩ <;> omega)
                  clear hcj HC
                  obtain ⟨wo, rfl⟩ : ∃ x : World, x = wr := ⟨_, rfl⟩
                  go_wp2
                  go_loopw [22, 23] (fun cv mv wr => ∃ (p c : Nat) (x : Int), p ≤ 4 ∧ cv = .int .i64 c ∧ mv = .int .u8 x ∧ Hid (p < 4 ∧ x = 24 - 8 * p ∨ p = 4 ∧ x = 248) ∧ Hid (c + (4 - fr n) = 4 * j + p) ∧ Nw .u8 wr gB 5 (o.take c ++ List.replicate (nb - c) 0) ∧ Kp (· = gB) w6 wr) (fun _ mv _ => ((intOf mv + 8) % 256).toNat)
                  case atStart => exact ⟨4 - b, c, _, by omega, rfl, rfl, Lib.hid (.inl ⟨by omega, by omega⟩), HCJ, B7, k7⟩
                  case round =>
                    obtain ⟨p, c, x, hp, rfl, rfl, HX, HCP, B8, k8⟩ := hrel
                    by_cases hp4 : p < 4
                    · have hLj := (O6'.keep k8 (by show ¬ gO = gB; have := HBO.out; omega)).cell j (by rw [HLL.out]; exact hjm)
                      have hq := HLW.out.getD j
                      have hcn : c < n := by have := HCP.out; have := HF.out.2; have := HM.out; omega
                      have HV := Lib.hid (HOG.out j p c hjm hp4 HCP.out)
                      have HS := Lib.hid (out_set o nb c (by rw [HOL.out]; exact hcn) (by rw [HOL.out]; exact HN3.out))
                      have f8 := B8.free c
                      have c8 := B8.cell c (by rw [List.length_append, List.length_take, List.length_replicate, HOL.out]; have := HN3.out; omega)
                      generalize L.getD j 0 = q at *
                      generalize (o.take c ++ List.replicate (nb - c) 0).getD c 0 = v0 at *
                      have hcnb : (c : Int) < (nb : Int) := by have := HN3.out; omega
                      have hjmi : (j : Int) < (m : Int) := by omega
                      have hx : x = 24 - 8 * p := by rcases HX.out with ⟨_, h⟩ | ⟨h, _⟩ <;> omega
                      rcases (show (p = 0 ∨ p = 1) ∨ (p = 2 ∨ p = 3) by omega) with (rfl | rfl) | (rfl | rfl)
                      · obtain rfl : x = 24 := by omega
                        clear hx HX
                        go_wp2
                        go_roundw
                        case rel => exact ⟨1, c + 1, 16, by omega, by go_num, rfl, Lib.hid (.inl ⟨by omega, by omega⟩), Lib.hid (by have := HCP.out; omega), B8.setTo c (by rw [HV.out, show (2 : Int) ^ (24 - 8 * 0) = 16777216 from rfl]; omega) HS.out, k8.setCell (p := ⟨gB, c, none⟩) (fun _ => rfl) _⟩
                        case measure => first | (simp [intOf]; done) | (simp [intOf]; omega)
                      · obtain rfl : x = 16 := by omega
                        clear hx HX
                        go_wp2
                        go_roundw
                        case rel => exact ⟨2, c + 1, 8, by omega, by go_num, rfl, Lib.hid (.inl ⟨by omega, by omega⟩), Lib.hid (by have := HCP.out; omega), B8.setTo c (by rw [HV.out]; try rfl) HS.out, k8.setCell (p := ⟨gB, c, none⟩) (fun _ => rfl) _⟩
                        case measure => first | (simp [intOf]; done) | (simp [intOf]; omega)
                      · obtain rfl : x = 8 := by omega
                        clear hx HX
                        go_wp2
                        go_roundw
                        case rel => exact ⟨3, c + 1, 0, by omega, by go_num, rfl, Lib.hid (.inl ⟨by omega, by omega⟩), Lib.hid (by have := HCP.out; omega), B8.setTo c (by rw [HV.out]; try rfl) HS.out, k8.setCell (p := ⟨gB, c, none⟩) (fun _ => rfl) _⟩
                        case measure => first | (simp [intOf]; done) | (simp [intOf]; omega)
                      · obtain rfl : x = 0 := by omega
                        clear hx HX
                        go_wp2
                        go_roundw
                        case rel => exact ⟨4, c + 1, 248, by omega, by go_num, rfl, Lib.hid (.inr ⟨rfl, rfl⟩), Lib.hid (by have := HCP.out; omega), B8.setTo c (by rw [HV.out, show (2 : Int) ^ (24 - 8 * 3) = 1 from rfl]; omega) HS.out, k8.setCell (p := ⟨gB, c, none⟩) (fun _ => rfl) _⟩
                        case measure => first | (simp [intOf]; done) | (simp [intOf]; omega)
                    · obtain rfl : p = 4 := by omega
                      obtain rfl : x = 248 := by rcases HX.out with ⟨h, _⟩ | ⟨_, h⟩ <;> omega
                      clear HX hp4
                      by_cases hj0 : j = 0
                      · subst hj0
                        go_wp2
                        go_roundw
                        case rel => exact ⟨1, c, 4, rfl, rfl, rfl, by omega, by omega, by omega, Lib.hid (.inr ⟨by omega, by have := HCP.out; omega, rfl⟩), B8, k8⟩
                        case measure => first | (simp [intOf]; done) | (simp [intOf]; omega)
                      · have hjz : ((j : Int) == 0) = false := beq_eq_false_iff_ne.2 (by omega)
                        have hb : b = 4 := HB4.out hj0
                        subst hb
                        clear hj0
                        go_wp2
                        go_roundw
                        case rel => exact ⟨j + 1, c, 4, rfl, by go_num, rfl, by omega, by omega, by omega, Lib.hid (.inr ⟨by omega, by have := HCP.out; omega, rfl⟩), B8, k8⟩
                        case measure => first | (simp [intOf]; done) | (simp [intOf]; omega)
                · obtain rfl : j = m := by omega
                  have hcn : c = n := by rcases HC.out with ⟨a1, a2, a3⟩ | ⟨a1, a2, a3⟩ <;> (have := HF.out.1; have := HM.out; omega)
                  subst hcn
                  rw [List.take_of_length_le (by rw [HOL.out]; exact Nat.le_refl _)] at B7
                  clear hjm
                  go_wp2
                  go_meet
                  case rel => exact ⟨rfl, B7, k7⟩
            case rest =>
              obtain ⟨rfl, B7, k7⟩ := hcut
              obtain ⟨w7, rfl⟩ : ∃ x : World, x = wc := ⟨_, rfl⟩
              have hBl : (o ++ List.replicate (nb - n) 0).length = nb := by rw [List.length_append, List.length_replicate, HOL.out]; have := HN3.out; omega
              have hBb : Byt (o ++ List.replicate (nb - n) 0) := HOB.out.app (fun x hx => by have := (List.mem_replicate.1 hx).2; omega)
              have RB := B7.rd hBl hBb (by omega)
              have HZA := Lib.hid (zs_app o (List.replicate (nb - n) 0))
              have HTK := Lib.hid (show (o ++ List.replicate (nb - n) 0).take n = o from by rw [List.take_left' HOL.out])
              have HZZ := Lib.hid (zs_zeros (nb - n))
              have hzo := zs_le o
              rw [HOL.out] at hzo
              have KF := Lib.hid (HKP.out.trans k7 (fun i hi h => by have h : i = gB := h; have := HGB.out; omega))
              obtain ⟨Bf, hBf⟩ : ∃ Bf, Bf = o ++ List.replicate (nb - n) 0 := ⟨_, rfl⟩
              rw [← hBf] at B7 hBl hBb RB HZA HTK
              have HZ0 := Lib.hid (zs_zero Bf)
              have HZS := Lib.hid (zs_stop Bf)
              have hzb := zs_le Bf
              have HBL := Lib.hid hBl
              have HBB := Lib.hid hBb
              clear hBf hBl hBb
              go_wp2
              go_loop [162] (fun iv => ∃ i : Nat, iv = .int .i64 i ∧ i ≤ zs Bf) (fun iv => nb - (intOf iv).toNat)
              case atStart => exact ⟨0, rfl, Nat.zero_le _⟩
              case round =>
                obtain ⟨i, rfl, hi⟩ := hrel
                by_cases hiz : i < zs Bf
                · have c8 := B7.cell i (by omega)
                  rw [HZ0.out i hiz] at c8
                  have hin : (i : Int) < (nb : Int) := by have := HBL.out; omega
                  go_wp2
                  go_round
                  case rel => exact ⟨i + 1, by go_num, by omega⟩
                  case measure => simp [intOf]; omega
                · obtain rfl : i = zs Bf := by omega
                  by_cases hzf : zs Bf < nb
                  · have c8 := B7.cell (zs Bf) (by rw [HBL.out]; exact hzf)
                    have hne := HZS.out (by rw [HBL.out]; exact hzf)
                    have hb := HBB.out.getD (zs Bf)
                    have hpos : (0 : Int) < Bf.getD (zs Bf) 0 := by omega
                    have hzeq : zs Bf = zs o ∧ zs o ≠ n := by
                      have h := HZA.out
                      rw [HZZ.out, HOL.out] at h
                      by_cases hq : zs o = n
                      · rw [if_pos hq] at h; have := HN3.out; omega
                      · rw [if_neg hq] at h; exact ⟨h, hq⟩
                    have HDE := Lib.hid (show decB 58 D = o.drop (zs Bf - zs D) from by rw [HDEC.out]; (try simp only); rw [if_neg (by rw [HOL.out]; exact hzeq.2), hzeq.1])
                    have hqn : zs Bf ≤ n := by rw [hzeq.1]; exact hzo
                    have hzdn : zs D ≤ n := by have := hcI.out; omega
                    generalize Bf.getD (zs Bf) 0 = v0 at *
                    generalize zs Bf = q at *
                    generalize zs D = zd at *
                    have hin : (q : Int) < (nb : Int) := by omega
                    clear hne hzeq
                    by_cases hqz : zd ≤ q
                    · obtain ⟨A9, R9, _, _, hct⟩ := RB.cut (P := Tryz.prog) Tryz.und_bytes Tryz.size_byte .i64 .i64 ((q : Int) - (zd : Int)) (n : Int) (by omega) (by omega) (by have := HN3.out; omega)
                      rw [Int.toNat_natCast, HTK.out, show ((q : Int) - (zd : Int)).toNat = q - zd from by omega, ← HDE.out] at R9
                      have hnz : ¬ (q : Int) - (zd : Int) < 0 := by omega
                      rw [Int.toNat_natCast, show ((q : Int) - (zd : Int)).toNat = q - zd from by omega] at hct
                      have R9' := Lib.hid R9
                      clear R9
                      go_wp2
                      go_ret2
                      exact ⟨KF.out, fun _ => ⟨_, _, _, rfl, R9'.out⟩, fun h => absurd HBI.out h⟩
                    · obtain ⟨A9, R9, _, _, hct⟩ := RB.cut (P := Tryz.prog) Tryz.und_bytes Tryz.size_byte .i64 .i64 0 (n : Int) (by omega) (by omega) (by have := HN3.out; omega)
                      rw [Int.toNat_natCast, HTK.out, show (0 : Int).toNat = q - zd from by omega, ← HDE.out] at R9
                      have hnz : (q : Int) - (zd : Int) < 0 := by omega
                      rw [Int.toNat_natCast, show (0 : Int).toNat = q - zd from by omega] at hct
                      have R9' := Lib.hid R9
                      clear R9
                      go_wp2
                      go_ret2
                      exact ⟨KF.out, fun _ => ⟨_, _, _, rfl, R9'.out⟩, fun h => absurd HBI.out h⟩
                  · have hzn : zs o = n := by
                      have h := HZA.out
                      rw [HZZ.out, HOL.out] at h
                      by_cases hq : zs o = n
                      · exact hq
                      · rw [if_neg hq] at h; have := HN3.out; have := HBL.out; omega
                    have HDE := Lib.hid (show decB 58 D = o from by rw [HDEC.out]; (try simp only); rw [if_pos (by rw [HOL.out]; exact hzn)])
                    have hct := cutTo (P := Tryz.prog) Tryz.und_bytes Tryz.size_byte (some ⟨gB, 0, none⟩) nb nb .i64 (n : Int) (by omega) (by have := HN3.out; omega) (Nat.le_refl _)
                    have R9 := RB.take n HN3.out
                    rw [HTK.out, ← HDE.out] at R9
                    have R9' := Lib.hid R9
                    rw [Int.toNat_natCast] at hct
                    generalize zs Bf = q at *
                    have hin : ¬ (q : Int) < (nb : Int) := by omega
                    clear hzn R9
                    go_wp2
                    go_ret2
                    exact ⟨KF.out, fun _ => ⟨_, _, _, rfl, R9'.out⟩, fun h => absurd HBI.out h⟩
          · obtain ⟨b, hb, hb128, hbd, _⟩ := HT.out.at_end hR
            have hc := k6.cell (HRU5.out D.length (by have := HNT.out; have := HRr.out hR; omega)) (by show ¬ w.heap.size = gO; have := HGB.out; omega)
            rw [← hb] at hc
            have ht := k6.cell (HTB5.out b hb128) (by show ¬ gA = gO; omega)
            rw [hbd] at ht
            have hin : (D.length : Int) < (n : Int) := by have := HRr.out hR; omega
            have hbi : (b : Int) ≤ 127 := by omega
            have HR := Lib.hid hR
            have kp6 : Kp no w wr := K5.trans k6 (fun i hi h => by have h : i = gO := h; have := HGB.out; omega)
            have DE := fun W s => Lib.hid (errNewX (w := W) s)
            clear hb hbd hR hb128
            go_wp2_with (first | (go_at_call 24; refine (DE _ _).out.mono ?_; rintro e w8 ⟨t, x, rfl, k8⟩))
            go_ret2
            exact ⟨kp6.then k8, fun h => absurd h HR.out, fun _ => ⟨t, x, rfl⟩⟩
end Go.Proofs.YtflafpklphgbpaaGreatDoor
