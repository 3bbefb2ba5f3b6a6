/- FnPeerWrongText walked. -/
import Derived.Test.YtjbaobnhfalceaaGreatDoorWrA
import Derived.Deep.RegionWith
import Derived.Laws.DeepStrings4
namespace Go.Proofs.YtjbaobnhfalceaaGreatDoor
open Go Go.RowKit
set_option linter.unusedVariables false
set_option linter.unusedSimpArgs false
set_option maxRecDepth 100000

theorem BytOr.no {w w' : World} {e : Ending} (h : BytOr w (fun _ => False) e w') : e = .returned (.tuple #[.slice none 0 0, .bool false]) ∧ Kp no w w' := by
  rcases h with ⟨k, ⟨_, _, _, _, hf, _⟩ | h⟩
  · exact hf.elim
  · exact ⟨h, k⟩
theorem b_cat (r : List Int) : (⟨#[98]⟩ : ByteArray) ++ strOfNums r = strOfNums (98 :: r) := by
  rw [show (⟨#[98]⟩ : ByteArray) = strOfNums [98] from rfl, str_cat]; rfl

set_option maxHeartbeats 8000000 in
theorem fnPeerWrongText_calls {w : World} (H : List Int) (hH : H.length = 32) (hb : Byt H) (k at_ wr cd : Int) (hk : 0 ≤ k ∧ k < 256) (ha : 0 ≤ at_ ∧ at_ < 256) (hw : 0 ≤ wr ∧ wr < 256) (hc : 0 ≤ cd ∧ cd < 256) (hQ : QErrs w) :
    Calls Tryz.prog 5 #[.agg (nums .u8 H).toArray, .int .u8 k, .int .u8 at_, .int .u8 wr, .int .u8 cd] w (LawOk w) := by
  have BX := Blk.new w (nums .u8 H).toArray 22
  have kb : Kp no w (w.alloc (.cells (nums .u8 H).toArray 22)) := (Kp.refl _ _).alloc _
  have D1 := Lib.hid (PeerMade_calls (w := w.alloc (.cells (nums .u8 H).toArray 22)) H hH hb (k % 3) (by omega) (by omega))
  have HH := Lib.hid hH
  clear hH hb
  go_enter Tryz.func5, Tryz.ntmps5
  go_wp2_with (refine wpList_load_mid rfl 22 (.tmp 5) rfl w.heap.size 0 rfl (nums .u8 H) (.array 32 5) (Blk.range BX) Tryz.underlying22 rfl (by rw [nums_length, HH.out]; exact infoB32) ?_)
  refine D1.out.mono ?_
  rintro e w1 ⟨A1, c1, l, hp, rfl, M1⟩
  have HP := Lib.hid hp
  have k1 := kb.then M1.kp
  have hl := HP.out.len
  have D2 := Lib.hid (sBase58_calls M1.rd (by omega))
  clear hp
  go_wp2_with (fail)
  refine D2.out.mono ?_
  rintro e w2 ⟨rfl, hk2⟩
  have k2 := k1.then hk2
  have R2 := M1.rd.keepN hk2
  have HS := Lib.hid (strOfNums_size (text58 l))
  have HG := Lib.hid (HP.out.beg hk.1)
  have hb := HP.out.byt
  have hsm : (strOfNums (text58 l)).size ≤ 300 := by
    rw [HS.out, text58_tdig, List.length_map]; exact tdig_len hb (by omega)
  have HC := Lib.hid (fun (i j : Nat) (hi : i < 6) (hj : j < (text58 l).length) => (by rw [str_take _ j (by omega), bad_cut i hi, str_drop, str_cat, str_cat, List.append_assoc]; rfl : (strOfNums (text58 l)).extract 0 j ++ (⟨#[48, 79, 73, 108, 43, 47]⟩ : ByteArray).extract i (i + 1) ++ (strOfNums (text58 l)).extract (j + 1) (strOfNums (text58 l)).size = strOfNums ((text58 l).take j ++ bads.getD i 0 :: (text58 l).drop (j + 1))))
  have D4 := Lib.hid (fun (i j : Nat) (hi : i < 6) (h2 : 2 ≤ j) (hj : j < (text58 l).length) => decode_wrong (w := w2.drew) hb (by omega) HG.out h2 hj (bad_noDig i hi) (hQ.keepN k2.drew))
  generalize hss : strOfNums (text58 l) = s at *
  have HSS := Lib.hid hss
  clear hss
  have HBY := Lib.hid hb
  clear hb
  by_cases h3 : (s.size : Int) < 3
  · have DL := Lib.hid (peersLive_calls (hQ.keepN k2).m)
    go_wp2_with (fail)
    refine DL.out.mono ?_
    rintro e w7 ⟨rfl, hk7⟩
    go_wp2
    go_ret
    exact ⟨rfl, k2.then hk7⟩
  · have h0 : 0 ≤ at_ % ((s.size : Int) - 2) := Int.emod_nonneg _ (by omega)
    have h1 : at_ % ((s.size : Int) - 2) < (s.size : Int) - 2 := Int.emod_lt_of_pos _ (by omega)
    obtain ⟨j, hj⟩ : ∃ j : Nat, 2 + at_ % ((s.size : Int) - 2) = (j : Int) := ⟨(2 + at_ % ((s.size : Int) - 2)).toNat, by omega⟩
    obtain ⟨i, hi⟩ : ∃ i : Nat, wr % 6 = (i : Int) := ⟨(wr % 6).toNat, by omega⟩
    have hj2 : 2 ≤ j := by omega
    have hj3 : j < s.size := by omega
    have hi6 : i < 6 := by omega
    have hc1 := HC.out i j hi6 (by have := HS.out; omega)
    have D5 := D4.out i j hi6 hj2 (by have := HS.out; omega)
    rw [← hc1] at D5
    have D5 := Lib.hid D5
    have hz2 : ¬ (s.size : Int) - 2 = 0 := by omega
    have hi7 : (i : Int) + 1 ≤ 6 := by omega
    have hj4 : (j : Int) + 1 ≤ (s.size : Int) := by omega
    have hi8 : (0 : Int) ≤ (i : Int) + 1 := by omega
    have hi9 : (i : Int) ≤ (i : Int) + 1 := by omega
    have hiz : (0 : Int) ≤ (i : Int) := by omega
    have hi5 : (i : Int) ≤ 5 := by omega
    have hi4 : (i : Int) < 6 := by omega
    have hj0 : (0 : Int) ≤ (j : Int) + 1 := by omega
    have hwi : IntKind.i64.wrap ((i : Int) + 1) = (i : Int) + 1 := by rw [IntKind.wrap_i64]; omega
    have hwj : IntKind.i64.wrap ((j : Int) + 1) = (j : Int) + 1 := by rw [IntKind.wrap_i64]; omega
    have hj1 : (0 : Int) ≤ (j : Int) := by omega
    have hj5 : (j : Int) ≤ (s.size : Int) := by omega
    have hj6 : (j : Int) < (s.size : Int) := by omega
    have hsl : ∀ W : World, (Instr.slice 9 (.string ⟨#[48, 79, 73, 108, 43, 47]⟩) (some (.int .i64 (i : Int))) (some (.int .i64 ((i : Int) + 1))) none).run Tryz.prog W = .ok (.string ((⟨#[48, 79, 73, 108, 43, 47]⟩ : ByteArray).extract i (i + 1))) W := fun W => by
      rw [run_slice_string_if W _ _ .i64 .i64 i ((i : Int) + 1) Tryz.und_string, if_pos ⟨by omega, by show (i : Int) + 1 ≤ ((6 : Nat) : Int); omega⟩, if_pos ⟨by omega, by omega⟩, show ((i : Int) + 1).toNat = i + 1 from by omega, Int.toNat_natCast]
    clear D4 h0 h1 hc1
    go_wp2_with (fail)
    go_region_with (first | (go_at_call 8; refine D5.out.mono ?_; rintro e w4 hy; obtain ⟨rfl, hk4⟩ := hy.no))
    have kd : Kp no w2 w2.drew := (Kp.refl _ _).drew
    have k4 := (k2.then kd).then hk4
    have R4 := R2.keepN (kd.then hk4)
    have D6 := Lib.hid (sCid_calls R4 (by omega))
    clear R4 R2 hsl D5
    go_wp2_with (fail)
    refine D6.out.mono ?_
    rintro e w6 ⟨ad2, c2, rfl, M2⟩
    have k6 := k4.then M2.kp
    obtain ⟨g2, hg2⟩ := M2.own.form (by simp)
    obtain ⟨Z, hZ⟩ : ∃ Z, Z = 1 :: 114 :: l := ⟨_, rfl⟩
    rw [← hZ] at M2 ⊢
    have hZl : Z.length = l.length + 2 := by rw [hZ]; simp
    have HZ := Lib.hid hZ
    clear hZ
    rw [hg2] at M2 ⊢
    clear hg2
    have hzl2 : Z.length ≤ 36 := by omega
    have hzl3 : 4 ≤ Z.length := by omega
    have HZL := Lib.hid hZl
    clear hZl
    generalize hq : Z.length = q at *
    have HQ := Lib.hid hq
    clear hq
    have h0 : 0 ≤ at_ % ((q : Int) - 2) := Int.emod_nonneg _ (by omega)
    have h1 : at_ % ((q : Int) - 2) < (q : Int) - 2 := Int.emod_lt_of_pos _ (by omega)
    obtain ⟨J, hJ⟩ : ∃ J : Nat, 2 + at_ % ((q : Int) - 2) = (J : Int) := ⟨(2 + at_ % ((q : Int) - 2)).toNat, by omega⟩
    have hJ2 : 2 ≤ J := by omega
    have hJ3 : J < q := by omega
    clear h0 h1
    have RJ := M2.rd.take J (by rw [HQ.out]; omega)
    have hct := cutTo (P := Tryz.prog) Tryz.und_bytes Tryz.size_byte (some ⟨g2, 0, none⟩) q c2 .i64 J (by omega) (by omega) (by have := M2.rd.cap; rw [HQ.out] at this; exact this)
    rw [show (J : Int).toNat = J from by simp] at hct
    have D7 := Lib.hid (sBase32_calls RJ (by omega))
    have HT := Lib.hid (show Z.take J = [] ∨ Z.take J = [1] ∨ ∃ p, Z.take J = 1 :: 114 :: p ∧ MH p = none from by
      rw [HZ.out]; exact HP.out.tornCid J (by have := HZL.out; have := HQ.out; omega))
    have hTL : (Z.take J).length = J := RJ.len
    have D8 := Lib.hid (decode_torn (w := w6) RJ.byt (by omega) (by omega) HT.out (hQ.keepN k6).m)
    have hs7 : (strOfNums ((dgs 5 (Z.take J)).map let32)).size ≤ 1000 := by
      rw [strOfNums_size, List.length_map]; exact (dg_facts RJ.byt (by omega) (by omega)).2.2.1
    rw [← b_cat] at D8
    clear hTL RJ
    generalize strOfNums ((dgs 5 (Z.take J)).map let32) = t7 at *
    have hqz : ¬ (q : Int) - 2 = 0 := by omega
    go_wp2_with (fail)
    refine D7.out.mono ?_
    rintro e w7 ⟨rfl, rfl⟩
    go_wp2_with (fail)
    refine D8.out.mono ?_
    rintro e w8 hy
    obtain ⟨rfl, hk8⟩ := hy.no
    clear hy
    have k8 := k6.then hk8
    obtain ⟨y, hy⟩ : ∃ y, cd % 100 = y := ⟨_, rfl⟩
    have y0 : 0 ≤ y := by omega
    have y1 : y < 100 := by omega
    have O8 := M2.own.keepN hk8
    have c8 := O8.cellAt 1 (by have := HQ.out; omega)
    have f8 := O8.freeAt 1
    have O9 := O8.set 1 y y0 (by omega)
    have HZ9 := Lib.hid (show Z.set 1 y = 1 :: y :: l from by rw [HZ.out]; rfl)
    rw [HZ9.out] at O9
    generalize Z.getD 1 0 = z1 at *
    have hge : w.heap.size ≤ g2 := by have := (M2.own.base g2 rfl).1; have := k4.size; omega
    have k9 : Kp no w (w8.setCell ⟨g2, 1, none⟩ (.int .u8 y)) := k8.setCell (p := ⟨g2, 1, none⟩) (fun hh => by have hh : g2 < w.heap.size := hh; omega) _
    obtain ⟨A9, c9, h9, R9, _, _⟩ := O9.rd
    injection h9 with h9 h9l h9'
    subst h9 h9'
    have hq2 : (1 :: y :: l).length = q := by have := HZL.out; simp; omega
    rw [hq2] at R9
    have hq1 : 1 < q := by omega
    clear h9l
    obtain ⟨w9, hw9⟩ : ∃ w9, w9 = w8.setCell ⟨g2, 1, none⟩ (.int .u8 y) := ⟨_, rfl⟩
    rw [← hw9] at R9 k9
    have HW9 := Lib.hid hw9
    clear hw9
    have D10 := Lib.hid (sBase32_calls R9 (by omega))
    have D11 := Lib.hid (decode_codec (w := w9) R9.byt (by omega) (by omega) y0 (by omega) HP.out.isMH (by omega) (hQ.keepN k9).m)
    have hs9 : (strOfNums ((dgs 5 (1 :: y :: l)).map let32)).size ≤ 1000 := by
      rw [strOfNums_size, List.length_map]; exact (dg_facts R9.byt (by omega) (by omega)).2.2.1
    rw [← b_cat] at D11
    clear R9 hq2
    generalize strOfNums ((dgs 5 (1 :: y :: l)).map let32) = t9 at *
    go_wp2_with (fail)
    rw [← HW9.out]
    refine D10.out.mono ?_
    rintro e w10 ⟨rfl, rfl⟩
    go_wp2_with (fail)
    refine D11.out.mono ?_
    rintro e w11 hy11
    obtain ⟨rfl, hk11⟩ := hy11.no
    have k11 := k9.then hk11
    have DL := Lib.hid (peersLive_calls (hQ.keepN k11).m)
    go_wp2_with (fail)
    refine DL.out.mono ?_
    rintro e w12 ⟨rfl, hk12⟩
    go_wp2
    go_ret
    exact ⟨rfl, k11.then hk12⟩
end Go.Proofs.YtjbaobnhfalceaaGreatDoor
