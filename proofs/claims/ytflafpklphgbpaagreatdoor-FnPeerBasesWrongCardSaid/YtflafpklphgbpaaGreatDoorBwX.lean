/- spec.PeerBased at the bases 58 and 36; all bases: the text that PeerBased gives, multibase.Decode reads back. FnPeerBasesWrong walked. -/
import Derived.Test.YtflafpklphgbpaaGreatDoorBcX
import Derived.Test.YtflafpklphgbpaaGreatDoorHeX
import Derived.Test.YtflafpklphgbpaaGreatDoorBwG
import Derived.Deep.RegionWith
namespace Go.Proofs.YtflafpklphgbpaaGreatDoor
open Go Go.RowKit
set_option linter.unusedVariables false
set_option linter.unusedSimpArgs false
set_option maxRecDepth 100000

set_option maxHeartbeats 1000000 in
theorem basedN58_calls {w : World} {A : Option Addr} {n c : Nat} {l dl : List Int} {L : Int} (h : Rd w A n c l) (hn : n ≤ 100) (hn0 : 0 < n) (hz : l.getD 0 0 ≠ 0) (L0 : 0 ≤ L) (L1 : L < 128) (hdl : dl.length = 58)
    (hal : ∀ W, Calls Tryz.prog 13 #[.int .u8 L] W (AlphaP W dl)) :
    Calls Tryz.prog 7 #[.slice A n c, .int .u8 L] w (BasedP w L ((dig58 l).map (ltr dl))) := by
  have D1 := Lib.hid (hal w)
  have ka : Kp no w (w.alloc (.cells (nums .u8 [L]).toArray 5)) := (Kp.refl _ _).alloc _
  have hcv : (convert 23 9 (.slice (some ⟨w.heap.size, 0, none⟩) 1 1)).run Tryz.prog (w.alloc (.cells #[.int .u8 L] 5)) = .ok (.string (strOfNums [L])) (w.alloc (.cells #[.int .u8 L] 5)) := (Rd.lit w 5 [L] (Byt.one (by omega) (by omega)) (by simp)).str
  have hsz := strOfNums_size dl
  rw [hdl] at hsz
  have D2 := Lib.hid (num58_calls (w := w.alloc (.cells (nums .u8 [L]).toArray 5)) (h.keepN ka) hn hn0 hz (al := strOfNums dl) (by omega) (subG8 dl 58 hdl (by omega)))
  have HT := Lib.hid (show strOfNums [L] ++ strOfNums ((dig58 l).map (ltr dl)) = strOfNums (L :: (dig58 l).map (ltr dl)) from by rw [strCat]; rfl)
  have hts : (strOfNums ((dig58 l).map (ltr dl))).size ≤ 300 := by rw [strOfNums_size, List.length_map]; exact len58 h.byt (by rw [h.len]; exact hn)
  have h1s : (strOfNums [L]).size = 1 := by rw [strOfNums_size]; rfl
  have HKA := Lib.hid ka
  obtain ⟨T, hT⟩ : ∃ T, T = (dig58 l).map (ltr dl) := ⟨_, rfl⟩
  rw [← hT] at D2 HT hts ⊢
  generalize strOfNums T = t at *
  generalize strOfNums [L] = u at *
  have D1 := Lib.hid (D1.out.mono (R' := fun e w' => e = .returned (.string (strOfNums dl)) ∧ w = w') fun e w' ⟨h1, h2⟩ => ⟨h1, h2.symm⟩)
  generalize strOfNums dl = al at *
  have e16 : ((al.size : Int) == 16) = false := beq_eq_false_iff_ne.2 (by omega)
  have e32 : ((al.size : Int) == 32) = false := beq_eq_false_iff_ne.2 (by omega)
  have e64 : ((al.size : Int) == 64) = false := beq_eq_false_iff_ne.2 (by omega)
  have hss : ¬ 9223372036854775807 < u.size + t.size := by omega
  clear hT h hal hdl hsz ka hz
  go_enter Tryz.func7, Tryz.ntmps7
  go_wp2_with (fail)
  refine D1.out.mono ?_
  rintro e w1 ⟨rfl, rfl⟩
  go_wp2_with (first | (go_at_call 15; refine D2.out.mono ?_; rintro e w2 ⟨rfl, k2⟩))
  go_ret
  exact ⟨by rw [← HT.out]; rfl, HKA.out.then k2⟩
set_option maxHeartbeats 1000000 in
theorem basedN36_calls {w : World} {A : Option Addr} {n c : Nat} {l dl : List Int} {L : Int} (h : Rd w A n c l) (hn : n ≤ 100) (hn0 : 0 < n) (hz : l.getD 0 0 ≠ 0) (L0 : 0 ≤ L) (L1 : L < 128) (hdl : dl.length = 36)
    (hal : ∀ W, Calls Tryz.prog 13 #[.int .u8 L] W (AlphaP W dl)) :
    Calls Tryz.prog 7 #[.slice A n c, .int .u8 L] w (BasedP w L ((N36.dig36 l).map (ltr dl))) := by
  have D1 := Lib.hid (hal w)
  have ka : Kp no w (w.alloc (.cells (nums .u8 [L]).toArray 5)) := (Kp.refl _ _).alloc _
  have hcv : (convert 23 9 (.slice (some ⟨w.heap.size, 0, none⟩) 1 1)).run Tryz.prog (w.alloc (.cells #[.int .u8 L] 5)) = .ok (.string (strOfNums [L])) (w.alloc (.cells #[.int .u8 L] 5)) := (Rd.lit w 5 [L] (Byt.one (by omega) (by omega)) (by simp)).str
  have hsz := strOfNums_size dl
  rw [hdl] at hsz
  have D2 := Lib.hid (N36.num36_calls (w := w.alloc (.cells (nums .u8 [L]).toArray 5)) (h.keepN ka) hn hn0 hz (al := strOfNums dl) (by omega) (subG8 dl 36 hdl (by omega)))
  have HT := Lib.hid (show strOfNums [L] ++ strOfNums ((N36.dig36 l).map (ltr dl)) = strOfNums (L :: (N36.dig36 l).map (ltr dl)) from by rw [strCat]; rfl)
  have hts : (strOfNums ((N36.dig36 l).map (ltr dl))).size ≤ 300 := by rw [strOfNums_size, List.length_map]; exact N36.len36 h.byt (by rw [h.len]; exact hn)
  have h1s : (strOfNums [L]).size = 1 := by rw [strOfNums_size]; rfl
  have HKA := Lib.hid ka
  obtain ⟨T, hT⟩ : ∃ T, T = (N36.dig36 l).map (ltr dl) := ⟨_, rfl⟩
  rw [← hT] at D2 HT hts ⊢
  generalize strOfNums T = t at *
  generalize strOfNums [L] = u at *
  have D1 := Lib.hid (D1.out.mono (R' := fun e w' => e = .returned (.string (strOfNums dl)) ∧ w = w') fun e w' ⟨h1, h2⟩ => ⟨h1, h2.symm⟩)
  generalize strOfNums dl = al at *
  have e16 : ((al.size : Int) == 16) = false := beq_eq_false_iff_ne.2 (by omega)
  have e32 : ((al.size : Int) == 32) = false := beq_eq_false_iff_ne.2 (by omega)
  have e64 : ((al.size : Int) == 64) = false := beq_eq_false_iff_ne.2 (by omega)
  have hss : ¬ 9223372036854775807 < u.size + t.size := by omega
  clear hT h hal hdl hsz ka hz
  go_enter Tryz.func7, Tryz.ntmps7
  go_wp2_with (fail)
  refine D1.out.mono ?_
  rintro e w1 ⟨rfl, rfl⟩
  go_wp2_with (first | (go_at_call 15; refine D2.out.mono ?_; rintro e w2 ⟨rfl, k2⟩))
  go_ret
  exact ⟨by rw [← HT.out]; rfl, HKA.out.then k2⟩
theorem baseAll {L : Int} {x : List Int} (hL : L ∈ letters) (hb : Byt x) (h1 : 1 ≤ x.length) (hn : x.length ≤ 100) (x0 : x.getD 0 0 ≠ 0) :
    ∃ T, Txb L T ∧ T.length ≤ 300 ∧ (∀ (w : World) (A : Option Addr) (c : Nat), Rd w A x.length c x → Calls Tryz.prog 7 #[.slice A x.length c, .int .u8 L] w (BasedP w L T)) ∧
      ∀ W : World, IsErr W 8 → Calls Tryz.prog 36 #[.string (strOfNums (L :: T))] W (MbP W L x) := by
  simp only [letters, List.mem_cons, List.not_mem_nil, or_false] at hL
  rcases hL with rfl | rfl | rfl | rfl | rfl | rfl | rfl | rfl | rfl | rfl | rfl
  · exact ⟨(dgs 4 x).map (ltr alp102), txb102 hb h1 hn, by rw [List.length_map]; have := dgs_len_le 4 (by omega) x hn; omega, fun w A c h => based16_calls h hn (by omega) (by omega) rfl alpha102, fun W hE => mb102_calls hb h1 hn W hE⟩
  · exact ⟨(dgs 4 x).map (ltr alp70), txb70 hb h1 hn, by rw [List.length_map]; have := dgs_len_le 4 (by omega) x hn; omega, fun w A c h => based16_calls h hn (by omega) (by omega) rfl alpha70, fun W hE => mb70_calls hb h1 hn W hE⟩
  · exact ⟨(dgs 5 x).map (ltr alp98), txb98 hb h1 hn, by rw [List.length_map]; have := dgs_len_le 5 (by omega) x hn; omega, fun w A c h => based32_calls h hn (by omega) (by omega) rfl alpha98, fun W hE => mb98_calls hb h1 hn W⟩
  · exact ⟨(dgs 5 x).map (ltr alp66), txb66 hb h1 hn, by rw [List.length_map]; have := dgs_len_le 5 (by omega) x hn; omega, fun w A c h => based32_calls h hn (by omega) (by omega) rfl alpha66, fun W hE => mb66_calls hb h1 hn W⟩
  · exact ⟨(dgs 5 x).map (ltr alp118), txb118 hb h1 hn, by rw [List.length_map]; have := dgs_len_le 5 (by omega) x hn; omega, fun w A c h => based32_calls h hn (by omega) (by omega) rfl alpha118, fun W hE => mb118_calls hb h1 hn W⟩
  · exact ⟨(dgs 5 x).map (ltr alp86), txb86 hb h1 hn, by rw [List.length_map]; have := dgs_len_le 5 (by omega) x hn; omega, fun w A c h => based32_calls h hn (by omega) (by omega) rfl alpha86, fun W hE => mb86_calls hb h1 hn W⟩
  · exact ⟨(N36.dig36 x).map (ltr alp107), txb107 hb x0 hn, by rw [List.length_map]; exact N36.len36 hb hn, fun w A c h => basedN36_calls h hn (by omega) x0 (by omega) (by omega) rfl alpha107, fun W hE => mb107_calls hb x0 hn W⟩
  · exact ⟨(N36.dig36 x).map (ltr alp75), txb75 hb x0 hn, by rw [List.length_map]; exact N36.len36 hb hn, fun w A c h => basedN36_calls h hn (by omega) x0 (by omega) (by omega) rfl alpha75, fun W hE => mb75_calls hb x0 hn W⟩
  · exact ⟨(dig58 x).map (ltr alp122), txb122 hb x0 hn, by rw [List.length_map]; exact len58 hb hn, fun w A c h => basedN58_calls h hn (by omega) x0 (by omega) (by omega) rfl alpha122, fun W hE => mb122_calls hb x0 hn W⟩
  · exact ⟨(dgs 6 x).map (ltr alp109), txb109 hb h1 hn, by rw [List.length_map]; have := dgs_len_le 6 (by omega) x hn; omega, fun w A c h => based64_calls h hn (by omega) (by omega) rfl alpha109, fun W hE => mb109_calls hb h1 hn W⟩
  · exact ⟨(dgs 6 x).map (ltr alp117), txb117 hb h1 hn, by rw [List.length_map]; have := dgs_len_le 6 (by omega) x hn; omega, fun w A c h => based64_calls h hn (by omega) (by omega) rfl alpha117, fun W hE => mb117_calls hb h1 hn W⟩
end Go.Proofs.YtflafpklphgbpaaGreatDoor
namespace Go.Proofs.YtflafpklphgbpaaGreatDoor
open Go Go.RowKit
set_option linter.unusedVariables false
set_option linter.unusedSimpArgs false
set_option maxRecDepth 100000

theorem BytOr.no {w w' : World} {e : Ending} (h : BytOr w (fun _ => False) e w') : e = .returned (.tuple #[.slice none 0 0, .bool false]) ∧ Kp no w w' := by
  rcases h with ⟨k, ⟨_, _, _, _, hf, _⟩ | h⟩
  · exact hf.elim
  · exact ⟨h, k⟩

set_option maxHeartbeats 8000000 in
theorem fnPeerBasesWrong_calls {w : World} (H : List Int) (hH : H.length = 32) (hb : Byt H) (k bs cd at_ : Int) (hk : 0 ≤ k ∧ k < 256) (hbs : 0 ≤ bs ∧ bs < 256) (hc : 0 ≤ cd ∧ cd < 256) (ha : 0 ≤ at_ ∧ at_ < 256) (hQ : QErrs w) (hX : IsErr w 8) :
    Calls Tryz.prog 3 #[.agg (nums .u8 H).toArray, .int .u8 k, .int .u8 bs, .int .u8 cd, .int .u8 at_] w (LawOk w) := by
  have BX := Blk.new w (nums .u8 H).toArray 22
  have kb : Kp no w (w.alloc (.cells (nums .u8 H).toArray 22)) := (Kp.refl _ _).alloc _
  have D1 := Lib.hid (PeerMade_calls (w := w.alloc (.cells (nums .u8 H).toArray 22)) H hH hb (k % 3) (by omega) (by omega))
  obtain ⟨L, hL, DB⟩ := peerBase_calls bs hbs.1 hbs.2
  unfold BaseP at DB
  have DB := Lib.hid DB
  have HL := Lib.hid hL
  have HH := Lib.hid hH
  clear hH hb hL
  go_enter Tryz.func3, Tryz.ntmps3
  go_wp2_with (refine wpList_load_mid rfl 22 (.tmp 5) rfl w.heap.size 0 rfl (nums .u8 H) (.array 32 5) (Blk.range BX) Tryz.underlying22 rfl (by rw [nums_length, HH.out]; exact infoB32) ?_)
  refine D1.out.mono ?_
  rintro e w1 ⟨A1, c1, l, hp, rfl, M1⟩
  have HP := Lib.hid hp
  have k1 := kb.then M1.kp
  have hl := HP.out.len
  have D6 := Lib.hid (sCid_calls M1.rd (by omega))
  clear hp
  go_wp2_with (fail)
  refine D6.out.mono ?_
  rintro e w6 ⟨ad2, c2, rfl, M2⟩
  have k6 := k1.then M2.kp
  obtain ⟨g2, hg2⟩ := M2.own.form (by simp)
  obtain ⟨Z, hZ⟩ : ∃ Z, Z = 1 :: 114 :: l := ⟨_, rfl⟩
  rw [← hZ] at M2 ⊢
  have hZl : Z.length = l.length + 2 := by rw [hZ]; simp
  have HZ := Lib.hid hZ
  clear hZ
  rw [hg2] at M2 ⊢
  clear hg2
  have hzl2 : Z.length ≤ 36 := by omega
  have hzl3 : 4 ≤ Z.length := by omega
  have HZL := Lib.hid hZl
  clear hZl
  generalize hq : Z.length = q at *
  have HQ := Lib.hid hq
  clear hq
  have h0 : 0 ≤ at_ % ((q : Int) - 2) := Int.emod_nonneg _ (by omega)
  have h1 : at_ % ((q : Int) - 2) < (q : Int) - 2 := Int.emod_lt_of_pos _ (by omega)
  obtain ⟨J, hJ⟩ : ∃ J : Nat, 2 + at_ % ((q : Int) - 2) = (J : Int) := ⟨(2 + at_ % ((q : Int) - 2)).toNat, by omega⟩
  have hJ2 : 2 ≤ J := by omega
  have hJ3 : J < q := by omega
  clear h0 h1
  have RJ := M2.rd.take J (by rw [HQ.out]; omega)
  have hct := cutTo (P := Tryz.prog) Tryz.und_bytes Tryz.size_byte (some ⟨g2, 0, none⟩) q c2 .i64 J (by omega) (by omega) (by have := M2.rd.cap; rw [HQ.out] at this; exact this)
  rw [show (J : Int).toNat = J from by simp] at hct
  have hTL : (Z.take J).length = J := RJ.len
  have hZ0 : (Z.take J).getD 0 0 ≠ 0 := by
    rw [HZ.out]
    obtain ⟨J', rfl⟩ : ∃ J', J = J' + 1 := ⟨J - 1, by omega⟩
    simp
  obtain ⟨T7, hT7, hT7m, D7, D7d⟩ := baseAll HL.out RJ.byt (by omega) (by omega) hZ0
  have HT := Lib.hid (show Z.take J = [] ∨ Z.take J = [1] ∨ ∃ p, Z.take J = 1 :: 114 :: p ∧ MH p = none from by
    rw [HZ.out]; exact HP.out.tornCid J (by have := HZL.out; have := HQ.out; omega))
  have hX6 : IsErr w6 8 := hX.keepN k6
  have D8 := Lib.hid (fun (W : World) (k : Kp no w6 W) => tornG (w := W) hT7 (fun W' k' => D7d W' ((hX6.keepN k).keepN k')) (by omega) HT.out ((hQ.keepN k6).keepN k).m)
  have D7 := Lib.hid (fun (W : World) (k : Kp no w6 W) => D7 W (some ⟨g2, 0, none⟩) c2 (by rw [hTL]; exact RJ.keepN k))
  rw [hTL] at D7
  have hs7 : (strOfNums (L :: T7)).size ≤ 1000 := by
    rw [strOfNums_size]; simp only [List.length_cons]; omega
  clear hTL RJ hZ0 hT7 hT7m D7d HT
  unfold BasedP at D7
  generalize strOfNums (L :: T7) = t7 at *
  have hqz : ¬ (q : Int) - 2 = 0 := by omega
  have hqz2 : ¬ (q : Int) = 2 := by omega
  have hqz3 : ¬ q = 2 := by omega
  have hqz4 : ((q : Int) - 2 == 0) = false := beq_eq_false_iff_ne.2 (by omega)
  go_upto_region 3 with (fail)
  go_cut [13, 14] from 24 to 38 (fun _ b wx => b = .bool false ∧ Kp no w6 wx)
  case first =>
    have hw1 : IntKind.i64.wrap at_ = at_ := by rw [IntKind.wrap_i64]; omega
    have hw2 : IntKind.i64.wrap ((q : Int) - 2) = (q : Int) - 2 := by rw [IntKind.wrap_i64]; omega
    have htm : Int.tmod at_ ((q : Int) - 2) = at_ % ((q : Int) - 2) := Int.tmod_eq_emod_of_nonneg ha.1
    have hw3 : IntKind.i64.wrap (at_ % ((q : Int) - 2)) = at_ % ((q : Int) - 2) := by rw [IntKind.wrap_i64]; omega
    have hw4 : IntKind.i64.wrap (J : Int) = (J : Int) := by rw [IntKind.wrap_i64]; omega
    go_region_with (first
      | (go_at_call 8; refine (DB.out _).mono ?_; rintro e w0 ⟨rfl, rfl⟩)
      | (go_at_call 7; refine (D7.out _ (Kp.refl _ _).drew).mono ?_; rintro e w7 ⟨rfl, hk7⟩)
      | (go_at_call 6; refine (D8.out _ ((Kp.refl _ _).drew.then hk7)).mono ?_; rintro e w8 hy; obtain ⟨rfl, hk8⟩ := hy.no))
    all_goals
      have hk9 := ((Kp.refl no w6).drew.then hk7).then hk8
      go_wp2
      go_meet
      case rel => exact ⟨rfl, hk9⟩
  case rest =>
    obtain ⟨rfl, hk8⟩ := hcut
    obtain ⟨w8, rfl⟩ : ∃ x : World, x = wc := ⟨_, rfl⟩
    clear D7 D8 hct hJ hJ2 hJ3 hs7
    have k8 := k6.then hk8
    obtain ⟨y, hy⟩ : ∃ y, cd % 100 = y := ⟨_, rfl⟩
    have y0 : 0 ≤ y := by omega
    have y1 : y < 100 := by omega
    have O8 := M2.own.keepN hk8
    have c8 := O8.cellAt 1 (by have := HQ.out; omega)
    have f8 := O8.freeAt 1
    have O9 := O8.set 1 y y0 (by omega)
    have HZ9 := Lib.hid (show Z.set 1 y = 1 :: y :: l from by rw [HZ.out]; rfl)
    rw [HZ9.out] at O9
    generalize Z.getD 1 0 = z1 at *
    have hge : w.heap.size ≤ g2 := by have := (M2.own.base g2 rfl).1; have := k1.size; omega
    have k9 : Kp no w (w8.setCell ⟨g2, 1, none⟩ (.int .u8 y)) := k8.setCell (p := ⟨g2, 1, none⟩) (fun hh => by have hh : g2 < w.heap.size := hh; omega) _
    obtain ⟨A9, c9, h9, R9, _, _⟩ := O9.rd
    injection h9 with h9 h9l h9'
    subst h9 h9'
    have hq2 : (1 :: y :: l).length = q := by have := HZL.out; simp; omega
    have hq1 : 1 < q := by omega
    clear h9l
    obtain ⟨w9, hw9⟩ : ∃ w9, w9 = w8.setCell ⟨g2, 1, none⟩ (.int .u8 y) := ⟨_, rfl⟩
    rw [← hw9] at R9 k9
    have HW9 := Lib.hid hw9
    clear hw9
    obtain ⟨T9, hT9, hT9m, D10, D10d⟩ := baseAll HL.out R9.byt (by omega) (by omega) (by simp)
    have hX9 : IsErr w9 8 := hX.keepN k9
    have D11 := Lib.hid (fun (W : World) (k : Kp no w9 W) => codecG (w := W) hT9 (fun W' k' => D10d W' ((hX9.keepN k).keepN k')) R9.byt (by omega) (by omega) y0 (by omega) HP.out.isMH (by omega) ((hQ.keepN k9).keepN k).m)
    have D10 := Lib.hid (D10 w9 _ _ R9)
    rw [hq2] at D10
    have hs9 : (strOfNums (L :: T9)).size ≤ 1000 := by
      rw [strOfNums_size]; simp only [List.length_cons]; omega
    clear R9 hq2 hT9 hT9m D10d
    unfold BasedP at D10
    generalize strOfNums (L :: T9) = t9 at *
    go_wp2_with (fail)
    rw [← HW9.out]
    refine (DB.out _).mono ?_
    rintro e w0 ⟨rfl, hw0⟩
    subst hw0
    go_wp2_with (fail)
    refine D10.out.mono ?_
    rintro e w10 ⟨rfl, hk10⟩
    go_wp2_with (fail)
    refine (D11.out _ hk10).mono ?_
    rintro e w11 hy11
    obtain ⟨rfl, hk11⟩ := hy11.no
    clear hy11
    have k11 := (k9.then hk10).then hk11
    have DL := Lib.hid (peersLive_calls (hQ.keepN k11).m)
    go_wp2_with (fail)
    refine DL.out.mono ?_
    rintro e w12 ⟨rfl, hk12⟩
    go_wp2
    go_ret
    exact ⟨rfl, k11.then hk12⟩
end Go.Proofs.YtflafpklphgbpaaGreatDoor
