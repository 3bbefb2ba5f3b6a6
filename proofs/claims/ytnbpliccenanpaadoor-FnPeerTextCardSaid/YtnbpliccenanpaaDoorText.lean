/- FnPeerText walked. -/
import Derived.Test.YtnbpliccenanpaaDoorShort
import Derived.Test.YtnbpliccenanpaaDoorT58
import Derived.Deep.RegionHeld3
import Derived.Deep.Cut
import Derived.Deep.CutRange
namespace Go.Proofs.YtnbpliccenanpaaDoor
open Go Go.RowKit
set_option linter.unusedVariables false
set_option linter.unusedSimpArgs false
set_option maxRecDepth 100000

/-- Texts are alike just if their bytes are. -/
theorem text58_beq {a b : List Int} (ha : Byt a) (hb : Byt b) : ((strOfNums (text58 a)).toList == (strOfNums (text58 b)).toList) = decide (a = b) := by
  rw [strOfNums_beq (text58_byt a) (text58_byt b)]
  by_cases h : a = b
  · subst h; simp
  · have : ¬ text58 a = text58 b := fun e => h (text58_inj ha hb e)
    simp [h, this]

set_option maxHeartbeats 4000000 in
theorem fnPeerText_calls {w : World} (H G : List Int) (hH : H.length = 32) (hG : G.length = 32) (hbH : Byt H) (hbG : Byt G) (k o : Int) (hk : 0 ≤ k ∧ k < 256) (ho : 0 ≤ o ∧ o < 256) (hE : MErrs w) :
    Calls Tryd.prog 4 #[.agg (nums .u8 H).toArray, .agg (nums .u8 G).toArray, .int .u8 k, .int .u8 o] w (LawOk w) := by
  have BX : Blk ((w.alloc (.cells (nums .u8 H).toArray 31)).alloc (.cells (nums .u8 G).toArray 31)) w.heap.size (nums .u8 H).toArray 31 := (Blk.new w _ _).alloc _
  have BY : Blk ((w.alloc (.cells (nums .u8 H).toArray 31)).alloc (.cells (nums .u8 G).toArray 31)) (w.heap.size + 1) (nums .u8 G).toArray 31 := by
    have := Blk.new (w.alloc (.cells (nums .u8 H).toArray 31)) (nums .u8 G).toArray 31
    rwa [show (w.alloc (.cells (nums .u8 H).toArray 31)).heap.size = w.heap.size + 1 from by simp] at this
  have kb : Kp no w ((w.alloc (.cells (nums .u8 H).toArray 31)).alloc (.cells (nums .u8 G).toArray 31)) := ((Kp.refl _ _).alloc _).alloc _
  obtain ⟨W1, hW1⟩ : ∃ W1, W1 = (w.alloc (.cells (nums .u8 H).toArray 31)).alloc (.cells (nums .u8 G).toArray 31) := ⟨_, rfl⟩
  rw [← hW1] at BX BY kb
  have HW1 := Lib.hid hW1
  have D1 := fun W => Lib.hid (PeerMade_calls (w := W) H hH hbH k hk.1 hk.2)
  have D2 := fun W => Lib.hid (PeerMade_calls (w := W) G hG hbG o ho.1 ho.2)
  have hu := Tryd.underlying31
  have hi1 : (Tryd.prog.info? 31).map (·.size) = some (nums .u8 H).length := by rw [nums_length, hH]; exact infoB32
  have hi2 : (Tryd.prog.info? 31).map (·.size) = some (nums .u8 G).length := by rw [nums_length, hG]; exact infoB32
  have HS := Lib.hid (show ∀ W, Kp no W1 W → Kp no W1 W ∧ W.rangeAt w.heap.size 0 (nums .u8 H) ∧ W.rangeAt (w.heap.size + 1) 0 (nums .u8 G) from fun W k => ⟨k, (BX.keepN k).range, (BY.keepN k).range⟩)
  have kd : Kp no W1 W1.drew := (Kp.refl _ _).drew
  clear hH hG hbH hbG hW1
  go_enter Tryd.func4, Tryd.ntmps4
  go_upto_region 1 with (fail)
  rw [← HW1.out]
  go_cut [9, 10] from 13 to 18 (fun p q wx => ∃ A1 c1 l1 A2 c2 l2, p = .slice A1 l1.length c1 ∧ q = .slice A2 l2.length c2 ∧ Hid (PM k l1) ∧ Hid (PM o l2) ∧ Rd wx A1 l1.length c1 l1 ∧ Rd wx A2 l2.length c2 l2 ∧ Kp no W1 wx)
  case first =>
    refine wp_region_held_drew (S := fun W => Kp no W1 W ∧ W.rangeAt w.heap.size 0 (nums .u8 H) ∧ W.rangeAt (w.heap.size + 1) 0 (nums .u8 G)) (by kernel_rfl) (HS.out _ kd) (fun _ => ?_)
    refine wpAnyH_take (i := 0) (v := .agg (nums .u8 H).toArray) rfl (by kernel_rfl) (by kernel_rfl) (by kernel_rfl) (fun _ _ _ h => h) (yieldsIf_load_mid rfl 31 (.tmp 4) rfl w.heap.size 0 rfl (nums .u8 H) _ (fun w h => h.2.1) hu rfl hi1) (HS.out _ kd) ?_
    simp only [Act.put, List.setIfInBounds_toArray, List.set_cons_zero, List.set_cons_succ]
    refine wpAnyH_take (i := 3) (v := .agg (nums .u8 G).toArray) rfl (by kernel_rfl) (by kernel_rfl) (by kernel_rfl) (fun _ _ _ h => h) (yieldsIf_load_mid rfl 31 (.tmp 5) rfl (w.heap.size + 1) 0 rfl (nums .u8 G) _ (fun w h => h.2.2) hu rfl hi2) (HS.out _ kd) ?_
    simp only [Act.put, List.setIfInBounds_toArray, List.set_cons_zero, List.set_cons_succ]
    refine wpAnyH_take (i := 1) (v := .int .u8 k) rfl (by kernel_rfl) (by kernel_rfl) (by kernel_rfl) (fun _ _ _ h => h) (Or.inl ⟨by rfl, fun _ _ => rfl⟩) (HS.out _ kd) ?_
    simp only [Act.put, List.setIfInBounds_toArray, List.set_cons_zero, List.set_cons_succ]
    refine wpAnyH_take (i := 4) (v := .int .u8 o) rfl (by kernel_rfl) (by kernel_rfl) (by kernel_rfl) (fun _ _ _ h => h) (Or.inl ⟨by rfl, fun _ _ => rfl⟩) (HS.out _ kd) ?_
    simp only [Act.put, List.setIfInBounds_toArray, List.set_cons_zero, List.set_cons_succ]
    refine wpAnyH_ready (rs := [2]) (by kernel_rfl) (by simp) (AllReadyH.cons rfl (fun K hK => ?_) AllReadyH.nil)
    go_simp
    go_at_call 16
    refine (D1 W1.drew).out.mono ?_
    rintro e w4 ⟨A4, c4, l4, hp4, rfl, M4⟩
    have k4 := kd.then M4.kp
    refine hK.out _ _ (HS.out _ k4) (fun _ => ?_)
    clear hK
    try simp only [Act.put, List.setIfInBounds_toArray, List.set_cons_zero, List.set_cons_succ]
    refine wpAnyH_ready (rs := [5]) (by kernel_rfl) (by simp) (AllReadyH.cons rfl (fun K hK => ?_) AllReadyH.nil)
    go_simp
    go_at_call 16
    refine (D2 w4).out.mono ?_
    rintro e w5 ⟨A5, c5, l5, hp5, rfl, M5⟩
    have k5 := k4.then M5.kp
    refine hK.out _ _ (HS.out _ k5) (fun _ => ?_)
    clear hK
    try simp only [Act.put, List.setIfInBounds_toArray, List.set_cons_zero, List.set_cons_succ]
    refine wpAnyH_take (i := 6) (oi := { dst := some 9, op := .assign (.tmp 15), type := 22, pos := _, after := _, guard := none }) (v := .slice A4 l4.length c4) rfl (by kernel_rfl) (by kernel_rfl) (by kernel_rfl) (fun _ _ _ h => h) (Or.inl ⟨by rfl, fun _ _ => rfl⟩) (HS.out _ k5) ?_
    try simp only [Act.put, List.setIfInBounds_toArray, List.set_cons_zero, List.set_cons_succ]
    refine wpAnyH_take (i := 7) (oi := { dst := some 10, op := .assign (.tmp 18), type := 22, pos := _, after := _, guard := none }) (v := .slice A5 l5.length c5) rfl (by kernel_rfl) (by kernel_rfl) (by kernel_rfl) (fun _ _ _ h => h) (Or.inl ⟨by rfl, fun _ _ => rfl⟩) (HS.out _ k5) ?_
    try simp only [Act.put, List.setIfInBounds_toArray, List.set_cons_zero, List.set_cons_succ]
    refine wpAnyH_done (by kernel_rfl) ?_ _
    go_wp2_with (fail)
    go_meet
    case rel => exact ⟨A4, c4, l4, A5, c5, l5, rfl, rfl, hp4, hp5, M4.rd.keepN M5.kp, M5.rd, k5⟩
  case rest =>
    obtain ⟨A1, c1, a, A2, c2, b, rfl, rfl, HP1, HP2, R1, R2, k1⟩ := hcut
    obtain ⟨w1, rfl⟩ : ∃ w1 : World, w1 = wc := ⟨_, rfl⟩
    have la := HP1.out.len
    have lb := HP2.out.len
    have K1 := kb.then k1
    have E1 := Lib.hid (Clone_calls R1 (by omega))
    have hab := Lib.hid (text58_beq HP1.out.byt HP2.out.byt)
    clear hi1 hi2 hu D1 D2 HS kd
    go_wp2_with (fail)
    refine E1.out.mono ?_
    rintro e w2 ⟨A3, c3, rfl, M2⟩
    have K2 := K1.then M2.kp
    have E2 := Lib.hid (PeerText_calls M2.rd (by omega))
    go_wp2_with (fail)
    refine E2.out.mono ?_
    rintro e w3 ⟨rfl, hk3⟩
    have K3 := K2.then hk3
    have R2' := (R2.keepN M2.kp).keepN hk3
    have R1' := (R1.keepN M2.kp).keepN hk3
    have E3 := Lib.hid (Clone_calls R2' (by omega))
    go_wp2_with (fail)
    refine E3.out.mono ?_
    rintro e w4 ⟨A4, c4, rfl, M4⟩
    have K4 := K3.then M4.kp
    have E4 := Lib.hid (PeerText_calls M4.rd (by omega))
    go_wp2_with (fail)
    refine E4.out.mono ?_
    rintro e w5 ⟨rfl, hk5⟩
    have K5 := K4.then hk5
    have R2'' := (R2'.keepN M4.kp).keepN hk5
    have R1'' := (R1'.keepN M4.kp).keepN hk5
    have E5 := Lib.hid (sBase58_calls R1'' (by omega))
    obtain ⟨d, hd⟩ : ∃ d, d = decide (a = b) := ⟨_, rfl⟩
    have E7 := Equal_any R1'' R2''
    rw [← hd] at hab E7
    have E6 := fun W (kw : Kp no w5 W) => Lib.hid (sBase58_calls (R2''.keepN kw) (by omega))
    have E8 := fun W (kw : Kp no w5 W) => Lib.hid (Equal_any (R1''.keepN kw) (R2''.keepN kw))
    rw [← hd] at E8
    have hab2 := hab.out
    generalize strOfNums (text58 a) = sa at *
    generalize strOfNums (text58 b) = sb at *
    clear E7 hd hab
    go_wp2_with (fail)
    refine E5.out.mono ?_
    rintro e w6 ⟨rfl, hk6⟩
    have k6 := K5.then hk6
    go_wp2_with (fail)
    refine (E6 w6 hk6).out.mono ?_
    rintro e w7 ⟨rfl, hk7⟩
    have k7 := k6.then hk7
    have E9 := Lib.hid (peersLive_calls (hE.keepN k7))
    go_wp2_with (fail)
    refine (E8 w7 (hk6.then hk7)).out.mono ?_
    rintro e w8 ⟨rfl, rfl⟩
    go_wp2_with (fail)
    refine E9.out.mono ?_
    rintro e w9 ⟨rfl, hk9⟩
    go_wp2
    go_ret
    exact ⟨rfl, k7.then hk9⟩
end Go.Proofs.YtnbpliccenanpaaDoor
