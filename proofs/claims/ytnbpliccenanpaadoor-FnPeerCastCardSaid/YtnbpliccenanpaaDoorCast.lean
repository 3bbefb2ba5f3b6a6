/- FnPeerCast walked. -/
import Derived.Test.YtnbpliccenanpaaDoorPHash
namespace Go.Proofs.YtnbpliccenanpaaDoor
open Go Go.RowKit
set_option linter.unusedVariables false
set_option linter.unusedSimpArgs false
set_option maxRecDepth 100000

set_option maxHeartbeats 4000000 in
theorem fnPeerCast_calls {w : World} {A : Option Addr} {n c : Nat} {l : List Int} (h : Rd w A n c l) (hE : MErrs w) :
    Calls Tryd.prog 3 #[.slice A n c] w (LawOk w) := by
  have hmax := h.max
  obtain rfl := h.len
  by_cases hbig : 2147483647 < (l.length : Int)
  · clear h
    go_enter Tryd.func3, Tryd.ntmps3
    go_wp2
    go_ret
    exact ⟨rfl, Kp.refl _ _⟩
  have D1 := Lib.hid (PeerHash_calls h (by omega))
  go_enter Tryd.func3, Tryd.ntmps3
  go_wp2_with (fail)
  refine D1.out.mono ?_
  rintro e w1 ⟨ok, opn, rfl, HP0, k1⟩
  have HP := Lib.hid HP0
  clear HP0
  have DL := Lib.hid (peersLive_calls (hE.keepN k1))
  by_cases hmid : 200 < (l.length : Int)
  · go_wp2_with (first | (go_at_call 11; refine DL.out.mono ?_; rintro e w2 ⟨rfl, hk2⟩))
    go_ret
    exact ⟨rfl, k1.then hk2⟩
  have hmidb : (decide (200 < (l.length : Int))) = false := by simp; omega
  have hmid2 : (l.length : Int) ≤ 200 := by omega
  clear hmid hbig
  cases opn with
  | true =>
    go_wp2_with (first | (go_at_call 11; refine DL.out.mono ?_; rintro e w2 ⟨rfl, hk2⟩))
    go_ret
    exact ⟨rfl, k1.then hk2⟩
  | false =>
    have D2 := Lib.hid (Clone_calls (h.keepN k1) (by omega))
    by_cases hm : IsMH l
    · obtain rfl := (HP.out rfl).2 hm
      have HM := Lib.hid hm
      clear hm DL
      go_wp2_with (fail)
      refine D2.out.mono ?_
      rintro e w2 ⟨A2, c2, rfl, M2⟩
      have k2 := k1.then M2.kp
      have D3 := Lib.hid (PeerOf_yes M2.rd (hE.keepN k2) (by omega) HM.out)
      go_wp2_with (fail)
      refine D3.out.mono ?_
      rintro e w3 ⟨A3, c3, rfl, R3, hk3⟩
      have k3 := k2.then hk3
      have D4 := Lib.hid (Clone_calls (h.keepN k3) (by omega))
      go_wp2_with (fail)
      refine D4.out.mono ?_
      rintro e w4 ⟨A4, c4, rfl, M4⟩
      have k4 := k3.then M4.kp
      have D5 := Lib.hid (PeerOfBin_yes M4.rd (hE.keepN k4) (by omega) HM.out)
      go_wp2_with (fail)
      refine D5.out.mono ?_
      rintro e w5 ⟨A5, c5, rfl, R5, hk5⟩
      have k5 := k4.then hk5
      have E1 := Lib.hid (Equal_same (R3.keepN (M4.kp.then hk5)) (h.keepN k5))
      have E2 := Lib.hid (Equal_same R5 (h.keepN k5))
      have DL := Lib.hid (peersLive_calls (hE.keepN k5))
      go_wp2_with (fail)
      refine E1.out.mono ?_
      rintro e w6 ⟨rfl, rfl⟩
      go_wp2_with (fail)
      refine E2.out.mono ?_
      rintro e w6 ⟨rfl, rfl⟩
      go_wp2_with (fail)
      refine DL.out.mono ?_
      rintro e w7 ⟨rfl, hk7⟩
      go_wp2
      go_ret
      exact ⟨rfl, k5.then hk7⟩
    · obtain rfl : ok = false := by
        cases ok with
        | true => exact absurd ((HP.out rfl).1 rfl) hm
        | false => rfl
      have HM := Lib.hid hm
      clear hm DL
      go_wp2_with (fail)
      refine D2.out.mono ?_
      rintro e w2 ⟨A2, c2, rfl, M2⟩
      have k2 := k1.then M2.kp
      have D3 := Lib.hid (PeerOf_no M2.rd (hE.keepN k2) (by omega) HM.out)
      go_wp2_with (fail)
      refine D3.out.mono ?_
      rintro e w3 ⟨rfl, hk3⟩
      have k3 := k2.then hk3
      have D4 := Lib.hid (Clone_calls (h.keepN k3) (by omega))
      go_wp2_with (fail)
      refine D4.out.mono ?_
      rintro e w4 ⟨A4, c4, rfl, M4⟩
      have k4 := k3.then M4.kp
      have D5 := Lib.hid (PeerOfBin_no M4.rd (hE.keepN k4) (by omega) HM.out)
      go_wp2_with (fail)
      refine D5.out.mono ?_
      rintro e w5 ⟨rfl, hk5⟩
      have k5 := k4.then hk5
      have DL := Lib.hid (peersLive_calls (hE.keepN k5))
      go_wp2_with (fail)
      refine DL.out.mono ?_
      rintro e w7 ⟨rfl, hk7⟩
      go_wp2
      go_ret
      exact ⟨rfl, k5.then hk7⟩
end Go.Proofs.YtnbpliccenanpaaDoor
