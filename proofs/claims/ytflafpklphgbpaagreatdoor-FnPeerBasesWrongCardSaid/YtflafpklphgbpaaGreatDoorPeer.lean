/- PeerText; peersLive. -/
import Derived.Test.YtflafpklphgbpaaGreatDoorMhX
import Derived.Test.YtflafpklphgbpaaGreatDoorB58E
namespace Go.Proofs.YtflafpklphgbpaaGreatDoor
open Go Go.RowKit
set_option linter.unusedVariables false
set_option linter.unusedSimpArgs false
set_option maxRecDepth 100000

/-- A law's end. -/
def LawOk (w : World) (e : Ending) (w' : World) : Prop := e = .returned (.bool true) ∧ Kp no w w'

theorem fastEnc_calls {w : World} {A : Option Addr} {n c : Nat} {l : List Int} (h : Rd w A n c l) (hn : n ≤ 100) :
    Calls Tryz.prog 63 #[.slice A n c] w fun e w' => e = .returned (.string (strOfNums (text58 l))) ∧ Kp no w w' := by
  have D := Lib.hid (BTC_calls (w := w))
  go_enter Tryz.func63, Tryz.ntmps63
  go_wp2_with (first | (go_at_call 53; refine D.out.mono ?_; rintro e w1 ⟨g, rfl, _, _, hA0, k1⟩; have hA := Lib.hid hA0; clear hA0) | (go_at_call 84; refine (encode58_calls (h.keepN k1) hn hA.out).mono ?_; rintro e w2 ⟨rfl, k2⟩))
  go_ret
  exact ⟨rfl, k1.then k2⟩
theorem enc_calls {w : World} {A : Option Addr} {n c : Nat} {l : List Int} (h : Rd w A n c l) (hn : n ≤ 100) :
    Calls Tryz.prog 40 #[.slice A n c] w fun e w' => e = .returned (.string (strOfNums (text58 l))) ∧ Kp no w w' := by
  have D := Lib.hid (fastEnc_calls h hn)
  go_enter Tryz.func40, Tryz.ntmps40
  go_wp2_with (first | (go_at_call 63; refine D.out.mono ?_; rintro e w1 ⟨rfl, k1⟩))
  go_ret
  exact ⟨rfl, k1⟩
theorem IDStr_calls {w : World} {l : List Int} (hb : Byt l) (hn : l.length ≤ 100) :
    Calls Tryz.prog 29 #[.string (strOfNums l)] w fun e w' => e = .returned (.string (strOfNums (text58 l))) ∧ Kp no w w' := by
  obtain ⟨c1, w1, hcv, R1, k1, _⟩ := str_bytes (w := w) hb (by omega) Tryz.und_ID Tryz.und_bytes
  have D := Lib.hid (enc_calls R1 hn)
  clear R1
  go_enter Tryz.func29, Tryz.ntmps29
  go_wp2_with (first | (go_at_call 40; refine D.out.mono ?_; rintro e w2 ⟨rfl, k2⟩))
  go_ret
  exact ⟨rfl, k1.then k2⟩
theorem PeerText_calls {w : World} {A : Option Addr} {n c : Nat} {l : List Int} (h : Rd w A n c l) (hn : n ≤ 100) :
    Calls Tryz.prog 18 #[.slice A n c] w fun e w' => e = .returned (.string (strOfNums (text58 l))) ∧ Kp no w w' := by
  have hcv := h.strT Tryz.und_bytes Tryz.und_ID
  have D := Lib.hid (IDStr_calls (w := w) h.byt (by rw [h.len]; exact hn))
  go_enter Tryz.func18, Tryz.ntmps18
  go_wp2_with (first | (go_at_call 29; refine D.out.mono ?_; rintro e w2 ⟨rfl, k2⟩))
  go_ret
  exact ⟨rfl, k2⟩

theorem live_mh : IsMH [0, 1, 7] := ⟨0, by simp [MH, FU, rv, vint, vi]⟩
set_option maxHeartbeats 2000000 in
theorem peersLive_calls {w : World} (hE : MErrs w) :
    Calls Tryz.prog 9 #[] w fun e w' => e = .returned (.bool true) ∧ Kp no w w' := by
  have b8 : Byt [0, 1, 7] := by intro x hx; simp at hx; omega
  have k1 : Kp no w (w.alloc (.cells (nums .u8 [0, 1, 7]).toArray 5)) := (Kp.refl _ _).alloc _
  have D1 := Lib.hid (PeerOf_yes (Rd.lit w 5 [0, 1, 7] b8 (by simp)) (hE.keepN k1) (by simp) live_mh)
  go_enter Tryz.func9, Tryz.ntmps9
  go_wp2_with (fail)
  refine D1.out.mono ?_
  rintro e w2 ⟨A2, c2, rfl, R2, hk2⟩
  have k2 := k1.then hk2
  have ka : Kp no w2 (w2.alloc (.cells (nums .u8 [0, 1, 7]).toArray 5)) := (Kp.refl _ _).alloc _
  have D2 := Lib.hid (Equal_same (R2.keepN ka) (Rd.lit w2 5 [0, 1, 7] b8 (by simp)))
  go_wp2_with (fail)
  refine D2.out.mono ?_
  rintro e w3 ⟨rfl, rfl⟩
  have k3 := k2.then ka
  have D3 := Lib.hid (PeerText_calls (Rd.lit (w2.alloc (.cells (nums .u8 [0, 1, 7]).toArray 5)) 5 [0, 1, 7] b8 (by simp)) (by simp))
  have hsz : (w2.alloc (.cells (nums .u8 [0, 1, 7]).toArray 5)).heap.size = w2.heap.size + 1 := by simp
  rw [hsz] at D3
  go_wp2_with (fail)
  refine D3.out.mono ?_
  rintro e w4 ⟨rfl, hk4⟩
  have kb : Kp no (w2.alloc (.cells (nums .u8 [0, 1, 7]).toArray 5)) ((w2.alloc (.cells (nums .u8 [0, 1, 7]).toArray 5)).alloc (.cells (nums .u8 [0, 1, 7]).toArray 5)) := (Kp.refl _ _).alloc _
  have k4 := (k3.then kb).then hk4
  have D4 := Lib.hid (sBase58_calls (Rd.lit w4 5 [0, 1, 7] b8 (by simp)) (by simp))
  have kc : Kp no w4 (w4.alloc (.cells (nums .u8 [0, 1, 7]).toArray 5)) := (Kp.refl _ _).alloc _
  generalize strOfNums (text58 [0, 1, 7]) = s at *
  go_wp2_with (fail)
  refine D4.out.mono ?_
  rintro e w5 ⟨rfl, hk5⟩
  go_wp2
  go_ret
  exact ⟨rfl, (k4.then kc).then hk5⟩
end Go.Proofs.YtflafpklphgbpaaGreatDoor
