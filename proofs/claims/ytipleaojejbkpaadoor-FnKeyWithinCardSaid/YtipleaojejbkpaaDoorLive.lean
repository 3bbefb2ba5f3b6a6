/- The laws' small keys: keysLive. -/
import Derived.Test.YtipleaojejbkpaaDoorLaw
namespace Go.Proofs.YtipleaojejbkpaaDoor
open Go Go.RowKit
set_option linter.unusedVariables false
set_option linter.unusedSimpArgs false
set_option maxRecDepth 100000

set_option maxHeartbeats 2000000 in
theorem keysLive_calls {w : World} (hE : KErrs w) :
    Calls Tryd.prog 19 #[] w fun e w' => e = .returned (.bool true) ∧ Kp no w w' := by
  have b7 : Byt [7] := Byt.one (by omega) (by omega)
  have b8 : Byt [8, 1, 18, 1, 7] := by intro x hx; simp at hx; omega
  have k1 : Kp no w (w.alloc (.cells (nums .u8 [7]).toArray 5)) := (Kp.refl _ _).alloc _
  have D1 := Lib.hid (KeyBytes_calls (Rd.lit w 5 [7] b7 (by simp)) (by simp) 1 (by omega) (by omega))
  rw [kb_live] at D1
  go_enter Tryd.func19, Tryd.ntmps19
  go_wp2_with (fail)
  refine D1.out.mono ?_
  rintro e w2 ⟨A2, c2, rfl, hM2⟩
  have k2 := k1.then hM2.kp
  have ka : Kp no w2 (w2.alloc (.cells (nums .u8 [8, 1, 18, 1, 7]).toArray 5)) := (Kp.refl _ _).alloc _
  have k3 := k2.then ka
  have D2 := Lib.hid (KeyOf_calls (Rd.lit w2 5 [8, 1, 18, 1, 7] b8 (by simp)) (by simp) (hE.keepN k3))
  go_wp2_with (fail)
  refine D2.out.mono ?_
  rintro e w4 ⟨hk4, k, A4, c4, d, ok, rfl, hR4, r0, r1, hK⟩
  rw [← kb_live] at hK
  obtain ⟨rfl, rfl, rfl⟩ := hK.kb (by omega) (by omega) b7 (by simp)
  have k4 := k3.then hk4
  have kb1 : Kp no w4 (w4.alloc (.cells (nums .u8 [8, 1, 18, 1, 7]).toArray 5)) := (Kp.refl _ _).alloc _
  have k5 := k4.then kb1
  have D3 := Lib.hid (Equal_same (hM2.rd.keepN (ka.then (hk4.then kb1))) (Rd.lit w4 5 [8, 1, 18, 1, 7] b8 (by simp)))
  go_wp2_with (fail)
  refine D3.out.mono ?_
  rintro e w5 ⟨rfl, rfl⟩
  have kc : Kp no (w4.alloc (.cells (nums .u8 [8, 1, 18, 1, 7]).toArray 5)) ((w4.alloc (.cells (nums .u8 [8, 1, 18, 1, 7]).toArray 5)).alloc (.cells (nums .u8 [7]).toArray 5)) := (Kp.refl _ _).alloc _
  have D4 := Lib.hid (Equal_same (hR4.keepN (kb1.then kc)) (Rd.lit (w4.alloc (.cells (nums .u8 [8, 1, 18, 1, 7]).toArray 5)) 5 [7] b7 (by simp)))
  have hsz : (w4.alloc (.cells (nums .u8 [8, 1, 18, 1, 7]).toArray 5)).heap.size = w4.heap.size + 1 := by simp
  rw [hsz] at D4
  go_wp2_with (fail)
  refine D4.out.mono ?_
  rintro e w6 ⟨rfl, rfl⟩
  go_wp2
  go_ret
  exact ⟨rfl, k5.then kc⟩
end Go.Proofs.YtipleaojejbkpaaDoor
