/- IDs out of bytes: IDFromBytes, PeerOf, PeerOfBinary. -/
import Derived.Test.YthdbchahmbcfeaaDoorMhB
import Derived.Test.YthdbchahmbcfeaaDoorConv
namespace Go.Proofs.YthdbchahmbcfeaaDoor
open Go Go.RowKit
set_option linter.unusedVariables false
set_option linter.unusedSimpArgs false
set_option maxRecDepth 100000

theorem Tryd.und_ID : Tryd.prog.underlying 33 = some .string := by kernel_rfl
theorem IDFrom_yes {w : World} {A : Option Addr} {n c : Nat} {l : List Int} (h : Rd w A n c l) (hE : MErrs w) (hn : n ≤ 1099511627776) (hm : IsMH l) :
    Calls Tryd.prog 20 #[.slice A n c] w fun e w' => e = .returned (.tuple #[.string (strOfNums l), Value.nilIface]) ∧ Kp no w w' := by
  have D := Lib.hid (Cast_yes h hE hn hm)
  go_enter Tryd.func20, Tryd.ntmps20
  go_wp2_with (first | (go_at_call 26; refine D.out.mono ?_; rintro e w1 ⟨rfl, k1⟩; have hcv := (h.keepN k1).strT Tryd.und_bytes Tryd.und_ID))
  go_ret2
  exact ⟨rfl, k1⟩
theorem IDFrom_no {w : World} {A : Option Addr} {n c : Nat} {l : List Int} (h : Rd w A n c l) (hE : MErrs w) (hn : n ≤ 1099511627776) (hm : ¬ IsMH l) :
    Calls Tryd.prog 20 #[.slice A n c] w fun e w' => ∃ t x, e = .returned (.tuple #[.string ⟨#[]⟩, .iface t x]) ∧ Kp no w w' := by
  have D := Lib.hid (Cast_no h hE hn hm)
  go_enter Tryd.func20, Tryd.ntmps20
  go_wp2_with (first | (go_at_call 26; refine D.out.mono ?_; rintro e w1 ⟨A1, t, x, rfl, k1⟩))
  go_ret2
  exact ⟨t, x, rfl, k1⟩

theorem PeerOf_yes {w : World} {A : Option Addr} {n c : Nat} {l : List Int} (h : Rd w A n c l) (hE : MErrs w) (hn : n ≤ 1099511627776) (hm : IsMH l) :
    Calls Tryd.prog 10 #[.slice A n c] w fun e w' => ∃ A' c', e = .returned (.tuple #[.slice A' l.length c', .bool true]) ∧ Rd w' A' l.length c' l ∧ Kp no w w' := by
  obtain rfl := h.len
  have D := Lib.hid (Clone_calls h (by omega))
  go_enter Tryd.func10, Tryd.ntmps10
  go_wp2_with (first | (go_at_call 15; refine D.out.mono ?_; rintro e w1 ⟨A1, c1, rfl, M1⟩) | (go_at_call 20; refine (IDFrom_yes M1.rd (hE.keepN M1.kp) hn hm).mono ?_; rintro e w2 ⟨rfl, k2⟩; obtain ⟨c3, w3, hcv, R3, k3, _⟩ := str_bytes (w := w2) h.byt hn Tryd.und_ID Tryd.und_bytes))
  go_ret2
  exact ⟨_, c3, rfl, R3, (M1.kp.then k2).then k3⟩
theorem PeerOf_no {w : World} {A : Option Addr} {n c : Nat} {l : List Int} (h : Rd w A n c l) (hE : MErrs w) (hn : n ≤ 1099511627776) (hm : ¬ IsMH l) :
    Calls Tryd.prog 10 #[.slice A n c] w fun e w' => e = .returned (.tuple #[.slice none 0 0, .bool false]) ∧ Kp no w w' := by
  obtain rfl := h.len
  have D := Lib.hid (Clone_calls h (by omega))
  go_enter Tryd.func10, Tryd.ntmps10
  go_wp2_with (first | (go_at_call 15; refine D.out.mono ?_; rintro e w1 ⟨A1, c1, rfl, M1⟩) | (go_at_call 20; refine (IDFrom_no M1.rd (hE.keepN M1.kp) hn hm).mono ?_; rintro e w2 ⟨t, x, rfl, k2⟩))
  go_ret2
  exact ⟨rfl, M1.kp.then k2⟩
end Go.Proofs.YthdbchahmbcfeaaDoor
