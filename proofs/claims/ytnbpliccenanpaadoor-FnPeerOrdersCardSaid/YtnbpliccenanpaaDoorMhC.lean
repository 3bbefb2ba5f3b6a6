/- IDs out of bytes: IDFromBytes, PeerOf, PeerOfBinary. -/
import Derived.Test.YtnbpliccenanpaaDoorMhB
import Derived.Test.YtnbpliccenanpaaDoorConv
namespace Go.Proofs.YtnbpliccenanpaaDoor
open Go Go.RowKit
set_option linter.unusedVariables false
set_option linter.unusedSimpArgs false
set_option maxRecDepth 100000

theorem Tryd.und_ID : Tryd.prog.underlying 51 = some .string := by kernel_rfl
theorem IDFrom_yes {w : World} {A : Option Addr} {n c : Nat} {l : List Int} (h : Rd w A n c l) (hE : MErrs w) (hn : n ≤ 1099511627776) (hm : IsMH l) :
    Calls Tryd.prog 33 #[.slice A n c] w fun e w' => e = .returned (.tuple #[.string (strOfNums l), Value.nilIface]) ∧ Kp no w w' := by
  have D := Lib.hid (Cast_yes h hE hn hm)
  go_enter Tryd.func33, Tryd.ntmps33
  go_wp2_with (first | (go_at_call 51; refine D.out.mono ?_; rintro e w1 ⟨rfl, k1⟩; have hcv := (h.keepN k1).strT Tryd.und_bytes Tryd.und_ID))
  go_ret2
  exact ⟨rfl, k1⟩
theorem IDFrom_no {w : World} {A : Option Addr} {n c : Nat} {l : List Int} (h : Rd w A n c l) (hE : MErrs w) (hn : n ≤ 1099511627776) (hm : ¬ IsMH l) :
    Calls Tryd.prog 33 #[.slice A n c] w fun e w' => ∃ t x, e = .returned (.tuple #[.string ⟨#[]⟩, .iface t x]) ∧ Kp no w w' := by
  have D := Lib.hid (Cast_no h hE hn hm)
  go_enter Tryd.func33, Tryd.ntmps33
  go_wp2_with (first | (go_at_call 51; refine D.out.mono ?_; rintro e w1 ⟨A1, t, x, rfl, k1⟩))
  go_ret2
  exact ⟨t, x, rfl, k1⟩

theorem PeerOf_yes {w : World} {A : Option Addr} {n c : Nat} {l : List Int} (h : Rd w A n c l) (hE : MErrs w) (hn : n ≤ 1099511627776) (hm : IsMH l) :
    Calls Tryd.prog 12 #[.slice A n c] w fun e w' => ∃ A' c', e = .returned (.tuple #[.slice A' l.length c', .bool true]) ∧ Rd w' A' l.length c' l ∧ Kp no w w' := by
  obtain rfl := h.len
  have D := Lib.hid (Clone_calls h (by omega))
  go_enter Tryd.func12, Tryd.ntmps12
  go_wp2_with (first | (go_at_call 13; refine D.out.mono ?_; rintro e w1 ⟨A1, c1, rfl, M1⟩) | (go_at_call 33; refine (IDFrom_yes M1.rd (hE.keepN M1.kp) hn hm).mono ?_; rintro e w2 ⟨rfl, k2⟩; obtain ⟨c3, w3, hcv, R3, k3, _⟩ := str_bytes (w := w2) h.byt hn Tryd.und_ID Tryd.und_bytes))
  go_ret2
  exact ⟨_, c3, rfl, R3, (M1.kp.then k2).then k3⟩
theorem PeerOf_no {w : World} {A : Option Addr} {n c : Nat} {l : List Int} (h : Rd w A n c l) (hE : MErrs w) (hn : n ≤ 1099511627776) (hm : ¬ IsMH l) :
    Calls Tryd.prog 12 #[.slice A n c] w fun e w' => e = .returned (.tuple #[.slice none 0 0, .bool false]) ∧ Kp no w w' := by
  obtain rfl := h.len
  have D := Lib.hid (Clone_calls h (by omega))
  go_enter Tryd.func12, Tryd.ntmps12
  go_wp2_with (first | (go_at_call 13; refine D.out.mono ?_; rintro e w1 ⟨A1, c1, rfl, M1⟩) | (go_at_call 33; refine (IDFrom_no M1.rd (hE.keepN M1.kp) hn hm).mono ?_; rintro e w2 ⟨t, x, rfl, k2⟩))
  go_ret2
  exact ⟨rfl, M1.kp.then k2⟩
/-- Unmarshal, into a new variable. -/
theorem Un_yes {w : World} {A : Option Addr} {n c g : Nat} {l : List Int} (h : Rd w A n c l) (hE : MErrs w) (hn : n ≤ 1099511627776) (hm : IsMH l) {s : ByteArray} (hg : Blk w g #[.string s] 51) :
    Calls Tryd.prog 52 #[.pointer (some ⟨g, 0, none⟩), .slice A n c] w fun e w' => e = .returned Value.nilIface ∧ Blk w' g #[.string (strOfNums l)] 51 ∧ Kp (· = g) w w' := by
  have D := Lib.hid (IDFrom_yes h hE hn hm)
  go_enter Tryd.func52, Tryd.ntmps52
  go_wp2_with (first | (go_at_call 33; refine D.out.mono ?_; rintro e w1 ⟨rfl, k1⟩; have hg1 := hg.keepN k1; have c0 := hg1.cell 0; have f0 := hg1.free 0))
  go_ret
  exact ⟨rfl, hg1.set 0 (.string (strOfNums l)), Kp.setCell (S := (· = g)) (p := ⟨g, 0, none⟩) (k1.mono (fun _ _ h => h.elim)) (fun _ => rfl) _⟩
theorem Un_no {w : World} {A : Option Addr} {n c g : Nat} {l : List Int} (h : Rd w A n c l) (hE : MErrs w) (hn : n ≤ 1099511627776) (hm : ¬ IsMH l) {s : ByteArray} (hg : Blk w g #[.string s] 51) :
    Calls Tryd.prog 52 #[.pointer (some ⟨g, 0, none⟩), .slice A n c] w fun e w' => ∃ t x, e = .returned (.iface t x) ∧ Kp (· = g) w w' := by
  have D := Lib.hid (IDFrom_no h hE hn hm)
  go_enter Tryd.func52, Tryd.ntmps52
  go_wp2_with (first | (go_at_call 33; refine D.out.mono ?_; rintro e w1 ⟨t, x, rfl, k1⟩; have hg1 := hg.keepN k1; have c0 := hg1.cell 0; have f0 := hg1.free 0))
  go_ret
  exact ⟨t, x, rfl, Kp.setCell (S := (· = g)) (p := ⟨g, 0, none⟩) (k1.mono (fun _ _ h => h.elim)) (fun _ => rfl) _⟩
/-- UnmarshalBinary, into a new variable. -/
theorem UnBin_yes {w : World} {A : Option Addr} {n c g : Nat} {l : List Int} (h : Rd w A n c l) (hE : MErrs w) (hn : n ≤ 1099511627776) (hm : IsMH l) {s : ByteArray} (hg : Blk w g #[.string s] 51) :
    Calls Tryd.prog 34 #[.pointer (some ⟨g, 0, none⟩), .slice A n c] w fun e w' => e = .returned Value.nilIface ∧ Blk w' g #[.string (strOfNums l)] 51 ∧ Kp (· = g) w w' := by
  have D := Lib.hid (Un_yes h hE hn hm hg)
  go_enter Tryd.func34, Tryd.ntmps34
  go_wp2_with (first | (go_at_call 52; refine D.out.mono ?_; rintro e w1 ⟨rfl, hg1, k1⟩))
  go_ret
  exact ⟨rfl, hg1, k1⟩
theorem UnBin_no {w : World} {A : Option Addr} {n c g : Nat} {l : List Int} (h : Rd w A n c l) (hE : MErrs w) (hn : n ≤ 1099511627776) (hm : ¬ IsMH l) {s : ByteArray} (hg : Blk w g #[.string s] 51) :
    Calls Tryd.prog 34 #[.pointer (some ⟨g, 0, none⟩), .slice A n c] w fun e w' => ∃ t x, e = .returned (.iface t x) ∧ Kp (· = g) w w' := by
  have D := Lib.hid (Un_no h hE hn hm hg)
  go_enter Tryd.func34, Tryd.ntmps34
  go_wp2_with (first | (go_at_call 52; refine D.out.mono ?_; rintro e w1 ⟨t, x, rfl, k1⟩))
  go_ret
  exact ⟨t, x, rfl, k1⟩
theorem PeerOfBin_yes {w : World} {A : Option Addr} {n c : Nat} {l : List Int} (h : Rd w A n c l) (hE : MErrs w) (hn : n ≤ 1099511627776) (hm : IsMH l) :
    Calls Tryd.prog 14 #[.slice A n c] w fun e w' => ∃ A' c', e = .returned (.tuple #[.slice A' l.length c', .bool true]) ∧ Rd w' A' l.length c' l ∧ Kp no w w' := by
  obtain rfl := h.len
  have k0 : Kp no w (w.alloc (.cells #[.string ⟨#[]⟩] 51)) := (Kp.refl _ _).alloc _
  have hg0 := Blk.new w #[.string ⟨#[]⟩] 51
  have D := Lib.hid (Clone_calls (h.keepN k0) (by omega))
  go_enter Tryd.func14, Tryd.ntmps14
  go_wp2_with (first | (go_at_call 13; refine D.out.mono ?_; rintro e w1 ⟨A1, c1, rfl, M1⟩) | (go_at_call 34; refine (UnBin_yes M1.rd ((hE.keepN k0).keepN M1.kp) hn hm (hg0.keepN M1.kp)).mono ?_; rintro e w2 ⟨rfl, hg2, k2⟩; have c0 := hg2.cell 0; obtain ⟨c3, w3, hcv, R3, k3, _⟩ := str_bytes (w := w2) h.byt hn Tryd.und_ID Tryd.und_bytes))
  go_ret2
  exact ⟨_, c3, rfl, R3, ((k0.then M1.kp).trans k2 (fun i hi h => by have h : i = _ := h; omega)).then k3⟩
theorem PeerOfBin_no {w : World} {A : Option Addr} {n c : Nat} {l : List Int} (h : Rd w A n c l) (hE : MErrs w) (hn : n ≤ 1099511627776) (hm : ¬ IsMH l) :
    Calls Tryd.prog 14 #[.slice A n c] w fun e w' => e = .returned (.tuple #[.slice none 0 0, .bool false]) ∧ Kp no w w' := by
  obtain rfl := h.len
  have k0 : Kp no w (w.alloc (.cells #[.string ⟨#[]⟩] 51)) := (Kp.refl _ _).alloc _
  have hg0 := Blk.new w #[.string ⟨#[]⟩] 51
  have D := Lib.hid (Clone_calls (h.keepN k0) (by omega))
  go_enter Tryd.func14, Tryd.ntmps14
  go_wp2_with (first | (go_at_call 13; refine D.out.mono ?_; rintro e w1 ⟨A1, c1, rfl, M1⟩) | (go_at_call 34; refine (UnBin_no M1.rd ((hE.keepN k0).keepN M1.kp) hn hm (hg0.keepN M1.kp)).mono ?_; rintro e w2 ⟨t, x, rfl, k2⟩))
  go_ret2
  exact ⟨rfl, (k0.then M1.kp).trans k2 (fun i hi h => by have h : i = _ := h; omega)⟩
end Go.Proofs.YtnbpliccenanpaaDoor
