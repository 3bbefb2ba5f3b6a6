/- FnPeerShort walked. -/
import Derived.Test.YtnbpliccenanpaaDoorMade
import Derived.Test.YtnbpliccenanpaaDoorPeer
namespace Go.Proofs.YtnbpliccenanpaaDoor
open Go Go.RowKit
set_option linter.unusedVariables false
set_option linter.unusedSimpArgs false
set_option maxRecDepth 100000

def shortS (s : ByteArray) : ByteArray := if 10 < s.size then ⟨#[60, 112, 101, 101, 114, 46, 73, 68, 32]⟩ ++ (s.extract 0 2 ++ ⟨#[42]⟩ ++ s.extract (s.size - 6) s.size) ++ ⟨#[62]⟩ else ⟨#[60, 112, 101, 101, 114, 46, 73, 68, 32]⟩ ++ s ++ ⟨#[62]⟩

theorem text58_size {l : List Int} (hb : Byt l) (hn : l.length ≤ 100) : (strOfNums (text58 l)).size ≤ 300 := by
  rw [strOfNums_size]
  unfold text58
  have h1 := zs_le l
  have h2 := dig58_len hb (by omega)
  simp only [List.length_append, List.length_replicate, List.length_map]
  omega
set_option maxHeartbeats 1000000 in
theorem sShort_calls {w : World} {A : Option Addr} {n c : Nat} {l : List Int} (h : Rd w A n c l) (hn : n ≤ 100) :
    Calls Tryd.prog 20 #[.slice A n c] w fun e w' => e = .returned (.string (shortS (strOfNums (text58 l)))) ∧ Kp no w w' := by
  have D := Lib.hid (sBase58_calls h hn)
  have hs : (strOfNums (text58 l)).size ≤ 300 := text58_size h.byt (by rw [h.len]; exact hn)
  generalize strOfNums (text58 l) = s at *
  go_enter Tryd.func20, Tryd.ntmps20
  go_wp2_with (fail)
  refine D.out.mono ?_
  rintro e w1 ⟨rfl, k1⟩
  by_cases h10 : 10 < (s.size : Int)
  · go_wp2_with (fail)
    go_quiet (fail)
    go_wp2
    go_ret
    exact ⟨by unfold shortS; rw [if_pos (by omega)]; rfl, k1.drewN _⟩
  · go_wp2
    go_ret
    exact ⟨by unfold shortS; rw [if_neg (by omega)]; rfl, k1⟩
theorem cat_turn (a b c d e : ByteArray) : a ++ b ++ c ++ d ++ e = a ++ (b ++ c ++ d) ++ e := by simp only [ByteArray.append_assoc]
set_option maxHeartbeats 1000000 in
theorem IDShort_calls {w : World} {l : List Int} (hb : Byt l) (hn : l.length ≤ 100) :
    Calls Tryd.prog 38 #[.string (strOfNums l)] w fun e w' => e = .returned (.string (shortS (strOfNums (text58 l)))) ∧ Kp no w w' := by
  have D := Lib.hid (IDStr_calls (w := w) hb hn)
  have hs : (strOfNums (text58 l)).size ≤ 300 := text58_size hb hn
  generalize strOfNums (text58 l) = s at *
  go_enter Tryd.func38, Tryd.ntmps38
  go_wp2_with (fail)
  refine D.out.mono ?_
  rintro e w1 ⟨rfl, k1⟩
  by_cases h10 : (s.size : Int) ≤ 10
  · go_wp2
    go_ret
    exact ⟨by unfold shortS; rw [if_neg (by omega)]; rfl, k1⟩
  · go_wp2_with (fail)
    go_quiet (fail)
    go_wp2
    go_ret
    exact ⟨by unfold shortS; rw [if_pos (by omega), ← cat_turn]; rfl, k1.drewN _⟩
theorem PeerShort_calls {w : World} {A : Option Addr} {n c : Nat} {l : List Int} (h : Rd w A n c l) (hn : n ≤ 100) :
    Calls Tryd.prog 19 #[.slice A n c] w fun e w' => e = .returned (.string (shortS (strOfNums (text58 l)))) ∧ Kp no w w' := by
  have hcv := h.strT Tryd.und_bytes Tryd.und_ID
  have D := Lib.hid (IDShort_calls (w := w) h.byt (by rw [h.len]; exact hn))
  go_enter Tryd.func19, Tryd.ntmps19
  go_wp2_with (first | (go_at_call 38; refine D.out.mono ?_; rintro e w2 ⟨rfl, k2⟩))
  go_ret
  exact ⟨rfl, k2⟩

set_option maxHeartbeats 4000000 in
theorem fnPeerShort_calls {w : World} (H : List Int) (hH : H.length = 32) (hb : Byt H) (k : Int) (hk : 0 ≤ k ∧ k < 256) (hE : MErrs w) :
    Calls Tryd.prog 5 #[.agg (nums .u8 H).toArray, .int .u8 k] w (LawOk w) := by
  have BX := Blk.new w (nums .u8 H).toArray 31
  have kb : Kp no w (w.alloc (.cells (nums .u8 H).toArray 31)) := (Kp.refl _ _).alloc _
  have D1 := Lib.hid (PeerMade_calls (w := w.alloc (.cells (nums .u8 H).toArray 31)) H hH hb k hk.1 hk.2)
  have HH := Lib.hid hH
  have HB := Lib.hid hb
  clear hH hb
  go_enter Tryd.func5, Tryd.ntmps5
  go_wp2_with (first
    | (refine wpList_load_mid rfl 31 (.tmp 2) rfl w.heap.size 0 rfl (nums .u8 H) (.array 32 5) (Blk.range BX) Tryd.underlying31 rfl (by rw [nums_length, HH.out]; exact infoB32) ?_)
    | (go_at_call 16; refine D1.out.mono ?_; rintro e w1 ⟨A1, c1, l, hp, rfl, M1⟩; have HP := Lib.hid hp; clear hp; have k1 := kb.then M1.kp; have hl := HP.out.len; have D2 := Lib.hid (Clone_calls M1.rd (by omega)))
    | (go_at_call 13; refine D2.out.mono ?_; rintro e w2 ⟨A2, c2, rfl, M2⟩; have k2 := k1.then M2.kp; have D3 := Lib.hid (PeerShort_calls M2.rd (by omega)))
    | (go_at_call 19; refine D3.out.mono ?_; rintro e w3 ⟨rfl, hk3⟩; have k3 := k2.then hk3; have D4 := Lib.hid (sShort_calls ((M1.rd.keepN M2.kp).keepN hk3) (by omega)); generalize shortS (strOfNums (text58 l)) = s at *)
    | (go_at_call 20; refine D4.out.mono ?_; rintro e w4 ⟨rfl, hk4⟩; have k4 := k3.then hk4; have D5 := Lib.hid (peersLive_calls (hE.keepN k4)))
    | (go_at_call 11; refine D5.out.mono ?_; rintro e w5 ⟨rfl, hk5⟩; have k5 := k4.then hk5))
  go_ret
  exact ⟨rfl, k5⟩
end Go.Proofs.YtnbpliccenanpaaDoor
