/- FnPeerCutText walked. -/
import Derived.Test.YtjbaobnhfalceaaGreatDoorMade
import Derived.Test.YtjbaobnhfalceaaGreatDoorPeer
import Derived.Test.YtjbaobnhfalceaaGreatDoorPDec
namespace Go.Proofs.YtjbaobnhfalceaaGreatDoor
open Go Go.RowKit
set_option linter.unusedVariables false
set_option linter.unusedSimpArgs false
set_option maxRecDepth 100000

theorem PM.beg {k : Int} {l : List Int} (h : PM (k % 3) l) (h0 : 0 ≤ k) : Beg (text58 l) := by
  rcases h with ⟨_, S, hS, hb, rfl⟩ | ⟨_, S, hS, hb, rfl⟩ | ⟨h3, S, hS, hb, rfl⟩
  · obtain ⟨T, hT⟩ := text_sha hS hb
    exact .inl ⟨T, hT⟩
  · obtain ⟨T, hT⟩ := text_inl (S.length : Int) S
    exact .inr ⟨T, hT⟩
  · omega
theorem Beg.take {T : List Int} (h : Beg T) {j : Nat} (hj : 2 ≤ j) : Beg (T.take j) := by
  obtain ⟨j, rfl⟩ : ∃ i, j = i + 2 := ⟨j - 2, by omega⟩
  rcases h with ⟨r, rfl⟩ | ⟨r, rfl⟩
  · exact .inl ⟨r.take j, by simp⟩
  · exact .inr ⟨r.take (j + 1), by simp⟩
theorem tdig_len {l : List Int} (hb : Byt l) (hn : l.length ≤ 100) : (tdig l).length ≤ 300 := by
  have h1 := zs_le l
  have h2 := dig58_len hb (by omega)
  unfold tdig
  simp only [List.length_append, List.length_replicate]
  omega
theorem decode_cut {w : World} {l : List Int} (hb : Byt l) (hn : l.length ≤ 100) (hg : Beg (text58 l)) {j : Nat} (h2 : 2 ≤ j) (hj : j < (text58 l).length) (hQ : QErrs w) :
    Calls Tryz.prog 8 #[.string ((strOfNums (text58 l)).extract 0 j)] w (BytOr w (fun x => x ≠ l)) := by
  have ht := text58_tdig l
  have hl := tdig_len hb hn
  have htl : (text58 l).length = (tdig l).length := by rw [ht]; simp
  rw [str_take _ j (by omega)]
  have e : (text58 l).take j = ((tdig l).take j).map sign := by rw [ht, List.map_take]
  refine pdecode_of (peerDec58 ((text58_byt l).take j) (hg.take h2) (by rw [List.length_take]; omega) _ (fun W k => ?_))
  rw [e]
  refine (from58_yes ((tdig_ok hb).take j) (by rw [List.length_take]; omega) (by rw [List.length_take]; omega) (hQ.keepN k)).mono ?_
  rintro e w' ⟨hk, ⟨A, n, c, he, hR⟩ | h⟩
  · exact ⟨hk, .inl ⟨A, n, c, _, cut_other hb (by omega), by have := decB_len 58 ((tdig l).take j); rw [List.length_take] at this; omega, he, hR⟩⟩
  · exact ⟨hk, .inr h⟩

set_option maxHeartbeats 4000000 in
theorem fnPeerCutText_calls {w : World} (H : List Int) (hH : H.length = 32) (hb : Byt H) (k c : Int) (hk : 0 ≤ k ∧ k < 256) (hc : 0 ≤ c ∧ c < 256) (hQ : QErrs w) :
    Calls Tryz.prog 4 #[.agg (nums .u8 H).toArray, .int .u8 k, .int .u8 c] w (LawOk w) := by
  have BX := Blk.new w (nums .u8 H).toArray 22
  have kb : Kp no w (w.alloc (.cells (nums .u8 H).toArray 22)) := (Kp.refl _ _).alloc _
  have D1 := Lib.hid (PeerMade_calls (w := w.alloc (.cells (nums .u8 H).toArray 22)) H hH hb (k % 3) (by omega) (by omega))
  have HH := Lib.hid hH
  clear hH hb
  go_enter Tryz.func4, Tryz.ntmps4
  go_wp2_with (refine wpList_load_mid rfl 22 (.tmp 3) rfl w.heap.size 0 rfl (nums .u8 H) (.array 32 5) (Blk.range BX) Tryz.underlying22 rfl (by rw [nums_length, HH.out]; exact infoB32) ?_)
  refine D1.out.mono ?_
  rintro e w1 ⟨A1, c1, l, hp, rfl, M1⟩
  have HP := Lib.hid hp
  have k1 := kb.then M1.kp
  have hl := HP.out.len
  have D2 := Lib.hid (Clone_calls M1.rd (by omega))
  clear hp
  go_wp2_with (fail)
  refine D2.out.mono ?_
  rintro e w2 ⟨A2, c2, rfl, M2⟩
  have k2 := k1.then M2.kp
  have D3 := Lib.hid (PeerText_calls M2.rd (by omega))
  go_wp2_with (fail)
  refine D3.out.mono ?_
  rintro e w3 ⟨rfl, hk3⟩
  have k3 := k2.then hk3
  have R3 := (M1.rd.keepN M2.kp).keepN hk3
  have HS := Lib.hid (strOfNums_size (text58 l))
  have HG := Lib.hid (HP.out.beg hk.1)
  have hb := HP.out.byt
  have D4 := Lib.hid (fun j (h2 : 2 ≤ j) (hj : j < (text58 l).length) => decode_cut (w := w3) hb (by omega) HG.out h2 hj (hQ.keepN k3))
  have hsm : (strOfNums (text58 l)).size ≤ 300 := by
    rw [HS.out, text58_tdig, List.length_map]; exact tdig_len hb (by omega)
  generalize strOfNums (text58 l) = s at *
  by_cases h4 : (s.size : Int) < 4
  · have DL := Lib.hid (peersLive_calls (hQ.keepN k3).m)
    go_wp2_with (fail)
    refine DL.out.mono ?_
    rintro e w7 ⟨rfl, hk7⟩
    go_wp2
    go_ret
    exact ⟨rfl, k3.then hk7⟩
  · have h0 : 0 ≤ c % ((s.size : Int) - 3) := Int.emod_nonneg _ (by omega)
    have h1 : c % ((s.size : Int) - 3) < (s.size : Int) - 3 := Int.emod_lt_of_pos _ (by omega)
    obtain ⟨j, hj⟩ : ∃ j : Nat, (s.size : Int) - 1 - c % ((s.size : Int) - 3) = (j : Int) := ⟨((s.size : Int) - 1 - c % ((s.size : Int) - 3)).toNat, by omega⟩
    have hj2 : 3 ≤ j := by omega
    have hj3 : j < s.size := by omega
    have D5 := Lib.hid (D4.out j (by omega) (by have := HS.out; omega))
    have HB := Lib.hid hb
    clear D4 h0 h1 hb
    go_wp2_with (fail)
    refine D5.out.mono ?_
    rintro e w4 ⟨hk4, hy⟩
    have k4 := k3.then hk4
    have DL := Lib.hid (peersLive_calls (hQ.keepN k4).m)
    rcases hy with ⟨A, n, cc, x, hx, rfl, RX⟩ | rfl
    · have E := Lib.hid (Equal_not RX (R3.keepN hk4) hx)
      clear hx RX
      go_wp2_with (fail)
      refine E.out.mono ?_
      rintro e w5 ⟨rfl, rfl⟩
      go_wp2_with (fail)
      refine DL.out.mono ?_
      rintro e w7 ⟨rfl, hk7⟩
      go_wp2
      go_ret
      exact ⟨rfl, k4.then hk7⟩
    · go_wp2_with (fail)
      refine DL.out.mono ?_
      rintro e w7 ⟨rfl, hk7⟩
      go_wp2
      go_ret
      exact ⟨rfl, k4.then hk7⟩
end Go.Proofs.YtjbaobnhfalceaaGreatDoor
