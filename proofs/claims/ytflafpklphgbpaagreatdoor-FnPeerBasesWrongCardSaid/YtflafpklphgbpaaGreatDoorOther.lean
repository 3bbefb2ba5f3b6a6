/- FnPeerOtherCid walked. -/
import Derived.Test.YtflafpklphgbpaaGreatDoorCiX
import Derived.Test.YtflafpklphgbpaaGreatDoorMade
import Derived.Test.YtflafpklphgbpaaGreatDoorPeer
import Derived.Deep.Cut
import Derived.Deep.CutRange
namespace Go.Proofs.YtflafpklphgbpaaGreatDoor
open Go Go.RowKit
set_option linter.unusedVariables false
set_option linter.unusedSimpArgs false
set_option maxRecDepth 100000

def NoPeer (w : World) (e : Ending) (w' : World) : Prop := e = .returned (.tuple #[.slice none 0 0, .bool false]) ∧ Kp no w w'
/-- Bytes that are torn out of a CID's head are no CID. -/
theorem cidFrom_torn {l : List Int} (hl : l = [] ∨ l = [1] ∨ ∃ p, l = 1 :: 114 :: p ∧ MH p = none) {w : World} (hE : MErrs w) (hn : l.length ≤ 1000000) :
    ∀ W A' c', Kp no w W → Rd W A' l.length c' l → Calls Tryz.prog 58 #[.slice A' l.length c'] W (CidBad W) := by
  intro W A' c' k h
  rcases hl with rfl | rfl | ⟨p, rfl, hm⟩
  · exact cidFrom_bad1 h (hE.keepN k) (by simp) FU_nil
  · exact cidFrom_bad2 h (hE.keepN k)
  · exact cidFrom_bad3 h (hE.keepN k) (by omega) (by omega) (by omega) hm

/-! ### The IDs that the reference makes are multihashes, and no beginnings of such -/
theorem FU_of_small {x : Int} (r : List Int) (h0 : 0 ≤ x) (h1 : x < 128) : FU (x :: r) = some (x, 1) := FU_small r h0 h1
theorem MH_two {a b : Int} {r : List Int} (a0 : 0 ≤ a) (a1 : a < 128) (b0 : 0 ≤ b) (b1 : b < 128) : MH (a :: b :: r) = if b ≤ (r.length : Int) then some (a, 2 + b) else none := by
  rw [MH_if (FU_small (b :: r) a0 a1) (h2 := FU_small r b0 b1)]
  simp only [List.length_cons]
  by_cases h : b ≤ (r.length : Int)
  · rw [if_pos ⟨by omega, by omega⟩, if_pos h]; congr 2
  · rw [if_neg (by omega), if_neg h]
theorem FU_big (r : List Int) : FU (178 :: 144 :: 64 :: r) = some (1050674, 3) := by
  have hr : rv 10 (178 :: 144 :: 64 :: r) = some (1050674, 3) := by simp [rv]
  have hv : vint 1050674 = [178, 144, 64] := by simp [vint, vi]
  unfold FU
  rw [hr]
  simp [hv]
theorem PM.isMH {k : Int} {l : List Int} (h : PM k l) : IsMH l := by
  rcases h with ⟨_, S, hS, hb, rfl⟩ | ⟨_, S, hS, hb, rfl⟩ | ⟨_, S, hS, hb, rfl⟩
  · exact ⟨18, by rw [MH_two (by omega) (by omega) (by omega) (by omega), if_pos (by omega)]; simp [hS]⟩
  · exact ⟨0, by rw [MH_two (by omega) (by omega) (by omega) (by omega), if_pos (by omega)]; simp; omega⟩
  · refine ⟨1050674, ?_⟩
    rw [MH_if (FU_big _) (a := 16) (m := 1) (h2 := by exact FU_small _ (by omega) (by omega)), if_pos ⟨by omega, by simp [hS]⟩]
    simp [hS]
theorem FU_one178 : FU [178] = none := by simp [FU, rv]
theorem FU_two178 : FU [178, 144] = none := by simp [FU, rv]
theorem PM.torn {k : Int} {l : List Int} (h : PM k l) (j : Nat) (hj : j < l.length) : MH (l.take j) = none := by
  have hbt := h.byt
  rcases h with ⟨_, S, hS, hb, rfl⟩ | ⟨_, S, hS, hb, rfl⟩ | ⟨_, S, hS, hb, rfl⟩
  · match j, hj with
    | 0, _ => exact MH_none1 FU_nil
    | 1, _ => exact MH_none2 (FU_small [] (by omega) (by omega)) FU_nil
    | j + 2, hj =>
      simp only [List.length_cons] at hj
      show MH (18 :: 32 :: S.take j) = none
      rw [MH_two (by omega) (by omega) (by omega) (by omega), if_neg (by simp; omega)]
  · match j, hj with
    | 0, _ => exact MH_none1 FU_nil
    | 1, _ => exact MH_none2 (FU_small [] (by omega) (by omega)) FU_nil
    | j + 2, hj =>
      simp only [List.length_cons] at hj
      show MH (0 :: (S.length : Int) :: S.take j) = none
      rw [MH_two (by omega) (by omega) (by omega) (by omega), if_neg (by simp; omega)]
  · match j, hj with
    | 0, _ => exact MH_none1 FU_nil
    | 1, _ => exact MH_none1 FU_one178
    | 2, _ => exact MH_none1 FU_two178
    | 3, _ => exact MH_none2 (FU_big []) FU_nil
    | j + 4, hj =>
      simp only [List.length_cons] at hj
      show MH (178 :: 144 :: 64 :: 16 :: S.take j) = none
      rw [MH_if (FU_big _) (a := 16) (m := 1) (h2 := by exact FU_small _ (by omega) (by omega)), if_neg (by simp; omega)]
theorem PM.tornCid {k : Int} {l : List Int} (h : PM k l) (j : Nat) (hj : j < l.length + 2) : (1 :: 114 :: l).take j = [] ∨ (1 :: 114 :: l).take j = [1] ∨ ∃ p, (1 :: 114 :: l).take j = 1 :: 114 :: p ∧ MH p = none := by
  match j, hj with
  | 0, _ => exact .inl rfl
  | 1, _ => exact .inr (.inl rfl)
  | j + 2, hj => exact .inr (.inr ⟨l.take j, rfl, h.torn j (by omega)⟩)

theorem sCid_calls {w : World} {A : Option Addr} {n c : Nat} {l : List Int} (h : Rd w A n c l) (hn : n ≤ 1000000) :
    Calls Tryz.prog 5 #[.slice A n c] w (MadeN w (1 :: 114 :: l)) := by
  have hb2 : Byt [1, 114] := fun x hx => by simp at hx; omega
  have HO := Own.lit w 5 w.heap.size [1, 114] (Nat.le_refl _) hb2 (by simp)
  have ka : Kp no w (w.alloc (.cells (nums .u8 [1, 114]).toArray 5)) := (Kp.refl _ _).alloc _
  have HR := h.keepN ka
  go_enter Tryz.func5, Tryz.ntmps5
  go_wp2_with (first | (at_builtin; refine own_append w.heap.size rfl (.tmp 3) (.tmp 4) 23 5 rfl Tryz.und_bytes Tryz.info_byte (.slice (some ⟨w.heap.size, 0, none⟩) 2 2) [1, 114] l A n c rfl rfl HO HR (by simp) (by simp; omega) ?_; intro v1 w1 O1 hk1 _ hnn))
  go_ret
  exact MadeN.of O1 (ka.own HO (Nat.le_refl _) hk1) (hnn (by simp))

end Go.Proofs.YtflafpklphgbpaaGreatDoor
