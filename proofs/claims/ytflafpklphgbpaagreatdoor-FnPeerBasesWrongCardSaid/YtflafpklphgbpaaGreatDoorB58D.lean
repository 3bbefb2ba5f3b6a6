/- base58.NewAlphabet, BTCAlphabet: the signs, and the table of digits. -/
import Derived.Test.YtflafpklphgbpaaGreatDoorB58A
import Derived.Test.YtflafpklphgbpaaGreatDoorB58E
namespace Go.Proofs.YtflafpklphgbpaaGreatDoor
open Go Go.RowKit
set_option linter.unusedVariables false
set_option linter.unusedSimpArgs false
set_option maxRecDepth 100000

def tneg (i : Nat) : List Int := List.replicate i (-1) ++ List.replicate (128 - i) 0
def tab58 (i : Nat) : List Int := (List.range i).foldl (fun t j => t.set (alpha.getD j 0).toNat (j : Int)) (List.replicate 128 (-1))
theorem tneg_all : tneg 128 = tab58 0 := by decide
theorem tneg_set {i : Nat} (h : i < 128) : (tneg i).set i (-1) = tneg (i + 1) := by
  unfold tneg
  rw [List.set_append_right _ _ (by simp), List.length_replicate, Nat.sub_self, show 128 - i = (128 - (i + 1)) + 1 from by omega, List.replicate_succ, List.set_cons_zero, List.replicate_succ', List.append_assoc]
  rfl
theorem tab58_succ (i : Nat) : tab58 (i + 1) = (tab58 i).set (alpha.getD i 0).toNat (i : Int) := by
  unfold tab58; rw [List.range_succ, List.foldl_append]; rfl
structure AlphD (C : Array Value) (T : List Int) : Prop where
  a : Alph C
  len : T.length = 128
  dec : ∀ k : Nat, k < 128 → C[k]? = some (.int .i8 (T.getD k 0))
theorem AlphD.set {C : Array Value} {T : List Int} (h : AlphD C T) (j : Nat) (hj : j < 128) (v : Int) : AlphD (C.setIfInBounds j (.int .i8 v)) (T.set j v) :=
  ⟨h.a.set j hj _, by simpa using h.len, fun k hk => by
    rw [Array.getElem?_setIfInBounds, List.getD_eq_getElem?_getD, List.getElem?_set]
    by_cases e : j = k
    · subst e
      rw [if_pos rfl, if_pos rfl, if_pos (by rw [h.a.size]; omega), if_pos (by rw [h.len]; omega)]; rfl
    · rw [if_neg e, if_neg e, ← List.getD_eq_getElem?_getD]; exact h.dec k hk⟩
theorem AlphD.first {Z : Array Value} (hz : Z.size = 186) (h2 : Z.toList.take 128 = List.replicate 128 (.int .i8 0)) : AlphD ((Z.toList.take 128 ++ Lib.byteCells (⟨#[49, 50, 51, 52, 53, 54, 55, 56, 57, 65, 66, 67, 68, 69, 70, 71, 72, 74, 75, 76, 77, 78, 80, 81, 82, 83, 84, 85, 86, 87, 88, 89, 90, 97, 98, 99, 100, 101, 102, 103, 104, 105, 106, 107, 109, 110, 111, 112, 113, 114, 115, 116, 117, 118, 119, 120, 121, 122]⟩ : ByteArray).data.toList ++ Z.toList.drop (128 + 58)).toArray) (tneg 0) :=
  ⟨Alph.first hz, by decide, fun k hk => by
    rw [List.getElem?_toArray, List.append_assoc, List.getElem?_append_left (by rw [h2]; simpa using hk), h2]
    rw [show tneg 0 = List.replicate 128 0 from by decide]
    rw [List.getD_eq_getElem?_getD, List.getElem?_replicate, List.getElem?_replicate, if_pos hk, if_pos hk]; rfl⟩
theorem tab58_len : (tab58 58).length = 128 := by decide +kernel
/-- Each sign has its digit. -/
theorem tab58_sign : ∀ d : Nat, d < 58 → (tab58 58).getD (alpha.getD d 0).toNat 0 = d := by decide +kernel
theorem tab58_lo : ∀ k : Nat, k < 128 → -1 ≤ (tab58 58).getD k 0 ∧ (tab58 58).getD k 0 < 58 := by decide +kernel
/-- These six have none. -/
def bads : List Int := [48, 79, 73, 108, 43, 47]
theorem tab58_bad : ∀ j : Nat, j < 6 → (tab58 58).getD (bads.getD j 0).toNat 0 = -1 := by decide +kernel

set_option maxHeartbeats 4000000 in
theorem NewAlphabetD_calls {w : World} :
    Calls Tryz.prog 75 #[.string ⟨#[49, 50, 51, 52, 53, 54, 55, 56, 57, 65, 66, 67, 68, 69, 70, 71, 72, 74, 75, 76, 77, 78, 80, 81, 82, 83, 84, 85, 86, 87, 88, 89, 90, 97, 98, 99, 100, 101, 102, 103, 104, 105, 106, 107, 109, 110, 111, 112, 113, 114, 115, 116, 117, 118, 119, 120, 121, 122]⟩] w
      fun e w' => ∃ g, e = .returned (.pointer (some ⟨g, 0, none⟩)) ∧ w.heap.size ≤ g ∧ g < w'.heap.size ∧ (∀ i : Nat, i < 58 → w'.cell? ⟨g, 128 + i, none⟩ = some (.int .u8 (alpha.getD i 0))) ∧ (∀ i : Nat, i < 128 → w'.cell? ⟨g, i, none⟩ = some (.int .i8 ((tab58 58).getD i 0))) ∧ Kp no w w' := by
  go_enter Tryz.func75, Tryz.ntmps75
  go_upto_region 4 with (fail)
  have hz : Tryz.zeroCells131.size = 186 := by kernel_rfl
  have hz2 : Tryz.zeroCells131.toList.take 128 = List.replicate 128 (.int .i8 0) := by kernel_rfl
  have HA := Lib.hid (AlphD.first hz hz2)
  clear hz2
  have hcp := Lib.run_copy_row_string (P := Tryz.prog) (w.alloc (.cells Tryz.zeroCells131 131)) 23 9 3 5 w.heap.size 128 58 58 ⟨#[49, 50, 51, 52, 53, 54, 55, 56, 57, 65, 66, 67, 68, 69, 70, 71, 72, 74, 75, 76, 77, 78, 80, 81, 82, 83, 84, 85, 86, 87, 88, 89, 90, 97, 98, 99, 100, 101, 102, 103, 104, 105, 106, 107, 109, 110, 111, 112, 113, 114, 115, 116, 117, 118, 119, 120, 121, 122]⟩ Tryz.zeroCells131 131 Tryz.und_bytes infoByte1 (Blk.new w _ _) (by decide) (by rw [hz]; decide)
  rw [World.setRow_alloc_new] at hcp
  have hb0 := Blk.new w ((Tryz.zeroCells131.toList.take 128 ++ Lib.byteCells (⟨#[49, 50, 51, 52, 53, 54, 55, 56, 57, 65, 66, 67, 68, 69, 70, 71, 72, 74, 75, 76, 77, 78, 80, 81, 82, 83, 84, 85, 86, 87, 88, 89, 90, 97, 98, 99, 100, 101, 102, 103, 104, 105, 106, 107, 109, 110, 111, 112, 113, 114, 115, 116, 117, 118, 119, 120, 121, 122]⟩ : ByteArray).data.toList ++ Tryz.zeroCells131.toList.drop (128 + 58)).toArray) 131
  have k0 : Kp no w (w.alloc (.cells ((Tryz.zeroCells131.toList.take 128 ++ Lib.byteCells (⟨#[49, 50, 51, 52, 53, 54, 55, 56, 57, 65, 66, 67, 68, 69, 70, 71, 72, 74, 75, 76, 77, 78, 80, 81, 82, 83, 84, 85, 86, 87, 88, 89, 90, 97, 98, 99, 100, 101, 102, 103, 104, 105, 106, 107, 109, 110, 111, 112, 113, 114, 115, 116, 117, 118, 119, 120, 121, 122]⟩ : ByteArray).data.toList ++ Tryz.zeroCells131.toList.drop (128 + 58)).toArray) 131)) := (Kp.refl _ _).alloc _
  rw [show ((⟨#[49, 50, 51, 52, 53, 54, 55, 56, 57, 65, 66, 67, 68, 69, 70, 71, 72, 74, 75, 76, 77, 78, 80, 81, 82, 83, 84, 85, 86, 87, 88, 89, 90, 97, 98, 99, 100, 101, 102, 103, 104, 105, 106, 107, 109, 110, 111, 112, 113, 114, 115, 116, 117, 118, 119, 120, 121, 122]⟩ : ByteArray).size) = 58 from rfl] at hcp
  generalize hC : (Tryz.zeroCells131.toList.take 128 ++ Lib.byteCells (⟨#[49, 50, 51, 52, 53, 54, 55, 56, 57, 65, 66, 67, 68, 69, 70, 71, 72, 74, 75, 76, 77, 78, 80, 81, 82, 83, 84, 85, 86, 87, 88, 89, 90, 97, 98, 99, 100, 101, 102, 103, 104, 105, 106, 107, 109, 110, 111, 112, 113, 114, 115, 116, 117, 118, 119, 120, 121, 122]⟩ : ByteArray).data.toList ++ Tryz.zeroCells131.toList.drop (128 + 58)).toArray = C at *
  clear hC hz
  go_upto_block 0 with (fail)
  clear hcp
  go_cut [] from 18 (fun wx => ∃ C, Blk wx w.heap.size C 131 ∧ Hid (AlphD C (tab58 0)) ∧ Kp no w wx)
  case first =>
    go_wp2
    go_loopw [18] (fun iv wr => ∃ (i : Nat) (C : Array Value), i ≤ 128 ∧ iv = .int .i64 i ∧ Blk wr w.heap.size C 131 ∧ Hid (AlphD C (tneg i)) ∧ Kp no w wr) (fun iv _ => 128 - (intOf iv).toNat)
    case atStart => exact ⟨0, C, Nat.zero_le _, rfl, hb0, HA, k0⟩
    case round =>
      obtain ⟨i, C, hi, rfl, hb, HA, k⟩ := hrel
      by_cases hlt : i < 128
      · have hsz := HA.out.a.size
        obtain ⟨v, hv⟩ : ∃ v, C[i]? = some v := ⟨C[i], Array.getElem?_eq_getElem (by omega)⟩
        have c0 := hb.cell i
        rw [hv] at c0
        have f0 := hb.free i
        have hi2 : (i : Int) < 128 := by omega
        clear hsz hv
        go_wp2
        go_roundw
        case rel => exact ⟨i + 1, _, by omega, by go_num, hb.set i _, Lib.hid (by rw [← tneg_set hlt]; exact HA.out.set i hlt (-1)), k.setCell (p := ⟨w.heap.size, i, none⟩) (fun h => by simp at h) _⟩
        case measure => simp [intOf]; omega
      · obtain rfl : i = 128 := by omega
        go_wp2
        go_meet
        case rel => exact ⟨C, hb, Lib.hid (tneg_all ▸ HA.out), k⟩
  case rest =>
    obtain ⟨C, hb, HA, k⟩ := hcut
    have hrg : wc.rangeAt w.heap.size 128 (alpha.map (fun x => Value.int .u8 x)) := fun j v hv => by
      have hj : j < 58 := by
        rcases Nat.lt_or_ge j 58 with h | h
        · exact h
        · rw [List.getElem?_eq_none (by simpa [alpha] using h)] at hv; cases hv
      rw [hb.cell (128 + j), HA.out.a.enc j hj, ← hv]
      have hj' : j < alpha.length := hj
      simp [List.getD_eq_getElem?_getD, List.getElem?_eq_getElem hj']
    have hix : ∀ (i : Nat), i < 58 → ∀ W : World, (Instr.index 129 (.agg (alpha.map (fun x => Value.int .u8 x)).toArray) (.int .i64 i)).run Tryz.prog W = .ok (.int .u8 (alpha.getD i 0)) W := fun i hi W => by
      have hi' : i < alpha.length := hi
      exact run_index_in W _ _ 58 _ _ i Tryz.underlying129 (by omega) (by omega) infoByte1 Tryz.und_byte _ (by simp [List.getD_eq_getElem?_getD, List.getElem?_eq_getElem hi'])
    have HRG := Lib.hid hrg
    have HIX := Lib.hid hix
    clear hrg hix
    go_wp2_with (refine wpList_load_mid rfl 129 (.tmp 29) rfl w.heap.size 128 rfl (alpha.map (fun x => Value.int .u8 x)) (.array 58 5) HRG.out Tryz.underlying129 rfl infoArr ?_; generalize (alpha.map (fun x => Value.int .u8 x)).toArray = AR at *)
    go_loopw [31] (fun iv wr => ∃ (i : Nat) (C : Array Value), i ≤ 58 ∧ iv = .int .i64 i ∧ Blk wr w.heap.size C 131 ∧ Hid (AlphD C (tab58 i)) ∧ Kp no w wr) (fun iv _ => 58 - (intOf iv).toNat)
    case atStart => exact ⟨0, C, Nat.zero_le _, rfl, hb, HA, k⟩
    case round =>
      obtain ⟨i, C, hi, rfl, hb, HA, k⟩ := hrel
      by_cases hlt : i < 58
      · have hai := HIX.out i hlt
        have hsg := alpha_rng i hlt
        obtain ⟨b, hbb⟩ : ∃ b : Nat, (b : Int) = alpha.getD i 0 := ⟨(alpha.getD i 0).toNat, by omega⟩
        rw [← hbb] at hai hsg
        have hb128 : b < 128 := by omega
        have hsz := HA.out.a.size
        obtain ⟨v, hv⟩ : ∃ v, C[b]? = some v := ⟨C[b], Array.getElem?_eq_getElem (by omega)⟩
        have c0 := hb.cell b
        rw [hv] at c0
        have f0 := hb.free b
        have HBB := Lib.hid hbb
        clear hsz hv hbb
        go_wp2
        go_roundw
        case rel => exact ⟨i + 1, _, by omega, by go_num, hb.set b _, Lib.hid (by rw [tab58_succ, ← HBB.out, Int.toNat_natCast]; exact HA.out.set b hb128 i), k.setCell (p := ⟨w.heap.size, b, none⟩) (fun h => by simp at h) _⟩
        case measure => simp [intOf]; omega
      · obtain rfl : i = 58 := by omega
        have HE := Lib.hid (fun j (hj : j < 58) => (hb.cell (128 + j)).trans (HA.out.a.enc j hj))
        have HE2 := Lib.hid (fun j (hj : j < 128) => (hb.cell j).trans (HA.out.dec j hj))
        have hlt2 := hb.lt
        go_wp2
        go_ret
        exact ⟨w.heap.size, rfl, Nat.le_refl _, hlt2, HE.out, HE2.out, k⟩

theorem BTCD_calls {w : World} :
    Calls Tryz.prog 53 #[] w
      fun e w' => ∃ g, e = .returned (.pointer (some ⟨g, 0, none⟩)) ∧ w.heap.size ≤ g ∧ g < w'.heap.size ∧ (∀ i : Nat, i < 58 → w'.cell? ⟨g, 128 + i, none⟩ = some (.int .u8 (alpha.getD i 0))) ∧ (∀ i : Nat, i < 128 → w'.cell? ⟨g, i, none⟩ = some (.int .i8 ((tab58 58).getD i 0))) ∧ Kp no w w' := by
  have D := Lib.hid (NewAlphabetD_calls (w := w))
  go_enter Tryz.func53, Tryz.ntmps53
  go_wp2_with (fail)
  refine D.out.mono ?_
  rintro e w2 ⟨g, rfl, h1, h2, h3, h5, h4⟩
  have H3 := Lib.hid h3
  have H5 := Lib.hid h5
  clear h3 h5
  go_wp2
  go_ret
  exact ⟨g, rfl, h1, h2, H3.out, H5.out, h4⟩
end Go.Proofs.YtflafpklphgbpaaGreatDoor
