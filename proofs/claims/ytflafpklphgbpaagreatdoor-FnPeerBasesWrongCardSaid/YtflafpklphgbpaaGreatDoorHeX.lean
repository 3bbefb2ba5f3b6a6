/- Base 16, plain: digits of four bits, and what Go's library reads out of their letters. multibase.Decode of texts in base 16. -/
import Derived.Test.YtflafpklphgbpaaGreatDoorBiX
import Derived.Lib.HexFns2
import Derived.Test.YtflafpklphgbpaaGreatDoorMbA
import Derived.Test.YtflafpklphgbpaaGreatDoorShelf
namespace Go.Proofs.YtflafpklphgbpaaGreatDoor
open Go Go.RowKit
set_option linter.unusedVariables false
set_option linter.unusedSimpArgs false
set_option maxRecDepth 100000

theorem dgs4 (c : Int) (l : List Int) (h0 : 0 ≤ c) (h1 : c < 256) : dgs 4 (c :: l) = c / 16 :: c % 16 :: dgs 4 l := by
  unfold dgs
  rw [st]
  simp only [em, dg]
  rw [show (0 + 8) / 4 = 2 from rfl, show (0 + 8) % 4 = 0 from rfl]
  simp [List.range_succ]
  omega
theorem dgs4_nil : dgs 4 [] = [] := rfl
/-- The byte of a letter. -/
def byt8 (x : Int) : UInt8 := UInt8.ofNat x.toNat
theorem hexv102 : ∀ d : Nat, d < 16 → Lib.Hx.v (byt8 (alp102.getD d 0)) = d := by decide +kernel
theorem hexv70 : ∀ d : Nat, d < 16 → Lib.Hx.v (byt8 (alp70.getD d 0)) = d := by decide +kernel
theorem hex_back {dl : List Int} (hv : ∀ d : Nat, d < 16 → Lib.Hx.v (byt8 (dl.getD d 0)) = d) : ∀ l : List Int, Byt l →
    Lib.Hx.decode (((dgs 4 l).map (ltr dl)).map byt8) = (l.map byt8, .ok)
  | [], _ => by rw [dgs4_nil]; exact Lib.Hx.decode_nil
  | c :: l, h => by
    have hc := h c (by simp)
    have ih := hex_back hv l (fun x hx => h x (List.mem_cons_of_mem _ hx))
    have h1 := hv (c / 16).toNat (by omega)
    have h2 := hv (c % 16).toNat (by omega)
    rw [dgs4 c l hc.1 hc.2]
    simp only [List.map_cons]
    rw [Lib.Hx.decode_two]
    have e1 : Lib.Hx.v (byt8 (ltr dl (c / 16))) = (c / 16).toNat := h1
    have e2 : Lib.Hx.v (byt8 (ltr dl (c % 16))) = (c % 16).toNat := h2
    rw [e1, e2, if_neg (by omega), if_neg (by omega), ih]
    have e3 : (c / 16).toNat * 16 + (c % 16).toNat = c.toNat := by omega
    rw [e3]; rfl
end Go.Proofs.YtflafpklphgbpaaGreatDoor
namespace Go.Proofs.YtflafpklphgbpaaGreatDoor
open Go Go.RowKit
set_option linter.unusedVariables false
set_option linter.unusedSimpArgs false
set_option maxRecDepth 100000

theorem byt8_nums {x : List Int} (h : Byt x) : ((x.map byt8).map fun b => Value.int .u8 (b.toNat : Int)) = nums .u8 x := by
  simp only [nums, List.map_map]
  apply List.map_congr_left
  intro y hy
  have := h y hy
  simp only [Function.comp, byt8, UInt8.toNat_ofNat']
  congr 1
  omega
theorem dgs4_len : ∀ l : List Int, Byt l → (dgs 4 l).length = 2 * l.length
  | [], _ => rfl
  | c :: l, h => by
    have hc := h c (by simp)
    rw [dgs4 c l hc.1 hc.2]
    simp only [List.length_cons]
    rw [dgs4_len l (fun x hx => h x (List.mem_cons_of_mem _ hx))]
    omega
theorem hexDec_calls {w : World} {dl x : List Int} (hv : ∀ d : Nat, d < 16 → Lib.Hx.v (byt8 (dl.getD d 0)) = d) (hb : Byt x) (hn : x.length ≤ 100) (hE : IsErr w 8) :
    Calls Tryz.prog 45 #[.string (strOfNums ((dgs 4 x).map (ltr dl)))] w (DecP w x) := by
  obtain ⟨et, ev, hev⟩ := hE
  have hd : (strOfNums ((dgs 4 x).map (ltr dl))).data.toList = ((dgs 4 x).map (ltr dl)).map byt8 := strOfNums_data _
  have hk := hex_back hv x hb
  have hs : (strOfNums ((dgs 4 x).map (ltr dl))).size ≤ 1000 := by rw [strOfNums_size, List.length_map, dgs4_len x hb]; omega
  refine (Tryz.hex_DecodeString_owns _ w _ hev (by omega)).mono ?_
  rintro e w' ⟨v, rfl, hrow, hbel⟩
  rw [hd, hk] at hrow ⊢
  simp only at hrow ⊢
  rw [byt8_nums hb, List.length_map] at hrow
  have O : Own w' 5 w.heap.size v x := ⟨hrow, hb⟩
  obtain ⟨A, c, rfl, hR, _⟩ := O.rd
  exact ⟨A, c, rfl, hR, Kp.of_below hbel⟩
theorem lo102 : ∀ d : Nat, d < 16 → 0 ≤ alp102.getD d 0 ∧ alp102.getD d 0 < 128 := by decide +kernel
theorem txb102 {x : List Int} (hb : Byt x) (h1 : 1 ≤ x.length) (hn : x.length ≤ 100) : Txb 102 ((dgs 4 x).map (ltr alp102)) := by
  have hl := dgs4_len x hb
  refine ⟨fun y hy => ?_, by omega, by omega, by simp; omega, by simp; omega⟩
  rcases List.mem_cons.1 hy with rfl | hy
  · omega
  · exact ltr_byt (n := 16) lo102 (fun y hy => by have := dgs_rng 4 x y hy; omega) y hy
set_option maxHeartbeats 4000000 in
theorem mb102_calls {x : List Int} (hb : Byt x) (h1 : 1 ≤ x.length) (hn : x.length ≤ 100) (w : World) (hE : IsErr w 8) :
    Calls Tryz.prog 36 #[.string (strOfNums (102 :: (dgs 4 x).map (ltr alp102)))] w (MbP w 102 x) := by
  have hT := txb102 hb h1 hn
  have DR := Lib.hid (rune_calls (w := w) hT.b (by have := hT.m; omega) (by omega))
  have ht := str_tail (x := 102) (r := (dgs 4 x).map (ltr alp102))
  have hs := strOfNums_size (102 :: (dgs 4 x).map (ltr alp102))
  have hm := hT.m
  simp only [List.length_cons, List.length_map] at hs hm
  have DS := Lib.hid (hexDec_calls (w := w) hexv102 hb hn hE)
  generalize strOfNums (102 :: (dgs 4 x).map (ltr alp102)) = S at *
  rw [← ht] at DS
  have hs1 : (1 : Int) ≤ (S.size : Int) := by omega
  have hs2 : 1 ≤ S.size := by omega
  have hs3 : ((S.size : Int) == 0) = false := beq_eq_false_iff_ne.2 (by omega)
  have hs4 : S.size ≤ 2000 := by omega
  clear ht hs hT hm hn h1 hb hE
  go_enter Tryz.func36, Tryz.ntmps36
  go_wp2_with (first | (go_at_call 43; refine DR.out.mono ?_; rintro e w1 ⟨rfl, rfl⟩))
  refine DS.out.mono ?_
  rintro e w3 ⟨A, c, rfl, R3, k3⟩
  have HF := Lib.hid (show MbP w1 102 x (.returned (.tuple #[.int .i64 102, .slice A x.length c, Value.nilIface])) w3 from ⟨A, c, rfl, R3, k3⟩)
  generalize x.length = nd at *
  clear R3 k3
  go_wp2
  go_ret3
  exact HF.out
theorem lo70 : ∀ d : Nat, d < 16 → 0 ≤ alp70.getD d 0 ∧ alp70.getD d 0 < 128 := by decide +kernel
theorem txb70 {x : List Int} (hb : Byt x) (h1 : 1 ≤ x.length) (hn : x.length ≤ 100) : Txb 70 ((dgs 4 x).map (ltr alp70)) := by
  have hl := dgs4_len x hb
  refine ⟨fun y hy => ?_, by omega, by omega, by simp; omega, by simp; omega⟩
  rcases List.mem_cons.1 hy with rfl | hy
  · omega
  · exact ltr_byt (n := 16) lo70 (fun y hy => by have := dgs_rng 4 x y hy; omega) y hy
set_option maxHeartbeats 4000000 in
theorem mb70_calls {x : List Int} (hb : Byt x) (h1 : 1 ≤ x.length) (hn : x.length ≤ 100) (w : World) (hE : IsErr w 8) :
    Calls Tryz.prog 36 #[.string (strOfNums (70 :: (dgs 4 x).map (ltr alp70)))] w (MbP w 70 x) := by
  have hT := txb70 hb h1 hn
  have DR := Lib.hid (rune_calls (w := w) hT.b (by have := hT.m; omega) (by omega))
  have ht := str_tail (x := 70) (r := (dgs 4 x).map (ltr alp70))
  have hs := strOfNums_size (70 :: (dgs 4 x).map (ltr alp70))
  have hm := hT.m
  simp only [List.length_cons, List.length_map] at hs hm
  have DS := Lib.hid (hexDec_calls (w := w) hexv70 hb hn hE)
  generalize strOfNums (70 :: (dgs 4 x).map (ltr alp70)) = S at *
  rw [← ht] at DS
  have hs1 : (1 : Int) ≤ (S.size : Int) := by omega
  have hs2 : 1 ≤ S.size := by omega
  have hs3 : ((S.size : Int) == 0) = false := beq_eq_false_iff_ne.2 (by omega)
  have hs4 : S.size ≤ 2000 := by omega
  clear ht hs hT hm hn h1 hb hE
  go_enter Tryz.func36, Tryz.ntmps36
  go_wp2_with (first | (go_at_call 43; refine DR.out.mono ?_; rintro e w1 ⟨rfl, rfl⟩))
  refine DS.out.mono ?_
  rintro e w3 ⟨A, c, rfl, R3, k3⟩
  have HF := Lib.hid (show MbP w1 70 x (.returned (.tuple #[.int .i64 70, .slice A x.length c, Value.nilIface])) w3 from ⟨A, c, rfl, R3, k3⟩)
  generalize x.length = nd at *
  clear R3 k3
  go_wp2
  go_ret3
  exact HF.out
end Go.Proofs.YtflafpklphgbpaaGreatDoor
