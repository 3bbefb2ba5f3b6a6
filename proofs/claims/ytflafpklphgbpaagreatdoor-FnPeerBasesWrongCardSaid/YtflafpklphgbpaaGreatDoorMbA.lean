/- multibase.Decode of texts in base 32 (four alphabets), 36 (two) and 58. -/
import Derived.Test.YtflafpklphgbpaaGreatDoorBwG
import Derived.Test.YtflafpklphgbpaaGreatDoorDdX
namespace Go.Proofs.YtflafpklphgbpaaGreatDoor
open Go Go.RowKit
set_option linter.unusedVariables false
set_option linter.unusedSimpArgs false
set_option maxRecDepth 100000

/-- The letters of base 32. -/
def hex32 : List Int := [48, 49, 50, 51, 52, 53, 54, 55, 56, 57, 65, 66, 67, 68, 69, 70, 71, 72, 73, 74, 75, 76, 77, 78, 79, 80, 81, 82, 83, 84, 85, 86]
theorem hex32_asc : Asc hex32 := by intro x hx; revert x; decide
theorem rawHex_calls {w : World} :
    Calls Tryz.prog 48 #[] w (EncAt w (strOfNums hex32) (tabCI hex32 32) (-1)) := by
  have E1 := Lib.hid (newCI_calls (w := w) hex32 rfl hex32_asc)
  rw [show strOfNums hex32 = ⟨#[48, 49, 50, 51, 52, 53, 54, 55, 56, 57, 65, 66, 67, 68, 69, 70, 71, 72, 73, 74, 75, 76, 77, 78, 79, 80, 81, 82, 83, 84, 85, 86]⟩ from by rfl] at E1 ⊢
  generalize tabCI hex32 32 = T at *
  go_enter Tryz.func48, Tryz.ntmps48
  go_wp2_with (fail)
  refine E1.out.mono ?_
  rintro e w1 ⟨g, C, rfl, hg, hb, hC, k1⟩
  have E2 := Lib.hid (withPad_calls (w := w1) hC (-1))
  have hsz := hC.size
  have HSZ := Lib.hid hsz
  have HB := Lib.hid (Blk.range (vs := C.toList) (by rw [Array.toArray_toList]; exact hb))
  clear hC hsz hb
  go_wp2_with (refine wpList_load_mid rfl 151 (.tmp 2) rfl g 0 rfl C.toList _ HB.out Tryz.underlying151 rfl (by rw [Array.length_toList, HSZ.out]; exact infoEnc) ?_)
  rw [Array.toArray_toList]
  refine E2.out.mono ?_
  rintro e w2 ⟨g2, C2, rfl, hg2, hb2, hC2, k2⟩
  have H2 := Lib.hid (show EncAt w ⟨#[48, 49, 50, 51, 52, 53, 54, 55, 56, 57, 65, 66, 67, 68, 69, 70, 71, 72, 73, 74, 75, 76, 77, 78, 79, 80, 81, 82, 83, 84, 85, 86]⟩ T (-1) (.returned (.pointer (some ⟨g2, 0, none⟩))) w2 from ⟨g2, C2, rfl, Nat.le_trans k1.size hg2, hb2, hC2, k1.then k2⟩)
  clear hC2 hb2
  go_wp2
  go_ret
  exact H2.out
namespace N36
theorem fold_len : ∀ (b : List Int) (N : List Int), (b.foldl dstep N).length ≤ N.length + 2 * b.length
  | [], N => by simp
  | c :: b, N => by
    have h1 := fold_len b (dstep N c)
    have h2 := dstep_len N c
    simp only [List.foldl_cons, List.length_cons]
    omega
theorem len36 {b : List Int} (hb : Byt b) (hn : b.length ≤ 100) : (dig36 b).length ≤ 300 := by
  have := fold_len b []
  show (b.foldl dstep []).length ≤ 300
  simp at this
  omega
end N36
/-- A decoder's answer: the bytes. -/
def DecP (w : World) (x : List Int) (e : Ending) (w' : World) : Prop := ∃ A c, e = .returned (.tuple #[.slice A x.length c, Value.nilIface]) ∧ Rd w' A x.length c x ∧ Kp no w w'
theorem tabL98 : ∀ d : Nat, d < 32 → (tabCI std32 32).getD (alp98.getD d 0).toNat 0 = (d : Int) ∧ 0 ≤ alp98.getD d 0 ∧ alp98.getD d 0 < 128 ∧ alp98.getD d 0 ≠ 10 ∧ alp98.getD d 0 ≠ 13 := by decide +kernel
theorem letL98 {D : List Int} (h : ∀ x ∈ D, 0 ≤ x ∧ x < 32) : Let32 (tabCI std32 32) D (D.map (ltr alp98)) := ⟨by simp, fun i hi => by
  have hx := h D[i] (List.getElem_mem hi)
  have hg : D.getD i 0 = D[i] := by rw [List.getD_eq_getElem?_getD, List.getElem?_eq_getElem hi]; rfl
  have hm : (D.map (ltr alp98)).getD i 0 = ltr alp98 D[i] := by rw [List.getD_eq_getElem?_getD, List.getElem?_map, List.getElem?_eq_getElem hi]; rfl
  obtain ⟨f1, f2, f3, f4, f5⟩ := tabL98 D[i].toNat (by omega)
  rw [hg, hm]
  refine ⟨(ltr alp98 D[i]).toNat, by unfold ltr; omega, by unfold ltr; omega, by unfold ltr; rw [f1]; omega, hx.1, hx.2, by unfold ltr; omega, by unfold ltr; omega⟩⟩
theorem tabL66 : ∀ d : Nat, d < 32 → (tabCI std32 32).getD (alp66.getD d 0).toNat 0 = (d : Int) ∧ 0 ≤ alp66.getD d 0 ∧ alp66.getD d 0 < 128 ∧ alp66.getD d 0 ≠ 10 ∧ alp66.getD d 0 ≠ 13 := by decide +kernel
theorem letL66 {D : List Int} (h : ∀ x ∈ D, 0 ≤ x ∧ x < 32) : Let32 (tabCI std32 32) D (D.map (ltr alp66)) := ⟨by simp, fun i hi => by
  have hx := h D[i] (List.getElem_mem hi)
  have hg : D.getD i 0 = D[i] := by rw [List.getD_eq_getElem?_getD, List.getElem?_eq_getElem hi]; rfl
  have hm : (D.map (ltr alp66)).getD i 0 = ltr alp66 D[i] := by rw [List.getD_eq_getElem?_getD, List.getElem?_map, List.getElem?_eq_getElem hi]; rfl
  obtain ⟨f1, f2, f3, f4, f5⟩ := tabL66 D[i].toNat (by omega)
  rw [hg, hm]
  refine ⟨(ltr alp66 D[i]).toNat, by unfold ltr; omega, by unfold ltr; omega, by unfold ltr; rw [f1]; omega, hx.1, hx.2, by unfold ltr; omega, by unfold ltr; omega⟩⟩
theorem tabL118 : ∀ d : Nat, d < 32 → (tabCI hex32 32).getD (alp118.getD d 0).toNat 0 = (d : Int) ∧ 0 ≤ alp118.getD d 0 ∧ alp118.getD d 0 < 128 ∧ alp118.getD d 0 ≠ 10 ∧ alp118.getD d 0 ≠ 13 := by decide +kernel
theorem letL118 {D : List Int} (h : ∀ x ∈ D, 0 ≤ x ∧ x < 32) : Let32 (tabCI hex32 32) D (D.map (ltr alp118)) := ⟨by simp, fun i hi => by
  have hx := h D[i] (List.getElem_mem hi)
  have hg : D.getD i 0 = D[i] := by rw [List.getD_eq_getElem?_getD, List.getElem?_eq_getElem hi]; rfl
  have hm : (D.map (ltr alp118)).getD i 0 = ltr alp118 D[i] := by rw [List.getD_eq_getElem?_getD, List.getElem?_map, List.getElem?_eq_getElem hi]; rfl
  obtain ⟨f1, f2, f3, f4, f5⟩ := tabL118 D[i].toNat (by omega)
  rw [hg, hm]
  refine ⟨(ltr alp118 D[i]).toNat, by unfold ltr; omega, by unfold ltr; omega, by unfold ltr; rw [f1]; omega, hx.1, hx.2, by unfold ltr; omega, by unfold ltr; omega⟩⟩
theorem tabL86 : ∀ d : Nat, d < 32 → (tabCI hex32 32).getD (alp86.getD d 0).toNat 0 = (d : Int) ∧ 0 ≤ alp86.getD d 0 ∧ alp86.getD d 0 < 128 ∧ alp86.getD d 0 ≠ 10 ∧ alp86.getD d 0 ≠ 13 := by decide +kernel
theorem letL86 {D : List Int} (h : ∀ x ∈ D, 0 ≤ x ∧ x < 32) : Let32 (tabCI hex32 32) D (D.map (ltr alp86)) := ⟨by simp, fun i hi => by
  have hx := h D[i] (List.getElem_mem hi)
  have hg : D.getD i 0 = D[i] := by rw [List.getD_eq_getElem?_getD, List.getElem?_eq_getElem hi]; rfl
  have hm : (D.map (ltr alp86)).getD i 0 = ltr alp86 D[i] := by rw [List.getD_eq_getElem?_getD, List.getElem?_map, List.getElem?_eq_getElem hi]; rfl
  obtain ⟨f1, f2, f3, f4, f5⟩ := tabL86 D[i].toNat (by omega)
  rw [hg, hm]
  refine ⟨(ltr alp86 D[i]).toNat, by unfold ltr; omega, by unfold ltr; omega, by unfold ltr; rw [f1]; omega, hx.1, hx.2, by unfold ltr; omega, by unfold ltr; omega⟩⟩
/-- Letters are bytes. -/
theorem ltr_byt {dl D : List Int} {n : Nat} (hdl : ∀ d : Nat, d < n → 0 ≤ dl.getD d 0 ∧ dl.getD d 0 < 128) (h : ∀ x ∈ D, 0 ≤ x ∧ x < (n : Int)) : Byt (D.map (ltr dl)) := by
  intro y hy
  obtain ⟨x, hx, rfl⟩ := List.mem_map.1 hy
  have hx' := h x hx
  have := hdl x.toNat (by omega)
  unfold ltr
  omega
theorem lo98 : ∀ d : Nat, d < 32 → 0 ≤ alp98.getD d 0 ∧ alp98.getD d 0 < 128 := by decide +kernel
theorem txb98 {x : List Int} (hb : Byt x) (h1 : 1 ≤ x.length) (hn : x.length ≤ 100) : Txb 98 ((dgs 5 x).map (ltr alp98)) := by
  obtain ⟨f1, f2, f3, _⟩ := dg_facts hb h1 hn
  refine ⟨fun y hy => ?_, by omega, by omega, by simpa using f2, by simpa using f3⟩
  rcases List.mem_cons.1 hy with rfl | hy
  · omega
  · exact ltr_byt (n := 32) lo98 f1 y hy
set_option maxHeartbeats 8000000 in
theorem mb98_calls {x : List Int} (hb : Byt x) (h1 : 1 ≤ x.length) (hn : x.length ≤ 100) (w : World) :
    Calls Tryz.prog 36 #[.string (strOfNums (98 :: (dgs 5 x).map (ltr alp98)))] w (MbP w 98 x) := by
  obtain ⟨f1, f2, f3, f4, f5, f6, f7⟩ := dg_facts hb h1 hn
  have hT := txb98 hb h1 hn
  have DR := Lib.hid (rune_calls (w := w) hT.b (by have := hT.m; omega) (by omega))
  have ht := str_tail (x := 98) (r := (dgs 5 x).map (ltr alp98))
  have hs := strOfNums_size (98 :: (dgs 5 x).map (ltr alp98))
  simp only [List.length_cons, List.length_map] at hs
  have DS := Lib.hid (fun (W : World) gE C (hb2 : Blk W gE C 151) (hC : EncC C (strOfNums std32) (tabCI std32 32) (-1)) => b32string_calls (w := W) (letL98 f1) (ltr_byt (n := 32) lo98 f1) hb2 hC f2 f3 f4 f5 f6)
  rw [f7] at DS
  generalize strOfNums (98 :: (dgs 5 x).map (ltr alp98)) = S at *
  rw [← ht] at DS
  have hs1 : (1 : Int) ≤ (S.size : Int) := by omega
  have hs2 : 1 ≤ S.size := by omega
  have hs3 : ((S.size : Int) == 0) = false := beq_eq_false_iff_ne.2 (by omega)
  have hs4 : S.size ≤ 2000 := by omega
  have DN := fun (W : World) => Lib.hid (rawStd_calls (w := W))
  obtain ⟨m, hm⟩ : ∃ m, m = x.length := ⟨_, rfl⟩
  rw [← hm] at DS
  have HM := Lib.hid hm
  clear f1 f2 f3 f4 f5 f6 f7 ht hs hT h1 hn hm hb
  go_enter Tryz.func36, Tryz.ntmps36
  go_wp2_with (first | (go_at_call 43; refine DR.out.mono ?_; rintro e w1 ⟨rfl, rfl⟩))
  go_region_with (first
    | (go_at_call 47; refine (DS.out _ gE C hb2 hC).mono ?_; rintro e w3 ⟨A, c, rfl, R3, k3⟩)
    | (go_at_call 46; refine (DN _).out.mono ?_; rintro e w2 ⟨gE, C, rfl, hg, hb2, hC, k2⟩))
  all_goals
    have HF := Lib.hid (show MbP w1 98 x (.returned (.tuple #[.int .i64 98, .slice A m c, Value.nilIface])) w3 from ⟨A, c, by rw [HM.out], by have := R3; rw [HM.out] at this; exact this, ((Kp.refl _ _).drew.then k2).then k3⟩)
    clear R3 k3 hb2 hC
    go_wp2
    go_ret3
    exact HF.out
theorem lo66 : ∀ d : Nat, d < 32 → 0 ≤ alp66.getD d 0 ∧ alp66.getD d 0 < 128 := by decide +kernel
theorem txb66 {x : List Int} (hb : Byt x) (h1 : 1 ≤ x.length) (hn : x.length ≤ 100) : Txb 66 ((dgs 5 x).map (ltr alp66)) := by
  obtain ⟨f1, f2, f3, _⟩ := dg_facts hb h1 hn
  refine ⟨fun y hy => ?_, by omega, by omega, by simpa using f2, by simpa using f3⟩
  rcases List.mem_cons.1 hy with rfl | hy
  · omega
  · exact ltr_byt (n := 32) lo66 f1 y hy
set_option maxHeartbeats 8000000 in
theorem mb66_calls {x : List Int} (hb : Byt x) (h1 : 1 ≤ x.length) (hn : x.length ≤ 100) (w : World) :
    Calls Tryz.prog 36 #[.string (strOfNums (66 :: (dgs 5 x).map (ltr alp66)))] w (MbP w 66 x) := by
  obtain ⟨f1, f2, f3, f4, f5, f6, f7⟩ := dg_facts hb h1 hn
  have hT := txb66 hb h1 hn
  have DR := Lib.hid (rune_calls (w := w) hT.b (by have := hT.m; omega) (by omega))
  have ht := str_tail (x := 66) (r := (dgs 5 x).map (ltr alp66))
  have hs := strOfNums_size (66 :: (dgs 5 x).map (ltr alp66))
  simp only [List.length_cons, List.length_map] at hs
  have DS := Lib.hid (fun (W : World) gE C (hb2 : Blk W gE C 151) (hC : EncC C (strOfNums std32) (tabCI std32 32) (-1)) => b32string_calls (w := W) (letL66 f1) (ltr_byt (n := 32) lo66 f1) hb2 hC f2 f3 f4 f5 f6)
  rw [f7] at DS
  generalize strOfNums (66 :: (dgs 5 x).map (ltr alp66)) = S at *
  rw [← ht] at DS
  have hs1 : (1 : Int) ≤ (S.size : Int) := by omega
  have hs2 : 1 ≤ S.size := by omega
  have hs3 : ((S.size : Int) == 0) = false := beq_eq_false_iff_ne.2 (by omega)
  have hs4 : S.size ≤ 2000 := by omega
  have DN := fun (W : World) => Lib.hid (rawStd_calls (w := W))
  obtain ⟨m, hm⟩ : ∃ m, m = x.length := ⟨_, rfl⟩
  rw [← hm] at DS
  have HM := Lib.hid hm
  clear f1 f2 f3 f4 f5 f6 f7 ht hs hT h1 hn hm hb
  go_enter Tryz.func36, Tryz.ntmps36
  go_wp2_with (first | (go_at_call 43; refine DR.out.mono ?_; rintro e w1 ⟨rfl, rfl⟩))
  go_region_with (first
    | (go_at_call 47; refine (DS.out _ gE C hb2 hC).mono ?_; rintro e w3 ⟨A, c, rfl, R3, k3⟩)
    | (go_at_call 46; refine (DN _).out.mono ?_; rintro e w2 ⟨gE, C, rfl, hg, hb2, hC, k2⟩))
  all_goals
    have HF := Lib.hid (show MbP w1 66 x (.returned (.tuple #[.int .i64 66, .slice A m c, Value.nilIface])) w3 from ⟨A, c, by rw [HM.out], by have := R3; rw [HM.out] at this; exact this, ((Kp.refl _ _).drew.then k2).then k3⟩)
    clear R3 k3 hb2 hC
    go_wp2
    go_ret3
    exact HF.out
theorem lo118 : ∀ d : Nat, d < 32 → 0 ≤ alp118.getD d 0 ∧ alp118.getD d 0 < 128 := by decide +kernel
theorem txb118 {x : List Int} (hb : Byt x) (h1 : 1 ≤ x.length) (hn : x.length ≤ 100) : Txb 118 ((dgs 5 x).map (ltr alp118)) := by
  obtain ⟨f1, f2, f3, _⟩ := dg_facts hb h1 hn
  refine ⟨fun y hy => ?_, by omega, by omega, by simpa using f2, by simpa using f3⟩
  rcases List.mem_cons.1 hy with rfl | hy
  · omega
  · exact ltr_byt (n := 32) lo118 f1 y hy
set_option maxHeartbeats 8000000 in
theorem mb118_calls {x : List Int} (hb : Byt x) (h1 : 1 ≤ x.length) (hn : x.length ≤ 100) (w : World) :
    Calls Tryz.prog 36 #[.string (strOfNums (118 :: (dgs 5 x).map (ltr alp118)))] w (MbP w 118 x) := by
  obtain ⟨f1, f2, f3, f4, f5, f6, f7⟩ := dg_facts hb h1 hn
  have hT := txb118 hb h1 hn
  have DR := Lib.hid (rune_calls (w := w) hT.b (by have := hT.m; omega) (by omega))
  have ht := str_tail (x := 118) (r := (dgs 5 x).map (ltr alp118))
  have hs := strOfNums_size (118 :: (dgs 5 x).map (ltr alp118))
  simp only [List.length_cons, List.length_map] at hs
  have DS := Lib.hid (fun (W : World) gE C (hb2 : Blk W gE C 151) (hC : EncC C (strOfNums hex32) (tabCI hex32 32) (-1)) => b32string_calls (w := W) (letL118 f1) (ltr_byt (n := 32) lo118 f1) hb2 hC f2 f3 f4 f5 f6)
  rw [f7] at DS
  generalize strOfNums (118 :: (dgs 5 x).map (ltr alp118)) = S at *
  rw [← ht] at DS
  have hs1 : (1 : Int) ≤ (S.size : Int) := by omega
  have hs2 : 1 ≤ S.size := by omega
  have hs3 : ((S.size : Int) == 0) = false := beq_eq_false_iff_ne.2 (by omega)
  have hs4 : S.size ≤ 2000 := by omega
  have DN := fun (W : World) => Lib.hid (rawHex_calls (w := W))
  obtain ⟨m, hm⟩ : ∃ m, m = x.length := ⟨_, rfl⟩
  rw [← hm] at DS
  have HM := Lib.hid hm
  clear f1 f2 f3 f4 f5 f6 f7 ht hs hT h1 hn hm hb
  go_enter Tryz.func36, Tryz.ntmps36
  go_wp2_with (first | (go_at_call 43; refine DR.out.mono ?_; rintro e w1 ⟨rfl, rfl⟩))
  go_region_with (first
    | (go_at_call 47; refine (DS.out _ gE C hb2 hC).mono ?_; rintro e w3 ⟨A, c, rfl, R3, k3⟩)
    | (go_at_call 48; refine (DN _).out.mono ?_; rintro e w2 ⟨gE, C, rfl, hg, hb2, hC, k2⟩))
  all_goals
    have HF := Lib.hid (show MbP w1 118 x (.returned (.tuple #[.int .i64 118, .slice A m c, Value.nilIface])) w3 from ⟨A, c, by rw [HM.out], by have := R3; rw [HM.out] at this; exact this, ((Kp.refl _ _).drew.then k2).then k3⟩)
    clear R3 k3 hb2 hC
    go_wp2
    go_ret3
    exact HF.out
theorem lo86 : ∀ d : Nat, d < 32 → 0 ≤ alp86.getD d 0 ∧ alp86.getD d 0 < 128 := by decide +kernel
theorem txb86 {x : List Int} (hb : Byt x) (h1 : 1 ≤ x.length) (hn : x.length ≤ 100) : Txb 86 ((dgs 5 x).map (ltr alp86)) := by
  obtain ⟨f1, f2, f3, _⟩ := dg_facts hb h1 hn
  refine ⟨fun y hy => ?_, by omega, by omega, by simpa using f2, by simpa using f3⟩
  rcases List.mem_cons.1 hy with rfl | hy
  · omega
  · exact ltr_byt (n := 32) lo86 f1 y hy
set_option maxHeartbeats 8000000 in
theorem mb86_calls {x : List Int} (hb : Byt x) (h1 : 1 ≤ x.length) (hn : x.length ≤ 100) (w : World) :
    Calls Tryz.prog 36 #[.string (strOfNums (86 :: (dgs 5 x).map (ltr alp86)))] w (MbP w 86 x) := by
  obtain ⟨f1, f2, f3, f4, f5, f6, f7⟩ := dg_facts hb h1 hn
  have hT := txb86 hb h1 hn
  have DR := Lib.hid (rune_calls (w := w) hT.b (by have := hT.m; omega) (by omega))
  have ht := str_tail (x := 86) (r := (dgs 5 x).map (ltr alp86))
  have hs := strOfNums_size (86 :: (dgs 5 x).map (ltr alp86))
  simp only [List.length_cons, List.length_map] at hs
  have DS := Lib.hid (fun (W : World) gE C (hb2 : Blk W gE C 151) (hC : EncC C (strOfNums hex32) (tabCI hex32 32) (-1)) => b32string_calls (w := W) (letL86 f1) (ltr_byt (n := 32) lo86 f1) hb2 hC f2 f3 f4 f5 f6)
  rw [f7] at DS
  generalize strOfNums (86 :: (dgs 5 x).map (ltr alp86)) = S at *
  rw [← ht] at DS
  have hs1 : (1 : Int) ≤ (S.size : Int) := by omega
  have hs2 : 1 ≤ S.size := by omega
  have hs3 : ((S.size : Int) == 0) = false := beq_eq_false_iff_ne.2 (by omega)
  have hs4 : S.size ≤ 2000 := by omega
  have DN := fun (W : World) => Lib.hid (rawHex_calls (w := W))
  obtain ⟨m, hm⟩ : ∃ m, m = x.length := ⟨_, rfl⟩
  rw [← hm] at DS
  have HM := Lib.hid hm
  clear f1 f2 f3 f4 f5 f6 f7 ht hs hT h1 hn hm hb
  go_enter Tryz.func36, Tryz.ntmps36
  go_wp2_with (first | (go_at_call 43; refine DR.out.mono ?_; rintro e w1 ⟨rfl, rfl⟩))
  go_region_with (first
    | (go_at_call 47; refine (DS.out _ gE C hb2 hC).mono ?_; rintro e w3 ⟨A, c, rfl, R3, k3⟩)
    | (go_at_call 48; refine (DN _).out.mono ?_; rintro e w2 ⟨gE, C, rfl, hg, hb2, hC, k2⟩))
  all_goals
    have HF := Lib.hid (show MbP w1 86 x (.returned (.tuple #[.int .i64 86, .slice A m c, Value.nilIface])) w3 from ⟨A, c, by rw [HM.out], by have := R3; rw [HM.out] at this; exact this, ((Kp.refl _ _).drew.then k2).then k3⟩)
    clear R3 k3 hb2 hC
    go_wp2
    go_ret3
    exact HF.out
theorem lo107 : ∀ d : Nat, d < 36 → 0 ≤ alp107.getD d 0 ∧ alp107.getD d 0 < 128 := by decide +kernel
theorem txb107 {x : List Int} (hb : Byt x) (x0 : x.getD 0 0 ≠ 0) (hn : x.length ≤ 100) : Txb 107 ((N36.dig36 x).map (ltr alp107)) := by
  obtain ⟨f1, f2, f3⟩ := N36.dig36_back hb x0
  have hl := N36.len36 hb hn
  refine ⟨fun y hy => ?_, by omega, by omega, ?_, by simp; omega⟩
  · rcases List.mem_cons.1 hy with rfl | hy
    · omega
    · exact ltr_byt (n := 36) lo107 f1 y hy
  · cases hq : N36.dig36 x with
    | nil => rw [hq] at f2; simp at f2
    | cons => simp
set_option maxHeartbeats 4000000 in
theorem mb107_calls {x : List Int} (hb : Byt x) (x0 : x.getD 0 0 ≠ 0) (hn : x.length ≤ 100) (w : World) :
    Calls Tryz.prog 36 #[.string (strOfNums (107 :: (N36.dig36 x).map (ltr alp107)))] w (MbP w 107 x) := by
  obtain ⟨f1, f2, f3⟩ := N36.dig36_back hb x0
  have hT := txb107 hb x0 hn
  have DR := Lib.hid (rune_calls (w := w) hT.b (by have := hT.m; omega) (by omega))
  have ht := str_tail (x := 107) (r := (N36.dig36 x).map (ltr alp107))
  have hs := strOfNums_size (107 :: (N36.dig36 x).map (ltr alp107))
  have hm := hT.m
  simp only [List.length_cons, List.length_map] at hs hm
  have DS := Lib.hid (decode36_calls (w := w) f1 f2 (by have := N36.len36 hb hn; omega) al36k)
  generalize strOfNums (107 :: (N36.dig36 x).map (ltr alp107)) = S at *
  rw [← ht] at DS
  have hs1 : (1 : Int) ≤ (S.size : Int) := by omega
  have hs2 : 1 ≤ S.size := by omega
  have hs3 : ((S.size : Int) == 0) = false := beq_eq_false_iff_ne.2 (by omega)
  have hs4 : S.size ≤ 2000 := by omega
  have H3 := Lib.hid f3
  clear f1 f2 f3 ht hs hT hm hn x0 hb
  go_enter Tryz.func36, Tryz.ntmps36
  go_wp2_with (first | (go_at_call 43; refine DR.out.mono ?_; rintro e w1 ⟨rfl, rfl⟩))
  refine DS.out.mono ?_
  rintro e w3 ⟨k3, A, c, rfl, R3⟩
  have HF := Lib.hid (show MbP w1 107 x (.returned (.tuple #[.int .i64 107, .slice A (decB 36 (N36.dig36 x)).length c, Value.nilIface])) w3 from ⟨A, c, by rw [H3.out], by have := R3; rw [H3.out] at this; exact this, k3⟩)
  generalize (decB 36 (N36.dig36 x)).length = nd at *
  clear R3 k3
  go_wp2
  go_ret3
  exact HF.out
theorem lo75 : ∀ d : Nat, d < 36 → 0 ≤ alp75.getD d 0 ∧ alp75.getD d 0 < 128 := by decide +kernel
theorem txb75 {x : List Int} (hb : Byt x) (x0 : x.getD 0 0 ≠ 0) (hn : x.length ≤ 100) : Txb 75 ((N36.dig36 x).map (ltr alp75)) := by
  obtain ⟨f1, f2, f3⟩ := N36.dig36_back hb x0
  have hl := N36.len36 hb hn
  refine ⟨fun y hy => ?_, by omega, by omega, ?_, by simp; omega⟩
  · rcases List.mem_cons.1 hy with rfl | hy
    · omega
    · exact ltr_byt (n := 36) lo75 f1 y hy
  · cases hq : N36.dig36 x with
    | nil => rw [hq] at f2; simp at f2
    | cons => simp
set_option maxHeartbeats 4000000 in
theorem mb75_calls {x : List Int} (hb : Byt x) (x0 : x.getD 0 0 ≠ 0) (hn : x.length ≤ 100) (w : World) :
    Calls Tryz.prog 36 #[.string (strOfNums (75 :: (N36.dig36 x).map (ltr alp75)))] w (MbP w 75 x) := by
  obtain ⟨f1, f2, f3⟩ := N36.dig36_back hb x0
  have hT := txb75 hb x0 hn
  have DR := Lib.hid (rune_calls (w := w) hT.b (by have := hT.m; omega) (by omega))
  have ht := str_tail (x := 75) (r := (N36.dig36 x).map (ltr alp75))
  have hs := strOfNums_size (75 :: (N36.dig36 x).map (ltr alp75))
  have hm := hT.m
  simp only [List.length_cons, List.length_map] at hs hm
  have DS := Lib.hid (decode36_calls (w := w) f1 f2 (by have := N36.len36 hb hn; omega) al36K)
  generalize strOfNums (75 :: (N36.dig36 x).map (ltr alp75)) = S at *
  rw [← ht] at DS
  have hs1 : (1 : Int) ≤ (S.size : Int) := by omega
  have hs2 : 1 ≤ S.size := by omega
  have hs3 : ((S.size : Int) == 0) = false := beq_eq_false_iff_ne.2 (by omega)
  have hs4 : S.size ≤ 2000 := by omega
  have H3 := Lib.hid f3
  clear f1 f2 f3 ht hs hT hm hn x0 hb
  go_enter Tryz.func36, Tryz.ntmps36
  go_wp2_with (first | (go_at_call 43; refine DR.out.mono ?_; rintro e w1 ⟨rfl, rfl⟩))
  refine DS.out.mono ?_
  rintro e w3 ⟨k3, A, c, rfl, R3⟩
  have HF := Lib.hid (show MbP w1 75 x (.returned (.tuple #[.int .i64 75, .slice A (decB 36 (N36.dig36 x)).length c, Value.nilIface])) w3 from ⟨A, c, by rw [H3.out], by have := R3; rw [H3.out] at this; exact this, k3⟩)
  generalize (decB 36 (N36.dig36 x)).length = nd at *
  clear R3 k3
  go_wp2
  go_ret3
  exact HF.out
theorem lo122 : ∀ d : Nat, d < 58 → 0 ≤ alp122.getD d 0 ∧ alp122.getD d 0 < 128 := by decide +kernel
theorem alp_sign : alp122 = alpha := by decide +kernel
theorem len58 {x : List Int} (hb : Byt x) (hn : x.length ≤ 100) : (dig58 x).length ≤ 300 := by
  have := dig58_len hb (by omega)
  omega
theorem txb122 {x : List Int} (hb : Byt x) (x0 : x.getD 0 0 ≠ 0) (hn : x.length ≤ 100) : Txb 122 ((dig58 x).map (ltr alp122)) := by
  obtain ⟨f1, f2, f3⟩ := dig58_back hb x0
  have hl := len58 hb hn
  refine ⟨fun y hy => ?_, by omega, by omega, ?_, by simp; omega⟩
  · rcases List.mem_cons.1 hy with rfl | hy
    · omega
    · exact ltr_byt (n := 58) lo122 f1 y hy
  · cases hq : dig58 x with
    | nil => rw [hq] at f2; simp at f2
    | cons => simp
theorem da58_calls {w : World} {gA : Nat} {D : List Int} (hT : Txt D []) (h1 : 1 ≤ D.length) (hn : D.length ≤ 300)
    (hA : w.cell? ⟨gA, 128, none⟩ = some (.int .u8 49)) (hTab : ∀ i : Nat, i < 128 → w.cell? ⟨gA, i, none⟩ = some (.int .i8 ((tab58 58).getD i 0))) :
    Calls Tryz.prog 52 #[.string (strOfNums (D.map sign)), .pointer (some ⟨gA, 0, none⟩)] w fun e w' => Kp no w w' ∧ ∃ A n c, e = .returned (.tuple #[.slice A n c, Value.nilIface]) ∧ Rd w' A n c (decB 58 D) := by
  have D1 := decode58_calls (w := w) (gA := gA) hT (by simpa using h1) (by simpa using hn) hA hTab
  rw [List.append_nil] at D1
  have D1 := Lib.hid D1
  generalize strOfNums (D.map sign) = s at *
  clear hT h1 hn hA hTab
  go_enter Tryz.func52, Tryz.ntmps52
  go_wp2_with (fail)
  refine D1.out.mono ?_
  rintro e w2 ⟨k2, hy, _⟩
  obtain ⟨A, n, c, rfl, hRd⟩ := hy rfl
  have HRd := Lib.hid hRd
  clear hy hRd
  go_wp2
  go_ret2
  exact ⟨k2, A, n, c, rfl, HRd.out⟩
set_option maxHeartbeats 8000000 in
theorem mb122_calls {x : List Int} (hb : Byt x) (x0 : x.getD 0 0 ≠ 0) (hn : x.length ≤ 100) (w : World) :
    Calls Tryz.prog 36 #[.string (strOfNums (122 :: (dig58 x).map (ltr alp122)))] w (MbP w 122 x) := by
  obtain ⟨f1, f2, f3⟩ := dig58_back hb x0
  have hT := txb122 hb x0 hn
  have DR := Lib.hid (rune_calls (w := w) hT.b (by have := hT.m; omega) (by omega))
  have ht := str_tail (x := 122) (r := (dig58 x).map (ltr alp122))
  have hs := strOfNums_size (122 :: (dig58 x).map (ltr alp122))
  have hm := hT.m
  have hp := hT.n
  simp only [List.length_cons, List.length_map] at hs hm hp
  have hsg : (dig58 x).map sign = (dig58 x).map (ltr alp122) := by rw [alp_sign]; rfl
  have DS := Lib.hid (fun (W : World) gA (hA : W.cell? ⟨gA, 128, none⟩ = some (.int .u8 49)) (hTab : ∀ i : Nat, i < 128 → W.cell? ⟨gA, i, none⟩ = some (.int .i8 ((tab58 58).getD i 0))) => da58_calls (w := W) (gA := gA) (D := dig58 x) ⟨f1, fun x hx => by (cases hx), fun c r h => by (cases h)⟩ hp (len58 hb hn) hA hTab)
  rw [hsg] at DS
  generalize strOfNums (122 :: (dig58 x).map (ltr alp122)) = S at *
  rw [← ht] at DS
  have hs1 : (1 : Int) ≤ (S.size : Int) := by omega
  have hs2 : 1 ≤ S.size := by omega
  have hs3 : ((S.size : Int) == 0) = false := beq_eq_false_iff_ne.2 (by omega)
  have hs4 : S.size ≤ 2000 := by omega
  have DN := fun (W : World) => Lib.hid (BTCD_calls (w := W))
  have H3 := Lib.hid f3
  clear f1 f2 f3 ht hs hT hm hn x0 hb hp hsg
  go_enter Tryz.func36, Tryz.ntmps36
  go_wp2_with (first | (go_at_call 43; refine DR.out.mono ?_; rintro e w1 ⟨rfl, rfl⟩))
  go_region_with (first
    | (go_at_call 52; refine (DS.out _ gA (hA 0 (by omega)) hTab).mono ?_; rintro e w3 ⟨k3, A, n, c, rfl, R3⟩)
    | (go_at_call 53; refine (DN _).out.mono ?_; rintro e w2 ⟨gA, rfl, _, _, hA, hTab, k2⟩))
  all_goals
    have HF := Lib.hid (show MbP w1 122 x (.returned (.tuple #[.int .i64 122, .slice A n c, Value.nilIface])) w3 from ⟨A, c, by have := R3.len; rw [H3.out] at this; rw [this], by have h := R3; have := R3.len; rw [H3.out] at this h; rw [this]; exact h, ((Kp.refl _ _).drew.then k2).then k3⟩)
    clear R3 k3 hA hTab
    go_wp2
    go_ret3
    exact HF.out
end Go.Proofs.YtflafpklphgbpaaGreatDoor
