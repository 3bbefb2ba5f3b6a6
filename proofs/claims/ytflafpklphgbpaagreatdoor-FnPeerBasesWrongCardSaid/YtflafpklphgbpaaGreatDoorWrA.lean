/- base32: decodeInPlace and DecodeString, on letters alone. utf8.DecodeRuneInString on a text that begins with a small sign. gocid.Decode of a text of base 32. peer.Decode of a text of base 32 that is no ID. For FnPeerWrongText: texts that peer.Decode refuses. -/
import Derived.Test.YtflafpklphgbpaaGreatDoorB32W
import Derived.Test.YtflafpklphgbpaaGreatDoorB32K
import Derived.Test.YtflafpklphgbpaaGreatDoorPDec
import Derived.Test.YtflafpklphgbpaaGreatDoorCiX
import Derived.Deep.RegionWith
import Derived.Deep.QuietTactic
import Derived.Test.YtflafpklphgbpaaGreatDoorCutL
import Derived.Test.YtflafpklphgbpaaGreatDoorOther
namespace Go.Proofs.YtflafpklphgbpaaGreatDoor
open Go Go.RowKit
set_option linter.unusedVariables false
set_option linter.unusedSimpArgs false
set_option maxRecDepth 100000

theorem set_same (l : List Int) (i : Nat) : l.set i (l.getD i 0) = l := by
  by_cases h : i < l.length
  · rw [List.getD_eq_getElem?_getD, List.getElem?_eq_getElem h]; simp
  · exact List.set_eq_of_length_le (by omega)

set_option maxHeartbeats 8000000 in
theorem b32inPlace_calls {w : World} {g gE c : Nat} {D LT T : List Int} {s : ByteArray} {C : Array Value} (hL : Let32 T D LT) (hb : Blk w gE C 151) (hC : EncC C s T (-1)) (hgE : gE ≠ g) (hr : RowM w g LT)
    (h1 : 1 ≤ D.length) (hn : D.length ≤ 1000) (hT : Tl32 D.length) (hc : D.length ≤ c) (hcm : c ≤ 9223372036854775807) :
    Calls Tryz.prog 73 #[.pointer (some ⟨gE, 0, none⟩), .slice (some ⟨g, 0, none⟩) D.length c] w
      fun e w' => e = .returned (.tuple #[.int .i64 ((d32 D).length : Nat), Value.nilIface]) ∧ (∃ L, L.length = LT.length ∧ L.take (d32 D).length = d32 D ∧ RowM w' g L) ∧ Kp (· = g) w w' := by
  have HDC := Lib.hid (fun (W : World) (k : Kp (· = g) w W) (hR : RowM W g LT) => b32decode_calls (w := W) (c := c) (c2 := c) hL (hb.keep k (by show ¬ gE = g; exact hgE)) hC hgE hR h1 hn hT hc hc hcm hcm)
  have hct := cutTo (P := Tryz.prog) Tryz.und_bytes Tryz.size_byte (some ⟨g, 0, none⟩) D.length c .i64 (D.length : Int) (by omega) (by omega) hc
  rw [Int.toNat_natCast] at hct
  have HLT := Lib.hid hL
  obtain ⟨n, hnn⟩ : ∃ n, n = D.length := ⟨_, rfl⟩
  rw [← hnn] at HDC hct h1 hn hc ⊢
  have HN := Lib.hid hnn
  have hglt := hr.lt
  clear hnn hL hb hC hT
  go_enter Tryz.func73, Tryz.ntmps73
  go_wp2
  go_loopw [6, 11] (fun ov iv wr => ∃ i : Nat, i ≤ n ∧ ov = .int .i64 i ∧ iv = .int .i64 i ∧ RowM wr g LT ∧ Kp (· = g) w wr) (fun _ iv _ => n - (intOf iv).toNat)
  case atStart => exact ⟨0, Nat.zero_le _, rfl, rfl, hr, Kp.refl _ _⟩
  case round =>
    obtain ⟨i, hi, rfl, rfl, hR, k⟩ := hrel
    by_cases hlt : i < n
    · obtain ⟨b, hb1, hb2, _, _, _, hb4, hb5⟩ := HLT.out.at_ i (by rw [← HN.out]; exact hlt)
      have hil : i < LT.length := by rw [HLT.out.len, ← HN.out]; exact hlt
      have cb := hR.cell i hil
      have fb := hR.free i hil
      have HS := Lib.hid (set_same LT i)
      have HR2 := Lib.hid (hR.set i (LT.getD i 0))
      rw [← hb1] at cb
      rw [← hb1] at HS HR2
      have e10 : ((b : Int) == 10) = false := beq_eq_false_iff_ne.2 (by omega)
      have e13 : ((b : Int) == 13) = false := beq_eq_false_iff_ne.2 (by omega)
      clear hb1 hb4 hb5 hil
      go_wp2
      go_roundw
      case rel => exact ⟨i + 1, by omega, by go_num, by go_num, by have := HR2.out; rw [HS.out] at this; exact this, k.setCell (p := ⟨g, i, none⟩) (fun _ => rfl) _⟩
      case measure => simp [intOf]; omega
    · obtain rfl : i = n := by omega
      go_wp2_with (first | (go_at_call 95; refine (HDC.out _ k hR).mono ?_; rintro e w1 ⟨rfl, ⟨L, hLl, hLt, hRL⟩, k1⟩; have HX := Lib.hid (And.intro hLl (And.intro hLt hRL)); clear hLl hLt))
      go_ret2
      exact ⟨rfl, ⟨L, HX.out.1, HX.out.2.1, HX.out.2.2⟩, k.trans k1 (fun _ _ h => h)⟩

/-- A text of letters, decoded into new bytes. -/
theorem b32string_calls {w : World} {gE : Nat} {D LT T : List Int} {s : ByteArray} {C : Array Value} (hL : Let32 T D LT) (hBL : Byt LT) (hb : Blk w gE C 151) (hC : EncC C s T (-1))
    (h1 : 1 ≤ D.length) (hn : D.length ≤ 1000) (hT : Tl32 D.length) (hB : Byt (d32 D)) (hle : (d32 D).length ≤ D.length) :
    Calls Tryz.prog 47 #[.pointer (some ⟨gE, 0, none⟩), .string (strOfNums LT)] w
      fun e w' => ∃ A c, e = .returned (.tuple #[.slice A (d32 D).length c, Value.nilIface]) ∧ Rd w' A (d32 D).length c (d32 D) ∧ Kp no w w' := by
  obtain ⟨c, w2, hcv, hR, k2, hc, hcm⟩ := str_row (w := w) hBL (by rw [hL.len]; omega) Tryz.und_string Tryz.und_bytes
  have hgE : gE ≠ w.heap.size := by have := hb.lt; omega
  have HDC := Lib.hid (b32inPlace_calls (c := c) hL (hb.keepN k2) hC hgE hR h1 hn hT (by rw [← hL.len]; exact hc) hcm)
  have hln := hL.len
  rw [hln] at hcv hc
  have hct := cutTo (P := Tryz.prog) Tryz.und_bytes Tryz.size_byte (some ⟨w.heap.size, 0, none⟩) D.length c .i64 ((d32 D).length : Int) (by omega) (by omega) hc
  rw [Int.toNat_natCast] at hct
  have HB := Lib.hid hB
  have HW := Lib.hid (show (d32 D).length ≤ c from by omega)
  have HCM := Lib.hid hcm
  have HLE := Lib.hid (show (d32 D).length ≤ LT.length from by omega)
  generalize D.length = n at *
  obtain ⟨m, hm⟩ : ∃ m, m = (d32 D).length := ⟨_, rfl⟩
  rw [← hm] at HDC hct HW HLE ⊢
  have HM := Lib.hid hm
  obtain ⟨gw, hgw⟩ : ∃ x, x = w.heap.size := ⟨_, rfl⟩
  rw [← hgw] at hcv HDC hct hR
  have HG := Lib.hid hgw
  obtain ⟨tx, htx⟩ : ∃ x, x = strOfNums LT := ⟨_, rfl⟩
  rw [← htx] at hcv ⊢
  have HR := Lib.hid hR
  clear hm hgw htx hR hc hcm hL hBL hT hB hle hb hC hgE hln h1
  go_enter Tryz.func47, Tryz.ntmps47
  go_wp2_with (first | (go_at_call 73; refine HDC.out.mono ?_; rintro e w3 ⟨rfl, ⟨L, hLl, hLt, hRL⟩, k3⟩; have HX := Lib.hid (And.intro hLl (And.intro hLt hRL)); clear hLl hLt hRL))
  go_ret2
  have hX := HX.out
  have hlen : m ≤ L.length := by rw [hX.1]; exact HLE.out
  refine ⟨_, _, rfl, ⟨HM.out.symm, HW.out, HCM.out, HB.out, fun _ => ⟨gw, 0, rfl, fun j hj => ?_⟩⟩, (show Kp no w w2 from k2).trans k3 (fun i hi h => by have h : i = gw := h; rw [h, HG.out] at hi; exact absurd hi (Nat.lt_irrefl _))⟩
  rw [Nat.zero_add]
  have hj' : j < m := hj
  rw [hX.2.2.cell j (by omega)]
  have hg : L.getD j 0 = (d32 D).getD j 0 := by
    rw [← hX.2.1, List.getD_eq_getElem?_getD, List.getD_eq_getElem?_getD, List.getElem?_take, if_pos hj']
  rw [hg]

/-- The lower-case letters are in the table of the upper ones. -/
theorem tab32_fact : ∀ d : Nat, d < 32 → (tabCI std32 32).getD (al32.getD d 0).toNat 0 = (d : Int) ∧ 0 ≤ al32.getD d 0 ∧ al32.getD d 0 < 128 ∧ al32.getD d 0 ≠ 10 ∧ al32.getD d 0 ≠ 13 := by decide +kernel
theorem let32_of {D : List Int} (h : ∀ x ∈ D, 0 ≤ x ∧ x < 32) : Let32 (tabCI std32 32) D (D.map let32) := ⟨by simp, fun i hi => by
  have hx := h D[i] (List.getElem_mem hi)
  have hg : D.getD i 0 = D[i] := by rw [List.getD_eq_getElem?_getD, List.getElem?_eq_getElem hi]; rfl
  have hm : (D.map let32).getD i 0 = let32 D[i] := by rw [List.getD_eq_getElem?_getD, List.getElem?_map, List.getElem?_eq_getElem hi]; rfl
  obtain ⟨f1, f2, f3, f4, f5⟩ := tab32_fact D[i].toNat (by omega)
  rw [hg, hm]
  refine ⟨(let32 D[i]).toNat, by unfold let32; omega, by unfold let32; omega, by unfold let32; rw [f1]; omega, hx.1, hx.2, by unfold let32; omega, by unfold let32; omega⟩⟩
theorem let32_byt {D : List Int} (h : ∀ x ∈ D, 0 ≤ x ∧ x < 32) : Byt (D.map let32) := by
  intro y hy
  obtain ⟨x, hx, rfl⟩ := List.mem_map.1 hy
  have hx' := h x hx
  obtain ⟨_, f2, f3, _, _⟩ := tab32_fact x.toNat (by omega)
  unfold let32
  exact ⟨f2, by omega⟩
end Go.Proofs.YtflafpklphgbpaaGreatDoor
namespace Go.Proofs.YtflafpklphgbpaaGreatDoor
open Go Go.RowKit
set_option linter.unusedVariables false
set_option linter.unusedSimpArgs false
set_option maxRecDepth 100000

theorem rune_calls {w : World} {x : Int} {r : List Int} (hb : Byt (x :: r)) (hl : r.length ≤ 1099511627776) (h1 : x < 128) :
    Calls Tryz.prog 43 #[.string (strOfNums (x :: r))] w fun e w' => e = .returned (.tuple #[.int .i32 x, .int .i64 1]) ∧ w' = w := by
  have hs := strOfNums_size (x :: r)
  simp only [List.length_cons] at hs
  have h0 := (hb x (by simp)).1
  have hg : ∀ h : 0 < (strOfNums (x :: r)).size, (((strOfNums (x :: r))[0]'h).toNat : Int) = x := fun h => by have := strOfNums_get 0 (by simp) hb h; simpa using this
  generalize strOfNums (x :: r) = S at *
  have hs1 : 0 < S.size := by omega
  have hs2 : (0 : Int) < (S.size : Int) := by omega
  have hne : S ≠ ⟨#[]⟩ := fun h => by rw [h] at hs1; exact absurd hs1 (by decide)
  have hnt : ¬ S.toList = [] := fun h => by
    have h2 := congrArg List.length h
    rw [Lib.toList_data] at h2
    have h3 : S.size = 0 := by
      cases S with
      | mk d => simp at h2; rw [h2]; rfl
    omega
  have hnd : S.toList.isEmpty = false := by simpa using hnt
  clear hb
  go_enter Tryz.func43, Tryz.ntmps43
  go_wp2
  go_ret2
  exact ⟨rfl, rfl⟩
set_option maxHeartbeats 8000000 in
/-- A text of base 32 behind its sign. -/
theorem mbDecode_calls {w : World} {D : List Int} (hD : ∀ x ∈ D, 0 ≤ x ∧ x < 32) (h1 : 1 ≤ D.length) (hn : D.length ≤ 1000) (hT : Tl32 D.length) (hB : Byt (d32 D)) (hle : (d32 D).length ≤ D.length) :
    Calls Tryz.prog 36 #[.string (strOfNums (98 :: D.map let32))] w
      fun e w' => ∃ A c, e = .returned (.tuple #[.int .i64 98, .slice A (d32 D).length c, Value.nilIface]) ∧ Rd w' A (d32 D).length c (d32 D) ∧ Kp no w w' := by
  have hbl := let32_byt hD
  have hbt : Byt (98 :: D.map let32) := fun y hy => by
    rcases List.mem_cons.1 hy with rfl | hy
    · omega
    · exact hbl y hy
  have DR := Lib.hid (rune_calls (w := w) hbt (by simp; omega) (by omega))
  have ht := str_tail (x := 98) (r := D.map let32)
  have hs := strOfNums_size (98 :: D.map let32)
  simp only [List.length_cons, List.length_map] at hs
  have DS := Lib.hid (fun (W : World) gE C (hb : Blk W gE C 151) (hC : EncC C (strOfNums std32) (tabCI std32 32) (-1)) => b32string_calls (w := W) (let32_of hD) hbl hb hC h1 hn hT hB hle)
  generalize strOfNums (98 :: D.map let32) = S at *
  rw [← ht] at DS
  obtain ⟨m, hm⟩ : ∃ m, m = (d32 D).length := ⟨_, rfl⟩
  rw [← hm] at DS ⊢
  have hs1 : (1 : Int) ≤ (S.size : Int) := by omega
  have hs2 : 1 ≤ S.size := by omega
  have hs3 : ((S.size : Int) == 0) = false := beq_eq_false_iff_ne.2 (by omega)
  have hs4 : S.size ≤ 2000 := by omega
  have DN := fun (W : World) => Lib.hid (rawStd_calls (w := W))
  clear hD h1 hn hT hB hle hbl hbt ht hs hm
  go_enter Tryz.func36, Tryz.ntmps36
  go_wp2_with (first | (go_at_call 43; refine DR.out.mono ?_; rintro e w1 ⟨rfl, rfl⟩))
  go_region_with (first
    | (go_at_call 47; refine (DS.out _ gE C hb hC).mono ?_; rintro e w3 ⟨A, c, rfl, R3, k3⟩)
    | (go_at_call 46; refine (DN _).out.mono ?_; rintro e w2 ⟨gE, C, rfl, hg, hb, hC, k2⟩))
  all_goals
    go_wp2
    go_ret3
    exact ⟨A, c, rfl, R3, ((Kp.refl _ _).drew.then k2).then k3⟩
end Go.Proofs.YtflafpklphgbpaaGreatDoor
namespace Go.Proofs.YtflafpklphgbpaaGreatDoor
open Go Go.RowKit
set_option linter.unusedVariables false
set_option linter.unusedSimpArgs false
set_option maxRecDepth 100000

theorem cut_ne {r : List Int} (hb : Byt (98 :: r)) (h1 : 1 ≤ r.length) : (((strOfNums (98 :: r)).extract 0 2).toList == ([81, 109] : List UInt8)) = false := by
  have h := strOfNums_beq (a := (98 :: r).take 2) (b := [81, 109]) (hb.take 2) (fun x hx => by simp at hx; omega)
  rw [← str_take (98 :: r) 2 (by simp; omega), show (strOfNums [81, 109]).toList = [81, 109] from by rw [Lib.toList_data, strOfNums_data]; rfl] at h
  rw [h]
  exact decide_eq_false (fun h => by
    cases r with
    | nil => simp at h1
    | cons a r => simp at h)

set_option maxHeartbeats 8000000 in
/-- .. where the bytes are no CID. -/
theorem cidDec_bad {w : World} {D : List Int} (hD : ∀ x ∈ D, 0 ≤ x ∧ x < 32) (h1 : 1 ≤ D.length) (hn : D.length ≤ 1000) (hT : Tl32 D.length) (hB : Byt (d32 D)) (hle : (d32 D).length ≤ D.length)
    (hC : ∀ W A' c', Kp no w W → Rd W A' (d32 D).length c' (d32 D) → Calls Tryz.prog 58 #[.slice A' (d32 D).length c'] W (CidBad W)) :
    Calls Tryz.prog 25 #[.string (strOfNums (98 :: D.map let32))] w fun e w' => ∃ t x, e = .returned (.tuple #[.agg #[.string ⟨#[]⟩], .iface t x]) ∧ Kp no w w' := by
  have ka : Kp no w (w.alloc (.cells #[.string ⟨#[]⟩] 57)) := (Kp.refl _ _).alloc _
  have B0 := Blk.new w #[.string ⟨#[]⟩] 57
  have D1 := Lib.hid (mbDecode_calls (w := w.alloc (.cells #[.string ⟨#[]⟩] 57)) hD h1 hn hT hB hle)
  have D2 := Lib.hid (fun w1 A1 c1 (k : Kp no (w.alloc (.cells #[.string ⟨#[]⟩] 57)) w1) (R : Rd w1 A1 (d32 D).length c1 (d32 D)) => cidCast_bad (w := w1) (fun W k' => hC W A1 c1 ((ka.then k).then k') (R.keepN k')))
  have hbl := let32_byt hD
  have hbt : Byt (98 :: D.map let32) := fun y hy => by
    rcases List.mem_cons.1 hy with rfl | hy
    · omega
    · exact hbl y hy
  have hne := cut_ne hbt (by simpa using h1)
  have hs := strOfNums_size (98 :: D.map let32)
  simp only [List.length_cons, List.length_map] at hs
  generalize strOfNums (98 :: D.map let32) = S at *
  obtain ⟨m, hm⟩ : ∃ m, m = (d32 D).length := ⟨_, rfl⟩
  rw [← hm] at D1 D2
  have hs1 : ¬ (S.size : Int) < 2 := by omega
  have hs2 : 2 ≤ S.size := by omega
  have hs3 : (2 : Int) ≤ (S.size : Int) := by omega
  clear hC hD h1 hn hT hB hle hbl hbt hm hs
  by_cases h46 : S.size = 46
  · have e46 : ((S.size : Int) == 46) = true := by rw [h46]; rfl
    go_enter Tryz.func25, Tryz.ntmps25
    go_wp2_with (first
      | (go_at_call 36; refine D1.out.mono ?_; rintro e w1 ⟨A1, c1, rfl, R1, k1⟩)
      | (go_at_call 37; refine (D2.out _ _ _ k1 R1).mono ?_; rintro e w2 ⟨t, x, rfl, k2⟩; have K2 := (ka.then k1).then k2; have B2 := B0.keepN (k1.then k2); have f2 := B2.free 0; have z2 := B2.cell 0))
    (try simp only [Exit.inBlock, Exit.then]); refine bodyPost_ret (results_cellrow_tmp1 rfl _ _ w.heap.size 57 #[.string ⟨#[]⟩] _ rfl (B2.set 0 (.string ⟨#[]⟩)) Tryz.underlying57 rfl infoC) rfl ?_
    exact ⟨_, _, rfl, K2.setCell (p := ⟨w.heap.size, 0, none⟩) (fun hh => by have hh : w.heap.size < w.heap.size := hh; omega) _⟩
  · have e46 : ((S.size : Int) == 46) = false := beq_eq_false_iff_ne.2 (by omega)
    go_enter Tryz.func25, Tryz.ntmps25
    go_wp2_with (first
      | (go_at_call 36; refine D1.out.mono ?_; rintro e w1 ⟨A1, c1, rfl, R1, k1⟩)
      | (go_at_call 37; refine (D2.out _ _ _ k1 R1).mono ?_; rintro e w2 ⟨t, x, rfl, k2⟩; have K2 := (ka.then k1).then k2; have B2 := B0.keepN (k1.then k2); have f2 := B2.free 0; have z2 := B2.cell 0))
    (try simp only [Exit.inBlock, Exit.then]); refine bodyPost_ret (results_cellrow_tmp1 rfl _ _ w.heap.size 57 #[.string ⟨#[]⟩] _ rfl (B2.set 0 (.string ⟨#[]⟩)) Tryz.underlying57 rfl infoC) rfl ?_
    exact ⟨_, _, rfl, K2.setCell (p := ⟨w.heap.size, 0, none⟩) (fun hh => by have hh : w.heap.size < w.heap.size := hh; omega) _⟩
set_option maxHeartbeats 8000000 in
/-- .. where they are a CID. -/
theorem cidDec_good {w : World} {D : List Int} {Sx : ByteArray} (hD : ∀ x ∈ D, 0 ≤ x ∧ x < 32) (h1 : 1 ≤ D.length) (hn : D.length ≤ 1000) (hT : Tl32 D.length) (hB : Byt (d32 D)) (hle : (d32 D).length ≤ D.length)
    (hC : ∀ W A' c', Kp no w W → Rd W A' (d32 D).length c' (d32 D) → Calls Tryz.prog 58 #[.slice A' (d32 D).length c'] W fun e w' => e = .returned (.tuple #[.int .i64 ((d32 D).length : Nat), .agg #[.string Sx], Value.nilIface]) ∧ Kp no W w') :
    Calls Tryz.prog 25 #[.string (strOfNums (98 :: D.map let32))] w fun e w' => e = .returned (.tuple #[.agg #[.string Sx], Value.nilIface]) ∧ Kp no w w' := by
  have ka : Kp no w (w.alloc (.cells #[.string ⟨#[]⟩] 57)) := (Kp.refl _ _).alloc _
  have B0 := Blk.new w #[.string ⟨#[]⟩] 57
  have D1 := Lib.hid (mbDecode_calls (w := w.alloc (.cells #[.string ⟨#[]⟩] 57)) hD h1 hn hT hB hle)
  have D2 := Lib.hid (fun w1 A1 c1 (k : Kp no (w.alloc (.cells #[.string ⟨#[]⟩] 57)) w1) (R : Rd w1 A1 (d32 D).length c1 (d32 D)) => cidCast_good (w := w1) (fun W k' => hC W A1 c1 ((ka.then k).then k') (R.keepN k')))
  have hbl := let32_byt hD
  have hbt : Byt (98 :: D.map let32) := fun y hy => by
    rcases List.mem_cons.1 hy with rfl | hy
    · omega
    · exact hbl y hy
  have hne := cut_ne hbt (by simpa using h1)
  have hs := strOfNums_size (98 :: D.map let32)
  simp only [List.length_cons, List.length_map] at hs
  generalize strOfNums (98 :: D.map let32) = S at *
  obtain ⟨m, hm⟩ : ∃ m, m = (d32 D).length := ⟨_, rfl⟩
  rw [← hm] at D1 D2
  have hs1 : ¬ (S.size : Int) < 2 := by omega
  have hs2 : 2 ≤ S.size := by omega
  have hs3 : (2 : Int) ≤ (S.size : Int) := by omega
  clear hC hD h1 hn hT hB hle hbl hbt hm hs
  by_cases h46 : S.size = 46
  · have e46 : ((S.size : Int) == 46) = true := by rw [h46]; rfl
    go_enter Tryz.func25, Tryz.ntmps25
    go_wp2_with (first
      | (go_at_call 36; refine D1.out.mono ?_; rintro e w1 ⟨A1, c1, rfl, R1, k1⟩)
      | (go_at_call 37; refine (D2.out _ _ _ k1 R1).mono ?_; rintro e w2 ⟨rfl, k2⟩; have K2 := (ka.then k1).then k2; have B2 := B0.keepN (k1.then k2); have f2 := B2.free 0; have z2 := B2.cell 0))
    (try simp only [Exit.inBlock, Exit.then]); refine bodyPost_ret (results_cellrow_tmp1 rfl _ _ w.heap.size 57 #[.string Sx] _ rfl (B2.set 0 (.string Sx)) Tryz.underlying57 rfl infoC) rfl ?_
    exact ⟨rfl, K2.setCell (p := ⟨w.heap.size, 0, none⟩) (fun hh => by have hh : w.heap.size < w.heap.size := hh; omega) _⟩
  · have e46 : ((S.size : Int) == 46) = false := beq_eq_false_iff_ne.2 (by omega)
    go_enter Tryz.func25, Tryz.ntmps25
    go_wp2_with (first
      | (go_at_call 36; refine D1.out.mono ?_; rintro e w1 ⟨A1, c1, rfl, R1, k1⟩)
      | (go_at_call 37; refine (D2.out _ _ _ k1 R1).mono ?_; rintro e w2 ⟨rfl, k2⟩; have K2 := (ka.then k1).then k2; have B2 := B0.keepN (k1.then k2); have f2 := B2.free 0; have z2 := B2.cell 0))
    (try simp only [Exit.inBlock, Exit.then]); refine bodyPost_ret (results_cellrow_tmp1 rfl _ _ w.heap.size 57 #[.string Sx] _ rfl (B2.set 0 (.string Sx)) Tryz.underlying57 rfl infoC) rfl ?_
    exact ⟨rfl, K2.setCell (p := ⟨w.heap.size, 0, none⟩) (fun hh => by have hh : w.heap.size < w.heap.size := hh; omega) _⟩
end Go.Proofs.YtflafpklphgbpaaGreatDoor
namespace Go.Proofs.YtflafpklphgbpaaGreatDoor
open Go Go.RowKit
set_option linter.unusedVariables false
set_option linter.unusedSimpArgs false
set_option maxRecDepth 100000

/-- What stands ahead of gocid.Decode: neither of the two heads. -/
theorem heads_no {r : List Int} : decide ((98 :: r).take ([81, 109] : List Int).length = [81, 109]) = false ∧ decide ((98 :: r).take ([49] : List Int).length = [49]) = false :=
  ⟨decide_eq_false (fun h => by simp at h), decide_eq_false (fun h => by simp at h)⟩
theorem peerDecB_bad {w : World} {r : List Int} (hB : Byt (98 :: r)) (hn : r.length ≤ 2000)
    (hC : ∀ W, Kp no w W → Calls Tryz.prog 25 #[.string (strOfNums (98 :: r))] W fun e w' => ∃ t x, e = .returned (.tuple #[.agg #[.string ⟨#[]⟩], .iface t x]) ∧ Kp no W w') :
    Calls Tryz.prog 12 #[.string (strOfNums (98 :: r))] w (IdOr w (fun _ => False)) := by
  have E1 := Lib.hid (hasPre_calls (w := w) (98 :: r) [81, 109] hB (fun x hx => by simp at hx; omega) (by simp; omega) (by simp) heads_no.1)
  have E2 := Lib.hid (hasPre_calls (w := w) (98 :: r) [49] hB (fun x hx => by simp at hx; omega) (by simp; omega) (by simp) heads_no.2)
  have E3 := Lib.hid (hC w (Kp.refl _ _))
  have E4 := fun W s => Lib.hid (errNewX (w := W) s)
  rw [show strOfNums [81, 109] = ⟨#[81, 109]⟩ from rfl] at E1
  rw [show strOfNums [49] = ⟨#[49]⟩ from rfl] at E2
  generalize strOfNums (98 :: r) = s at *
  clear hB hn hC
  go_enter Tryz.func12, Tryz.ntmps12
  go_wp2_with (fail)
  refine E1.out.mono ?_
  rintro e w3 ⟨rfl, rfl⟩
  go_wp2_with (fail)
  refine E2.out.mono ?_
  rintro e w3 ⟨rfl, rfl⟩
  go_wp2_with (fail)
  refine E3.out.mono ?_
  rintro e w4 ⟨t, x, rfl, k4⟩
  go_wp2_with (first | (go_at_call 24; refine (E4 _ _).out.mono ?_; rintro e w5 ⟨t5, x5, rfl, k5⟩))
  go_ret2
  exact ⟨(k4.alloc _).then k5, .inr ⟨t5, x5, rfl⟩⟩
theorem peerDecB_other {w : World} {r : List Int} {Sx : ByteArray} (hB : Byt (98 :: r)) (hn : r.length ≤ 2000)
    (hC : ∀ W, Kp no w W → Calls Tryz.prog 25 #[.string (strOfNums (98 :: r))] W fun e w' => e = .returned (.tuple #[.agg #[.string Sx], Value.nilIface]) ∧ Kp no W w')
    (hF : ∀ W, Calls Tryz.prog 26 #[.agg #[.string Sx]] W fun e w' => ∃ t x, e = .returned (.tuple #[.string ⟨#[]⟩, .iface t x]) ∧ Kp no W w') :
    Calls Tryz.prog 12 #[.string (strOfNums (98 :: r))] w (IdOr w (fun _ => False)) := by
  have E1 := Lib.hid (hasPre_calls (w := w) (98 :: r) [81, 109] hB (fun x hx => by simp at hx; omega) (by simp; omega) (by simp) heads_no.1)
  have E2 := Lib.hid (hasPre_calls (w := w) (98 :: r) [49] hB (fun x hx => by simp at hx; omega) (by simp; omega) (by simp) heads_no.2)
  have E3 := Lib.hid (hC w (Kp.refl _ _))
  have E4 := Lib.hid hF
  rw [show strOfNums [81, 109] = ⟨#[81, 109]⟩ from rfl] at E1
  rw [show strOfNums [49] = ⟨#[49]⟩ from rfl] at E2
  generalize strOfNums (98 :: r) = s at *
  clear hB hn hC hF
  go_enter Tryz.func12, Tryz.ntmps12
  go_wp2_with (fail)
  refine E1.out.mono ?_
  rintro e w3 ⟨rfl, rfl⟩
  go_wp2_with (fail)
  refine E2.out.mono ?_
  rintro e w3 ⟨rfl, rfl⟩
  go_wp2_with (fail)
  refine E3.out.mono ?_
  rintro e w4 ⟨rfl, k4⟩
  have B4 := Blk.new w4 #[.string Sx] 57
  have c4 := B4.cell 0
  go_wp2_with (first | (go_at_call 26; refine (E4.out _).mono ?_; rintro e w5 ⟨t5, x5, rfl, k5⟩))
  go_ret2
  exact ⟨(k4.alloc _).then k5, .inr ⟨t5, x5, rfl⟩⟩
end Go.Proofs.YtflafpklphgbpaaGreatDoor
namespace Go.Proofs.YtflafpklphgbpaaGreatDoor
open Go Go.RowKit
set_option linter.unusedVariables false
set_option linter.unusedSimpArgs false
set_option maxRecDepth 100000

theorem str_drop (l : List Int) (k : Nat) : (strOfNums l).extract k (strOfNums l).size = strOfNums (l.drop k) := by
  apply ByteArray.ext
  apply Array.toList_inj.1
  rw [ByteArray.data_extract, Array.toList_extract, strOfNums_data, strOfNums_data, strOfNums_size]
  simp [List.extract]
  exact List.take_of_length_le (by simp)
theorem str_cat (a b : List Int) : strOfNums a ++ strOfNums b = strOfNums (a ++ b) := by
  apply ByteArray.ext
  apply Array.toList_inj.1
  simp [ByteArray.data_append, strOfNums_data]
theorem bad_cut : ∀ i : Nat, i < 6 → (⟨#[48, 79, 73, 108, 43, 47]⟩ : ByteArray).extract i (i + 1) = strOfNums [bads.getD i 0] := by
  intro i hi
  rw [show (⟨#[48, 79, 73, 108, 43, 47]⟩ : ByteArray) = strOfNums bads from rfl]
  apply ByteArray.ext
  apply Array.toList_inj.1
  rw [ByteArray.data_extract, Array.toList_extract, strOfNums_data, strOfNums_data]
  match i, hi with
  | 0, _ => rfl
  | 1, _ => rfl
  | 2, _ => rfl
  | 3, _ => rfl
  | 4, _ => rfl
  | 5, _ => rfl
theorem bad_noDig (i : Nat) (hi : i < 6) : NoDig (bads.getD i 0) := by
  have h : ∀ i : Nat, i < 6 → 0 ≤ bads.getD i 0 ∧ bads.getD i 0 < 128 := by decide
  exact ⟨(h i hi).1, (h i hi).2, tab58_bad i hi⟩
theorem Beg.of_take {T U : List Int} (h : Beg T) {k : Nat} (hk : 2 ≤ k) : Beg (T.take k ++ U) := by
  rcases h.take hk with ⟨r, hr⟩ | ⟨r, hr⟩
  · exact .inl ⟨r ++ U, by rw [hr]; rfl⟩
  · exact .inr ⟨r ++ U, by rw [hr]; rfl⟩
/-- A text with a sign that base 58 does not have. -/
theorem decode_wrong {w : World} {l : List Int} (hb : Byt l) (hn : l.length ≤ 100) (hg : Beg (text58 l)) {j : Nat} (h2 : 2 ≤ j) (hj : j < (text58 l).length) {b : Int} (hN : NoDig b) (hQ : QErrs w) :
    Calls Tryz.prog 6 #[.string (strOfNums ((text58 l).take j ++ b :: (text58 l).drop (j + 1)))] w (BytOr w (fun _ => False)) := by
  have ht := text58_tdig l
  have hl := tdig_len hb hn
  have htl : (text58 l).length = (tdig l).length := by rw [ht]; simp
  have hR : Asc (b :: (text58 l).drop (j + 1)) := fun x hx => by
    rcases List.mem_cons.1 hx with rfl | hx
    · exact ⟨hN.1, hN.2.1⟩
    · have := List.mem_of_mem_drop hx
      rw [ht] at this
      exact signs_asc (tdig_ok hb) x this
  have hT : Txt ((tdig l).take j) (b :: (text58 l).drop (j + 1)) := ⟨(tdig_ok hb).take j, hR, fun c r h => by injection h with h1 h2; subst h1; exact hN⟩
  have e : (text58 l).take j = ((tdig l).take j).map sign := by rw [ht, List.map_take]
  have hB : Byt ((text58 l).take j ++ b :: (text58 l).drop (j + 1)) := by
    rw [e]; intro x hx; have := hT.asc x hx; omega
  refine pdecode_of (peerDec58 hB (hg.of_take h2) (by simp; omega) _ (fun W k => ?_))
  have h := from58_no (w := W) hT (by simp) (by rw [← e]; simp; omega) (hQ.keepN k)
  rw [e]
  refine h.mono ?_
  rintro e w' ⟨⟨A, n, c, t, x, he⟩, hk⟩
  exact ⟨hk, .inr ⟨A, n, c, t, x, he⟩⟩

/-- The digits of a few bytes. -/
theorem dg_facts {x : List Int} (hb : Byt x) (h1 : 1 ≤ x.length) (hn : x.length ≤ 100) :
    (∀ y ∈ dgs 5 x, 0 ≤ y ∧ y < 32) ∧ 1 ≤ (dgs 5 x).length ∧ (dgs 5 x).length ≤ 1000 ∧ Tl32 (dgs 5 x).length ∧ Byt (d32 (dgs 5 x)) ∧ (d32 (dgs 5 x)).length ≤ (dgs 5 x).length ∧ d32 (dgs 5 x) = x := by
  have h := dgs5_tail x hb
  have e := d32_dgs x hb
  exact ⟨fun y hy => by have := dgs_rng 5 x y hy; omega, by omega, by omega, h.1, by rw [e]; exact hb, by rw [e]; omega, e⟩
theorem byt98 {x : List Int} (hb : Byt x) (h1 : 1 ≤ x.length) (hn : x.length ≤ 100) : Byt (98 :: (dgs 5 x).map let32) := fun y hy => by
  rcases List.mem_cons.1 hy with rfl | hy
  · omega
  · exact let32_byt (dg_facts hb h1 hn).1 y hy
/-- A CID that is torn. -/
theorem decode_torn {w : World} {x : List Int} (hb : Byt x) (h1 : 1 ≤ x.length) (hn : x.length ≤ 100) (hx : x = [] ∨ x = [1] ∨ ∃ p, x = 1 :: 114 :: p ∧ MH p = none) (hE : MErrs w) :
    Calls Tryz.prog 6 #[.string (strOfNums (98 :: (dgs 5 x).map let32))] w (BytOr w (fun _ => False)) := by
  obtain ⟨f1, f2, f3, f4, f5, f6, f7⟩ := dg_facts hb h1 hn
  refine pdecode_of (peerDecB_bad (byt98 hb h1 hn) (by simp; omega) (fun W k => cidDec_bad f1 f2 f3 f4 f5 f6 (fun W' A' c' k' r => ?_)))
  rw [f7] at r ⊢
  exact cidFrom_torn hx (hE.keepN k) (by omega) W' A' c' k' r
/-- A CID of another codec. -/
theorem decode_codec {w : World} {y : Int} {p : List Int} (hb : Byt (1 :: y :: p)) (hn : p.length ≤ 90) (hy : y ≠ 114) (y0 : 0 ≤ y) (y1 : y < 128) (hm : IsMH p) (hp : 1 ≤ p.length) (hE : MErrs w) :
    Calls Tryz.prog 6 #[.string (strOfNums (98 :: (dgs 5 (1 :: y :: p)).map let32))] w (BytOr w (fun _ => False)) := by
  obtain ⟨f1, f2, f3, f4, f5, f6, f7⟩ := dg_facts hb (by simp) (by simp; omega)
  refine pdecode_of (peerDecB_other (Sx := strOfNums (1 :: y :: p)) (byt98 hb (by simp) (by simp; omega)) (by simp; omega) (fun W k => cidDec_good f1 f2 f3 f4 f5 f6 (fun W' A' c' k' r => ?_)) (fun W => fromCid_other hy (fun W' => type1_calls hb (by omega) y1)))
  rw [f7] at r ⊢
  exact cidFrom_good r ((hE.keepN k).keepN k') (by simp; omega) y0 y1 hm hp
end Go.Proofs.YtflafpklphgbpaaGreatDoor
