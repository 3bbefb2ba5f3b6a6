/- spec.PeerBase32. base32's encodings: the table of digits, for small and great letters alike. base32.NewEncodingCI, WithPadding, RawStdEncoding. -/
import Derived.Test.YtflafpklphgbpaaGreatDoorB32R
import Derived.Test.YtflafpklphgbpaaGreatDoorB58S
import Derived.Test.YtflafpklphgbpaaGreatDoorPlA
import Derived.Test.YtflafpklphgbpaaGreatDoorQTail
import Derived.Deep.Cut
import Derived.Deep.CutRange
import Derived.Deep.CutBlock
import Derived.Deep.MidRow
import Derived.Test.YtflafpklphgbpaaGreatDoorMade
namespace Go.Proofs.YtflafpklphgbpaaGreatDoor
open Go Go.RowKit
set_option linter.unusedVariables false
set_option linter.unusedSimpArgs false
set_option maxRecDepth 100000

/-- The small letters of base 32. -/
def al32 : List Int := [97, 98, 99, 100, 101, 102, 103, 104, 105, 106, 107, 108, 109, 110, 111, 112, 113, 114, 115, 116, 117, 118, 119, 120, 121, 122, 50, 51, 52, 53, 54, 55]
def let32 (d : Int) : Int := al32.getD d.toNat 0
theorem let32_asc (D : List Int) (h : ∀ d ∈ D, 0 ≤ d ∧ d < 32) : Asc (D.map let32) := fun x hx => by
  obtain ⟨d, hd, rfl⟩ := List.mem_map.1 hx
  have hh : ∀ i : Nat, i < 32 → 0 ≤ al32.getD i 0 ∧ al32.getD i 0 < 128 := by decide
  have := h d hd
  exact hh d.toNat (by omega)
theorem sub32 (d : Int) (h0 : 0 ≤ d) (h1 : d < 32) : ∀ W : World, (Instr.slice 9 (.string ⟨#[97, 98, 99, 100, 101, 102, 103, 104, 105, 106, 107, 108, 109, 110, 111, 112, 113, 114, 115, 116, 117, 118, 119, 120, 121, 122, 50, 51, 52, 53, 54, 55]⟩) (some (.int .i64 d)) (some (.int .i64 (d + 1))) none).run Tryz.prog W = .ok (.string ⟨#[UInt8.ofNat (let32 d).toNat]⟩) W := by
  intro W
  rw [run_slice_string W 9 _ .i64 .i64 d (d + 1) Tryz.underlying9 h0 (by omega) (by show d + 1 ≤ 32; omega)]
  have h : ∀ i : Nat, i < 32 → (⟨#[97, 98, 99, 100, 101, 102, 103, 104, 105, 106, 107, 108, 109, 110, 111, 112, 113, 114, 115, 116, 117, 118, 119, 120, 121, 122, 50, 51, 52, 53, 54, 55]⟩ : ByteArray).extract i (i + 1) = ⟨#[UInt8.ofNat (al32.getD i 0).toNat]⟩ := by decide
  have := h d.toNat (by omega)
  rw [show (d + 1).toNat = d.toNat + 1 from by omega, this]
  rfl
theorem i64_and_nat (a b : Nat) (ha : a < 9223372036854775808) (hb : b < 9223372036854775808) : bits .and .i64 (a : Int) (b : Int) = ((a &&& b : Nat) : Int) :=
  (bits_nat .i64 63 (by decide) (fun n h0 h1 => by rw [IntKind.wrap_i64]; omega) a b ha hb).1
theorem i64_mask (x : Int) (b : Nat) (h0 : 0 ≤ x) (h1 : x < 9223372036854775808) (hb : b ≤ 62) : bits .and .i64 x (2 ^ b - 1) = x % 2 ^ b :=
  bits_mask .i64 63 (by decide) (fun n h0 h1 => by rw [IntKind.wrap_i64]; omega) b (by omega) x h0 h1
theorem i64_join8 (x y : Int) (h0 : 0 ≤ x) (h1 : x < 1000000) (h2 : 0 ≤ y) (h3 : y < 256) : bits .or .i64 (x * 256) y = x * 256 + y :=
  bits_join .i64 63 (by decide) (fun n h0 h1 => by rw [IntKind.wrap_i64]; omega) 8 (x * 256) y (by omega) (by omega) (by omega) h2 (by omega) (by omega)
theorem em_len (s bits : Nat) (H : Int) : (em s bits H).length = bits / s := by simp [em]
theorem em_take (s bits : Nat) (H : Int) (j : Nat) (hj : j < bits / s) : (em s bits H).take (j + 1) = (em s bits H).take j ++ [dg s (bits - s * (j + 1)) H] := by
  rw [List.take_succ_eq_append_getElem (by rw [em_len]; exact hj)]
  simp [em]
theorem pow_small {b : Nat} (h : b ≤ 12) : (1 : Int) ≤ 2 ^ b ∧ (2 : Int) ^ b ≤ 4096 := by
  have : ∀ i : Nat, i < 13 → (1 : Int) ≤ 2 ^ i ∧ (2 : Int) ^ i ≤ 4096 := by decide
  exact this b (by omega)

end Go.Proofs.YtflafpklphgbpaaGreatDoor
namespace Go.Proofs.YtflafpklphgbpaaGreatDoor
open Go Go.RowKit
set_option linter.unusedVariables false
set_option linter.unusedSimpArgs false
set_option maxRecDepth 100000

def lowA (c : Int) : Int := if 65 ≤ c ∧ c ≤ 90 then c + 32 else c
def uppA (c : Int) : Int := if 97 ≤ c ∧ c ≤ 122 then c - 32 else c
theorem lowA_rng {c : Int} (h0 : 0 ≤ c) (h1 : c < 128) : 0 ≤ lowA c ∧ lowA c < 128 := by unfold lowA; split <;> omega
theorem uppA_rng {c : Int} (h0 : 0 ≤ c) (h1 : c < 128) : 0 ≤ uppA c ∧ uppA c < 128 := by unfold uppA; split <;> omega
theorem toLower_calls {w : World} (c : Int) (h0 : 0 ≤ c) (h1 : c < 128) : Calls Tryz.prog 93 #[.int .u8 c] w fun e w' => e = .returned (.int .u8 (lowA c)) ∧ ∃ m, w' = w.drewN m := by
  by_cases ha : 65 ≤ c
  · by_cases hb : c ≤ 90
    · go_enter Tryz.func93, Tryz.ntmps93
      go_wp2
      go_ret
      exact ⟨by unfold lowA; rw [if_pos ⟨ha, hb⟩]; rfl, 0, rfl⟩
    · go_enter Tryz.func93, Tryz.ntmps93
      go_wp2
      go_ret
      exact ⟨by unfold lowA; rw [if_neg (by omega)]; rfl, 0, rfl⟩
  · have hd : decide ((65 : Int) ≤ c) = false := by simp; omega
    have hq : lowA c = c := by unfold lowA; rw [if_neg (by omega)]
    rw [hq]
    clear ha hq
    go_enter Tryz.func93, Tryz.ntmps93
    go_wp2
    go_ret
    exact ⟨rfl, 0, rfl⟩
theorem toUpper_calls {w : World} (c : Int) (h0 : 0 ≤ c) (h1 : c < 128) : Calls Tryz.prog 94 #[.int .u8 c] w fun e w' => e = .returned (.int .u8 (uppA c)) ∧ ∃ m, w' = w.drewN m := by
  by_cases ha : 97 ≤ c
  · by_cases hb : c ≤ 122
    · go_enter Tryz.func94, Tryz.ntmps94
      go_wp2
      go_ret
      exact ⟨by unfold uppA; rw [if_pos ⟨ha, hb⟩]; rfl, 0, rfl⟩
    · go_enter Tryz.func94, Tryz.ntmps94
      go_wp2
      go_ret
      exact ⟨by unfold uppA; rw [if_neg (by omega)]; rfl, 0, rfl⟩
  · have hd : decide ((97 : Int) ≤ c) = false := by simp; omega
    have hq : uppA c = c := by unfold uppA; rw [if_neg (by omega)]
    rw [hq]
    clear ha hq
    go_enter Tryz.func94, Tryz.ntmps94
    go_wp2
    go_ret
    exact ⟨rfl, 0, rfl⟩

/-- The table, as far as i letters. -/
def neg256 (i : Nat) : List Int := List.replicate i 255 ++ List.replicate (256 - i) 0
def tabCI (al : List Int) (i : Nat) : List Int := (List.range i).foldl (fun t (j : Nat) => (t.set (lowA (al.getD j 0)).toNat (j : Int)).set (uppA (al.getD j 0)).toNat (j : Int)) (List.replicate 256 255)
theorem neg256_all (al : List Int) : neg256 256 = tabCI al 0 := by simp [neg256, tabCI]
theorem neg256_set {i : Nat} (h : i < 256) : (neg256 i).set i 255 = neg256 (i + 1) := by
  unfold neg256
  rw [List.set_append_right _ _ (by simp), List.length_replicate, Nat.sub_self, show 256 - i = (256 - (i + 1)) + 1 from by omega, List.replicate_succ, List.set_cons_zero, List.replicate_succ', List.append_assoc]
  rfl
theorem tabCI_succ (al : List Int) (i : Nat) : tabCI al (i + 1) = ((tabCI al i).set (lowA (al.getD i 0)).toNat (i : Int)).set (uppA (al.getD i 0)).toNat (i : Int) := by
  unfold tabCI; rw [List.range_succ, List.foldl_append]; rfl
/-- The encoding's cells: its letters, the table, the padding. -/
structure EncC (C : Array Value) (s : ByteArray) (T : List Int) (pd : Int) : Prop where
  size : C.size = 258
  str : C[0]? = some (.string s)
  len : T.length = 256
  tab : ∀ k : Nat, k < 256 → C[1 + k]? = some (.int .u8 (T.getD k 0))
  pad : C[257]? = some (.int .i32 pd)
theorem EncC.set {C : Array Value} {s : ByteArray} {T : List Int} {pd : Int} (h : EncC C s T pd) (j : Nat) (hj : j < 256) (v : Int) : EncC (C.setIfInBounds (1 + j) (.int .u8 v)) s (T.set j v) pd :=
  ⟨by simpa using h.size, by rw [Array.getElem?_setIfInBounds, if_neg (by omega)]; exact h.str, by simpa using h.len, fun k hk => by
    rw [Array.getElem?_setIfInBounds, List.getD_eq_getElem?_getD, List.getElem?_set]
    by_cases e : j = k
    · subst e
      rw [if_pos rfl, if_pos rfl, if_pos (by rw [h.size]; omega), if_pos (by rw [h.len]; omega)]; rfl
    · rw [if_neg (by omega), if_neg e, ← List.getD_eq_getElem?_getD]; exact h.tab k hk, by rw [Array.getElem?_setIfInBounds, if_neg (by omega)]; exact h.pad⟩
theorem EncC.first {Z : Array Value} (hz : Z.size = 258) (h2 : (Z.toList.drop 1).take 256 = List.replicate 256 (.int .u8 0)) (s : ByteArray) : EncC ((Z.setIfInBounds 257 (.int .i32 61)).setIfInBounds 0 (.string s)) s (neg256 0) 61 :=
  ⟨by simpa using hz, by rw [Array.getElem?_setIfInBounds, if_pos rfl, if_pos (by simp [hz])], by simp [neg256], fun k hk => by
    rw [Array.getElem?_setIfInBounds, if_neg (by omega), Array.getElem?_setIfInBounds, if_neg (by omega)]
    have h3 : ((Z.toList.drop 1).take 256)[k]? = some (.int .u8 0) := by rw [h2, List.getElem?_replicate, if_pos hk]
    rw [List.getElem?_take, if_pos hk, List.getElem?_drop] at h3
    rw [show neg256 0 = List.replicate 256 0 from by simp [neg256], List.getD_eq_getElem?_getD, List.getElem?_replicate, if_pos hk]
    simpa using h3, by rw [Array.getElem?_setIfInBounds, if_neg (by omega), Array.getElem?_setIfInBounds, if_pos rfl, if_pos (by omega)]⟩
theorem EncC.pads {C : Array Value} {s : ByteArray} {T : List Int} {pd : Int} (h : EncC C s T pd) (v : Int) : EncC (C.setIfInBounds 257 (.int .i32 v)) s T v :=
  ⟨by simpa using h.size, by rw [Array.getElem?_setIfInBounds, if_neg (by omega)]; exact h.str, h.len, fun k hk => by rw [Array.getElem?_setIfInBounds, if_neg (by omega)]; exact h.tab k hk, by rw [Array.getElem?_setIfInBounds, if_pos rfl, if_pos (by rw [h.size]; omega)]⟩
theorem idx_str {al : List Int} (ha : Asc al) {t : TypeId} (ht : Tryz.prog.underlying t = some .string) (i : Nat) (hi : i < al.length) : ∀ W : World, (Instr.index t (.string (strOfNums al)) (.int .i64 i)).run Tryz.prog W = .ok (.int .u8 (al.getD i 0)) W := by
  intro W
  have hs := strOfNums_size al
  have hat := str_at ha i (by omega)
  have hx := ha.getD i
  rw [run_index_string W t (strOfNums al) .i64 i ht, dif_pos ⟨by omega, by omega⟩]
  simp only [Int.toNat_natCast, hat]
  rw [Int.toNat_of_nonneg hx.1]
end Go.Proofs.YtflafpklphgbpaaGreatDoor
namespace Go.Proofs.YtflafpklphgbpaaGreatDoor
open Go Go.RowKit
set_option linter.unusedVariables false
set_option linter.unusedSimpArgs false
set_option maxRecDepth 100000

theorem quiet_one {P : Program} {f : FuncId} {args : Array Value} {w : World} {n : Nat} {v : Value}
    (h : Calls P f args (w.drewN n) fun e w' => e = .returned v ∧ ∃ m, w' = (w.drewN n).drewN m) : Calls P f args (w.drewN n) fun e w'' => e = .returned v ∧ ∃ m, w'' = w.drewN m :=
  h.mono fun _ _ ⟨he, m, hm⟩ => ⟨he, n + m, by rw [hm, World.drewN_drewN]⟩

/-- A new encoding. -/
def EncAt (w : World) (s : ByteArray) (T : List Int) (pd : Int) (e : Ending) (w' : World) : Prop := ∃ g C, e = .returned (.pointer (some ⟨g, 0, none⟩)) ∧ w.heap.size ≤ g ∧ Blk w' g C 151 ∧ EncC C s T pd ∧ Kp no w w'
set_option maxHeartbeats 8000000 in
theorem newCI_calls {w : World} (al : List Int) (hl : al.length = 32) (ha : Asc al) :
    Calls Tryz.prog 71 #[.string (strOfNums al)] w
      (EncAt w (strOfNums al) (tabCI al 32) 61) := by
  have hix := fun i (hi : i < 32) => idx_str ha Tryz.und_string i (by omega)
  have hs : (strOfNums al).size = 32 := by rw [strOfNums_size, hl]
  have HA := Lib.hid ha
  have HIX := Lib.hid hix
  have hss : (strOfNums al).size ≤ 32 := by omega
  have HS := Lib.hid hs
  have hz : Tryz.zeroCells151.size = 258 := by kernel_rfl
  have hz2 : (Tryz.zeroCells151.toList.drop 1).take 256 = List.replicate 256 (.int .u8 0) := by kernel_rfl
  have HE := Lib.hid (EncC.first hz hz2 (strOfNums al))
  generalize strOfNums al = s at *
  clear hix hs ha hl hz hz2
  have B0 := Blk.new w ((Tryz.zeroCells151.setIfInBounds 257 (.int .i32 61)).setIfInBounds 0 (.string s)) 151
  have k0 : Kp no w (w.alloc (.cells ((Tryz.zeroCells151.setIfInBounds 257 (.int .i32 61)).setIfInBounds 0 (.string s)) 151)) := (Kp.refl _ _).alloc _
  go_enter Tryz.func71, Tryz.ntmps71
  go_upto_block 0 with (fail)
  generalize (Tryz.zeroCells151.setIfInBounds 257 (.int .i32 61)).setIfInBounds 0 (.string s) = Z at *
  go_cut [] from 14 to 22 (fun wx => ∃ C, Blk wx w.heap.size C 151 ∧ Hid (EncC C s (tabCI al 0) 61) ∧ Kp no w wx)
  case first =>
    go_wp2
    go_loopw [4] (fun iv wr => ∃ (i : Nat) (C : Array Value), i ≤ 256 ∧ iv = .int .i64 i ∧ Blk wr w.heap.size C 151 ∧ Hid (EncC C s (neg256 i) 61) ∧ Kp no w wr) (fun iv _ => 256 - (intOf iv).toNat)
    case atStart => exact ⟨0, Z, Nat.zero_le _, rfl, B0, HE, k0⟩
    case round =>
      obtain ⟨i, C, hi, rfl, hb, HC, k⟩ := hrel
      by_cases hlt : i < 256
      · have c0 := hb.cell (1 + i)
        rw [HC.out.tab i hlt] at c0
        have f0 := hb.free (1 + i)
        generalize (neg256 i).getD i 0 = v0 at *
        go_wp2
        go_roundw
        case rel => exact ⟨i + 1, _, by omega, by go_num, hb.set (1 + i) _, Lib.hid (by rw [← neg256_set hlt]; exact HC.out.set i hlt 255), k.setCell (p := ⟨w.heap.size, 1 + i, none⟩) (fun h => by simp at h) _⟩
        case measure => simp [intOf]; omega
      · obtain rfl : i = 256 := by omega
        go_wp2
        go_meet
        case rel => exact ⟨C, hb, Lib.hid (neg256_all al ▸ HC.out), k⟩
  case rest =>
    obtain ⟨C, hb, HC, k⟩ := hcut
    go_wp2
    go_loopw [5] (fun iv wr => ∃ (i : Nat) (C : Array Value), i ≤ 32 ∧ iv = .int .i64 i ∧ Blk wr w.heap.size C 151 ∧ Hid (EncC C s (tabCI al i) 61) ∧ Kp no w wr) (fun iv _ => 32 - (intOf iv).toNat)
    case atStart => exact ⟨0, C, Nat.zero_le _, rfl, hb, HC, k⟩
    case round =>
      obtain ⟨i, C, hi, rfl, hb, HC, k⟩ := hrel
      by_cases hlt : i < 32
      · have hai := HIX.out i hlt
        have hy := HA.out.getD i
        have HT := Lib.hid (tabCI_succ al i)
        generalize al.getD i 0 = y at *
        have hlo := lowA_rng hy.1 hy.2
        have hup := uppA_rng hy.1 hy.2
        obtain ⟨b, hbb⟩ : ∃ b : Nat, (b : Int) = lowA y := ⟨(lowA y).toNat, by omega⟩
        obtain ⟨u, huu⟩ : ∃ u : Nat, (u : Int) = uppA y := ⟨(uppA y).toNat, by omega⟩
        have E1 := fun W : World => Lib.hid (toLower_calls (w := W) y hy.1 hy.2)
        have E2 := fun W : World => Lib.hid (toUpper_calls (w := W) y hy.1 hy.2)
        rw [← hbb] at E1 hlo HT
        rw [← huu] at E2 hup HT
        have hb128 : b < 128 := by omega
        have hu128 : u < 128 := by omega
        simp only [Int.toNat_natCast] at HT
        have c0 := hb.cell (1 + b)
        rw [HC.out.tab b (by omega)] at c0
        have f0 := hb.free (1 + b)
        have HLT := Lib.hid hlt
        have hil : (i : Int) < (s.size : Int) := by have := HS.out; omega
        generalize (tabCI al i).getD b 0 = v0 at *
        clear hbb huu hlo hup hlt
        go_upto_region 11 with (fail)
        refine wp_region_quiet_tail 10 (by kernel_rfl) (by kernel_rfl) ?_
        simp only [List.take_succ_cons, List.take_zero, List.drop_succ_cons, List.drop_zero]
        repeat (go_big_quiet_step ((go_at_call 93; exact quiet_one (E1 _).out)))
        refine wpQuiet_nil ?_
        rintro _ ⟨nq, rfl⟩
        go_upto_region 12 with (fail)
        have hb2 : Blk ((wr.drewN nq).setCell ⟨w.heap.size, 1 + b, none⟩ (.int .u8 (i : Int))) w.heap.size (C.setIfInBounds (1 + b) (.int .u8 (i : Int))) 151 := (hb.keepN (Kp.byDraws _ _)).set (1 + b) _
        have HC2 := Lib.hid (HC.out.set b (by omega) (i : Int))
        have k2 : Kp no w ((wr.drewN nq).setCell ⟨w.heap.size, 1 + b, none⟩ (.int .u8 (i : Int))) := (k.then (Kp.byDraws _ _)).setCell (p := ⟨w.heap.size, 1 + b, none⟩) (fun h => by simp at h) _
        obtain ⟨W2, hW2⟩ : ∃ W2, W2 = (wr.drewN nq).setCell ⟨w.heap.size, 1 + b, none⟩ (.int .u8 (i : Int)) := ⟨_, rfl⟩
        rw [← hW2] at hb2 k2 ⊢
        have c1 := hb2.cell (1 + u)
        rw [HC2.out.tab u (by omega)] at c1
        have f1 := hb2.free (1 + u)
        generalize ((tabCI al i).set b (i : Int)).getD u 0 = v1 at *
        clear hW2 c0 f0
        refine wp_region_quiet_tail 10 (by kernel_rfl) (by kernel_rfl) ?_
        simp only [List.take_succ_cons, List.take_zero, List.drop_succ_cons, List.drop_zero]
        repeat (go_big_quiet_step ((go_at_call 94; exact quiet_one (E2 _).out)))
        refine wpQuiet_nil ?_
        rintro _ ⟨nq2, rfl⟩
        go_wp2
        go_roundw
        case rel => exact ⟨i + 1, _, by have := HLT.out; omega, by go_num, (hb2.keepN (Kp.byDraws _ nq2)).set (1 + u) _, Lib.hid (by rw [HT.out]; exact HC2.out.set u (by omega) (i : Int)), (k2.then (Kp.byDraws _ nq2)).setCell (p := ⟨w.heap.size, 1 + u, none⟩) (fun h => by simp at h) _⟩
        case measure => have := HLT.out; simp [intOf]; omega
      · obtain rfl : i = 32 := by omega
        have hil : ¬ (32 : Int) < (s.size : Int) := by have := HS.out; omega
        go_wp2
        go_ret
        exact ⟨w.heap.size, C, rfl, Nat.le_refl _, hb, HC.out, k⟩
theorem infoEnc : (Tryz.prog.info? 151).map (·.size) = some 258 := by kernel_rfl
theorem withPad_calls {w : World} {C : Array Value} {s : ByteArray} {T : List Int} {pd : Int} (h : EncC C s T pd) (v : Int) :
    Calls Tryz.prog 72 #[.agg C, .int .i32 v] w (EncAt w s T v) := by
  have B0 := Blk.new w C 151
  have k0 : Kp no w (w.alloc (.cells C 151)) := (Kp.refl _ _).alloc _
  have c0 := B0.cell 257
  rw [h.pad] at c0
  have f0 := B0.free 257
  have HE := Lib.hid (h.pads v)
  clear h
  go_enter Tryz.func72, Tryz.ntmps72
  go_wp2
  go_ret
  exact ⟨w.heap.size, _, rfl, Nat.le_refl _, Blk.new w _ _, HE.out, (Kp.refl _ _).alloc _⟩
/-- The letters of base 32. -/
def std32 : List Int := [65, 66, 67, 68, 69, 70, 71, 72, 73, 74, 75, 76, 77, 78, 79, 80, 81, 82, 83, 84, 85, 86, 87, 88, 89, 90, 50, 51, 52, 53, 54, 55]
theorem std32_asc : Asc std32 := by intro x hx; revert x; decide
theorem rawStd_calls {w : World} :
    Calls Tryz.prog 46 #[] w (EncAt w (strOfNums std32) (tabCI std32 32) (-1)) := by
  have E1 := Lib.hid (newCI_calls (w := w) std32 rfl std32_asc)
  rw [show strOfNums std32 = ⟨#[65, 66, 67, 68, 69, 70, 71, 72, 73, 74, 75, 76, 77, 78, 79, 80, 81, 82, 83, 84, 85, 86, 87, 88, 89, 90, 50, 51, 52, 53, 54, 55]⟩ from by rfl] at E1 ⊢
  generalize tabCI std32 32 = T at *
  go_enter Tryz.func46, Tryz.ntmps46
  go_wp2_with (fail)
  refine E1.out.mono ?_
  rintro e w1 ⟨g, C, rfl, hg, hb, hC, k1⟩
  have E2 := Lib.hid (withPad_calls (w := w1) hC (-1))
  have hsz := hC.size
  have HSZ := Lib.hid hsz
  have HB := Lib.hid (Blk.range (vs := C.toList) (by rw [Array.toArray_toList]; exact hb))
  clear hC hsz hb
  go_wp2_with (refine wpList_load_mid rfl 151 (.tmp 2) rfl g 0 rfl C.toList _ HB.out Tryz.underlying151 rfl (by rw [Array.length_toList, HSZ.out]; exact infoEnc) ?_)
  rw [Array.toArray_toList]
  refine E2.out.mono ?_
  rintro e w2 ⟨g2, C2, rfl, hg2, hb2, hC2, k2⟩
  have H2 := Lib.hid (show EncAt w ⟨#[65, 66, 67, 68, 69, 70, 71, 72, 73, 74, 75, 76, 77, 78, 79, 80, 81, 82, 83, 84, 85, 86, 87, 88, 89, 90, 50, 51, 52, 53, 54, 55]⟩ T (-1) (.returned (.pointer (some ⟨g2, 0, none⟩))) w2 from ⟨g2, C2, rfl, Nat.le_trans k1.size hg2, hb2, hC2, k1.then k2⟩)
  clear hC2 hb2
  go_wp2
  go_ret
  exact H2.out
end Go.Proofs.YtflafpklphgbpaaGreatDoor
