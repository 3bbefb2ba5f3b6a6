/- Base 64, plain: digits of six bits, and the bytes behind them. base64: digits assembled to a number; byteorder's BEPutUint32 and BEPutUint64. base64's encodings: NewEncoding, WithPadding, zzBase64: the tables of the digits. -/
import Derived.Test.YtflafpklphgbpaaGreatDoorB32R
import Derived.Test.YtflafpklphgbpaaGreatDoorPlA
import Derived.Test.YtflafpklphgbpaaGreatDoorShaA
import Derived.Laws.BitsLemmas
import Derived.Test.YtflafpklphgbpaaGreatDoorBiX
import Derived.Test.YtflafpklphgbpaaGreatDoorQTail
import Derived.Lib.BufferWrite
import Derived.Deep.MidRow
namespace Go.Proofs.YtflafpklphgbpaaGreatDoor
open Go
set_option linter.unusedVariables false
set_option linter.unusedSimpArgs false
set_option maxRecDepth 100000

theorem dgs6 (a b c : Int) (l : List Int) (ha : 0 ≤ a ∧ a < 256) (hb : 0 ≤ b ∧ b < 256) (hc : 0 ≤ c ∧ c < 256) :
    dgs 6 (a :: b :: c :: l) = a / 4 :: (a % 4 * 16 + b / 16) :: (b % 16 * 4 + c / 64) :: (c % 64) :: dgs 6 l := by
  simp [dgs, st, em, dg, List.range_succ]
  omega
theorem dgs6_1 (a : Int) (ha : 0 ≤ a ∧ a < 256) : dgs 6 [a] = [a / 4, a % 4 * 16] := by
  simp [dgs, st, em, dg, List.range_succ]
  omega
theorem dgs6_2 (a b : Int) (ha : 0 ≤ a ∧ a < 256) (hb : 0 ≤ b ∧ b < 256) : dgs 6 [a, b] = [a / 4, a % 4 * 16 + b / 16, b % 16 * 4] := by
  simp [dgs, st, em, dg, List.range_succ]
  omega
theorem dgs6_0 : dgs 6 [] = [] := by simp [dgs, st]
/-- Four digits as a number. -/
def quad (x0 x1 x2 x3 : Int) : Int := ((x0 * 64 + x1) * 64 + x2) * 64 + x3
def d64 : List Int → List Int
  | x0 :: x1 :: x2 :: x3 :: r => (x0 * 4 + x1 / 16) :: (x1 % 16 * 16 + x2 / 4) :: (x2 % 4 * 64 + x3) :: d64 r
  | [x0, x1, x2] => [x0 * 4 + x1 / 16, x1 % 16 * 16 + x2 / 4]
  | [x0, x1] => [x0 * 4 + x1 / 16]
  | _ => []
theorem d64_dgs : ∀ l : List Int, Byt l → d64 (dgs 6 l) = l
  | [], _ => by rw [dgs6_0]; rfl
  | [a], h => by
    have ha := h a (by simp)
    rw [dgs6_1 a ha, d64]
    congr 1; omega
  | [a, b], h => by
    have ha := h a (by simp)
    have hb := h b (by simp)
    rw [dgs6_2 a b ha hb, d64]
    congr 1
    · omega
    · congr 1; omega
  | a :: b :: c :: l, h => by
    have ha := h a (by simp)
    have hb := h b (by simp)
    have hc := h c (by simp)
    rw [dgs6 a b c l ha hb hc, d64, d64_dgs l (fun x hx => h x (by simp [hx]))]
    congr 1
    · omega
    · congr 1
      · omega
      · congr 1; omega
def Tl64 (n : Nat) : Prop := n % 4 = 0 ∨ n % 4 = 2 ∨ n % 4 = 3
theorem dgs6_len : ∀ l : List Int, Byt l → (dgs 6 l).length = (l.length * 4 + 2) / 3
  | [], _ => by rw [dgs6_0]; rfl
  | [a], h => by rw [dgs6_1 a (h a (by simp))]; simp
  | [a, b], h => by rw [dgs6_2 a b (h a (by simp)) (h b (by simp))]; simp
  | a :: b :: c :: l, h => by
    rw [dgs6 a b c l (h a (by simp)) (h b (by simp)) (h c (by simp))]
    have := dgs6_len l (fun x hx => h x (by simp [hx]))
    simp only [List.length_cons, this]
    omega
theorem dgs6_tail (l : List Int) (h : Byt l) : Tl64 (dgs 6 l).length := by
  have := dgs6_len l h
  unfold Tl64
  omega
theorem d64_len : ∀ D : List Int, Tl64 D.length → (d64 D).length = D.length / 4 * 3 + D.length % 4 * 6 / 8
  | [], _ => rfl
  | [_], h => by rcases h with h | h | h <;> simp at h
  | [_, _], _ => by simp [d64]
  | [_, _, _], _ => by simp [d64]
  | x0 :: x1 :: x2 :: x3 :: r, h => by
    have hr : Tl64 r.length := by unfold Tl64 at *; simp only [List.length_cons] at h; omega
    have := d64_len r hr
    simp only [d64, List.length_cons, this]
    omega
theorem d64_drop : ∀ (q : Nat) (D : List Int), 4 * q ≤ D.length → (d64 D).drop (3 * q) = d64 (D.drop (4 * q)) ∧ 3 * q ≤ (d64 D).length
  | 0, D, _ => ⟨rfl, Nat.zero_le _⟩
  | q + 1, D, h => by
    match D, h with
    | x0 :: x1 :: x2 :: x3 :: r, h =>
      have ih := d64_drop q r (by simp only [List.length_cons] at h; omega)
      rw [show 4 * (q + 1) = 4 * q + 4 from by omega, show 3 * (q + 1) = 3 * q + 3 from by omega]
      simp only [d64, List.drop_succ_cons, List.length_cons]
      exact ⟨ih.1, by omega⟩
    | [], h => simp at h
    | [_], h => simp at h; omega
    | [_, _], h => simp at h; omega
    | [_, _, _], h => simp at h; omega
theorem d64_get (q j : Nat) (D : List Int) (h : 4 * q ≤ D.length) : (d64 D).getD (3 * q + j) 0 = (d64 (D.drop (4 * q))).getD j 0 := by
  rw [← (d64_drop q D h).1, List.getD_eq_getElem?_getD, List.getD_eq_getElem?_getD, List.getElem?_drop]
theorem drop_four (q : Nat) (D : List Int) (h : 4 * q + 4 ≤ D.length) : D.drop (4 * q) = D.getD (4 * q) 0 :: D.getD (4 * q + 1) 0 :: D.getD (4 * q + 2) 0 :: D.getD (4 * q + 3) 0 :: D.drop (4 * q + 4) := by
  rw [List.drop_eq_getElem_cons (show 4 * q < D.length by omega), List.drop_eq_getElem_cons (show 4 * q + 1 < D.length by omega), List.drop_eq_getElem_cons (show 4 * q + 1 + 1 < D.length by omega), List.drop_eq_getElem_cons (show 4 * q + 1 + 1 + 1 < D.length by omega)]
  simp only [List.getD_eq_getElem?_getD, List.getElem?_eq_getElem (show 4 * q < D.length by omega), List.getElem?_eq_getElem (show 4 * q + 1 < D.length by omega), List.getElem?_eq_getElem (show 4 * q + 2 < D.length by omega), List.getElem?_eq_getElem (show 4 * q + 3 < D.length by omega), Option.getD_some]
/-- The row as it fills: its first 3 q bytes are there. -/
structure Row64 (D : List Int) (q : Nat) (L : List Int) : Prop where
  len : L.length = (d64 D).length
  get : ∀ i : Nat, i < 3 * q → L.getD i 0 = (d64 D).getD i 0
theorem Row64.start (D : List Int) {L : List Int} (h : L.length = (d64 D).length) : Row64 D 0 L := ⟨h, fun i hi => by omega⟩
theorem getD_set' (L : List Int) (i j : Nat) (v : Int) (hi : i < L.length) : (L.set i v).getD j 0 = if i = j then v else L.getD j 0 := by
  rw [List.getD_eq_getElem?_getD, List.getElem?_set, List.getD_eq_getElem?_getD]
  by_cases e : i = j
  · rw [if_pos e, if_pos e, if_pos hi]; rfl
  · rw [if_neg e, if_neg e]
/-- Some bytes are put behind them; what lies behind those is no matter. -/
theorem Row64.next {D L L' : List Int} {q : Nat} (h : Row64 D q L) (hq : 4 * q + 4 ≤ D.length) (hl : L'.length = L.length) (hk : ∀ i : Nat, i < 3 * q → L'.getD i 0 = L.getD i 0)
    (h0 : L'.getD (3 * q) 0 = D.getD (4 * q) 0 * 4 + D.getD (4 * q + 1) 0 / 16) (h1 : L'.getD (3 * q + 1) 0 = D.getD (4 * q + 1) 0 % 16 * 16 + D.getD (4 * q + 2) 0 / 4) (h2 : L'.getD (3 * q + 2) 0 = D.getD (4 * q + 2) 0 % 4 * 64 + D.getD (4 * q + 3) 0) :
    Row64 D (q + 1) L' := by
  refine ⟨by rw [hl, h.len], fun i hi => ?_⟩
  have hd := drop_four q D hq
  have hg := fun j => d64_get q j D (by omega)
  rw [hd] at hg
  simp only [d64] at hg
  rcases (show i < 3 * q ∨ i = 3 * q ∨ i = 3 * q + 1 ∨ i = 3 * q + 2 by omega) with hh | rfl | rfl | rfl
  · rw [hk i hh, h.get i hh]
  · rw [h0]; exact (hg 0).symm
  · rw [h1]; exact (hg 1).symm
  · rw [h2]; exact (hg 2).symm
theorem all_get {L M : List Int} (hl : L.length = M.length) (h : ∀ i : Nat, i < M.length → L.getD i 0 = M.getD i 0) : L = M := by
  apply List.ext_getElem hl
  intro i h1 h2
  have := h i h2
  rw [List.getD_eq_getElem?_getD, List.getElem?_eq_getElem h1, List.getD_eq_getElem?_getD, List.getElem?_eq_getElem h2] at this
  simpa using this
/-- The end, where no digit is left. -/
theorem Row64.done {D L : List Int} {q : Nat} (h : Row64 D q L) (hq : 4 * q = D.length) (hT : Tl64 D.length) : L = d64 D :=
  all_get h.len fun i hi => h.get i (by have := d64_len D hT; omega)
theorem Row64.two {D L L' : List Int} {q : Nat} (h : Row64 D q L) (hq : 4 * q + 2 = D.length) (hl : L'.length = L.length) (hk : ∀ i : Nat, i < 3 * q → L'.getD i 0 = L.getD i 0)
    (h0 : L'.getD (3 * q) 0 = D.getD (4 * q) 0 * 4 + D.getD (4 * q + 1) 0 / 16) : L' = d64 D := by
  have hd : D.drop (4 * q) = [D.getD (4 * q) 0, D.getD (4 * q + 1) 0] := by
    rw [List.drop_eq_getElem_cons (show 4 * q < D.length by omega), List.drop_eq_getElem_cons (show 4 * q + 1 < D.length by omega), List.drop_of_length_le (by omega)]
    simp only [List.getD_eq_getElem?_getD, List.getElem?_eq_getElem (show 4 * q < D.length by omega), List.getElem?_eq_getElem (show 4 * q + 1 < D.length by omega), Option.getD_some]
  have hg := fun j => d64_get q j D (by omega)
  rw [hd] at hg
  simp only [d64] at hg
  have hT : Tl64 D.length := by unfold Tl64; omega
  have hn := d64_len D hT
  refine all_get (by rw [hl, h.len]) fun i hi => ?_
  rcases (show i < 3 * q ∨ i = 3 * q by omega) with hh | rfl
  · rw [hk i hh, h.get i hh]
  · rw [h0]; exact (hg 0).symm
theorem Row64.three {D L L' : List Int} {q : Nat} (h : Row64 D q L) (hq : 4 * q + 3 = D.length) (hl : L'.length = L.length) (hk : ∀ i : Nat, i < 3 * q → L'.getD i 0 = L.getD i 0)
    (h0 : L'.getD (3 * q) 0 = D.getD (4 * q) 0 * 4 + D.getD (4 * q + 1) 0 / 16) (h1 : L'.getD (3 * q + 1) 0 = D.getD (4 * q + 1) 0 % 16 * 16 + D.getD (4 * q + 2) 0 / 4) : L' = d64 D := by
  have hd : D.drop (4 * q) = [D.getD (4 * q) 0, D.getD (4 * q + 1) 0, D.getD (4 * q + 2) 0] := by
    rw [List.drop_eq_getElem_cons (show 4 * q < D.length by omega), List.drop_eq_getElem_cons (show 4 * q + 1 < D.length by omega), List.drop_eq_getElem_cons (show 4 * q + 1 + 1 < D.length by omega), List.drop_of_length_le (by omega)]
    simp only [List.getD_eq_getElem?_getD, List.getElem?_eq_getElem (show 4 * q < D.length by omega), List.getElem?_eq_getElem (show 4 * q + 1 < D.length by omega), List.getElem?_eq_getElem (show 4 * q + 2 < D.length by omega), Option.getD_some]
  have hg := fun j => d64_get q j D (by omega)
  rw [hd] at hg
  simp only [d64] at hg
  have hT : Tl64 D.length := by unfold Tl64; omega
  have hn := d64_len D hT
  refine all_get (by rw [hl, h.len]) fun i hi => ?_
  rcases (show i < 3 * q ∨ i = 3 * q ∨ i = 3 * q + 1 by omega) with hh | rfl | rfl
  · rw [hk i hh, h.get i hh]
  · rw [h0]; exact (hg 0).symm
  · rw [h1]; exact (hg 1).symm
end Go.Proofs.YtflafpklphgbpaaGreatDoor
namespace Go.Proofs.YtflafpklphgbpaaGreatDoor
open Go Go.RowKit
set_option linter.unusedVariables false
set_option linter.unusedSimpArgs false
set_option maxRecDepth 100000

theorem kput {w w1 : World} {g : Nat} (k : Kp (· = g) w w1) (i : Nat) (u : Value) : Kp (· = g) w (w1.setCell ⟨g, i, none⟩ u) := k.setCell (p := ⟨g, i, none⟩) (fun _ => rfl) u
def put4 (L : List Int) (o : Nat) (x : Int) : List Int := (((L.set o (x / 16777216 % 256)).set (o + 1) (x / 65536 % 256)).set (o + 2) (x / 256 % 256)).set (o + 3) (x % 256)
theorem put4_length (L : List Int) (o : Nat) (x : Int) : (put4 L o x).length = L.length := by simp [put4]
set_option maxHeartbeats 4000000 in
theorem bep32_calls {w : World} {g o n c : Nat} {L : List Int} {t : TypeId} (h : Nw .u8 w g t L) (x : Int) (ho : o + 4 ≤ L.length) (hn : 4 ≤ n) :
    Calls Tryz.prog 101 #[.slice (some ⟨g, o, none⟩) n c, .int .u32 x] w fun e w' => e = .returned (.tuple #[]) ∧ Nw .u8 w' g t (put4 L o x) ∧ Kp (· = g) w w' := by
  have c0 := h.cell o (by omega)
  have c1 := h.cell (o + 1) (by omega)
  have c2 := h.cell (o + 2) (by omega)
  have c3 := h.cell (o + 3) (by omega)
  have f0 := h.free o
  have f1 := h.free (o + 1)
  have f2 := h.free (o + 2)
  have f3 := h.free (o + 3)
  have HX := Lib.hid ((((h.set o (x / 16777216 % 256)).set (o + 1) (x / 65536 % 256)).set (o + 2) (x / 256 % 256)).set (o + 3) (x % 256))
  have HKK := Lib.hid (kput (kput (kput (kput (Kp.refl (· = g) w) o (.int .u8 (x / 16777216 % 256))) (o + 1) (.int .u8 (x / 65536 % 256))) (o + 2) (.int .u8 (x / 256 % 256))) (o + 3) (.int .u8 (x % 256)))
  generalize L.getD o 0 = z0 at *
  generalize L.getD (o + 1) 0 = z1 at *
  generalize L.getD (o + 2) 0 = z2 at *
  generalize L.getD (o + 3) 0 = z3 at *
  clear h ho
  go_enter Tryz.func101, Tryz.ntmps101
  go_wp2
  go_end0
  exact ⟨rfl, HX.out, HKK.out⟩
def put8b (L : List Int) (o : Nat) (x : Int) : List Int :=
  (((((((L.set o (x / 72057594037927936 % 256)).set (o + 1) (x / 281474976710656 % 256)).set (o + 2) (x / 1099511627776 % 256)).set (o + 3) (x / 4294967296 % 256)).set (o + 4) (x / 16777216 % 256)).set (o + 5) (x / 65536 % 256)).set (o + 6) (x / 256 % 256)).set (o + 7) (x % 256)
theorem put8b_length (L : List Int) (o : Nat) (x : Int) : (put8b L o x).length = L.length := by simp [put8b]
set_option maxHeartbeats 8000000 in
theorem bep64i_calls {w : World} {g o n c : Nat} {L : List Int} {t : TypeId} (h : Nw .u8 w g t L) (x : Int) (ho : o + 8 ≤ L.length) (hn : 8 ≤ n) :
    Calls Tryz.prog 98 #[.slice (some ⟨g, o, none⟩) n c, .int .u64 x] w fun e w' => e = .returned (.tuple #[]) ∧ Nw .u8 w' g t (put8b L o x) ∧ Kp (· = g) w w' := by
  have c0 := h.cell o (by omega)
  have c1 := h.cell (o + 1) (by omega)
  have c2 := h.cell (o + 2) (by omega)
  have c3 := h.cell (o + 3) (by omega)
  have c4 := h.cell (o + 4) (by omega)
  have c5 := h.cell (o + 5) (by omega)
  have c6 := h.cell (o + 6) (by omega)
  have c7 := h.cell (o + 7) (by omega)
  have f0 := h.free o
  have f1 := h.free (o + 1)
  have f2 := h.free (o + 2)
  have f3 := h.free (o + 3)
  have f4 := h.free (o + 4)
  have f5 := h.free (o + 5)
  have f6 := h.free (o + 6)
  have f7 := h.free (o + 7)
  have HX := Lib.hid ((((((((h.set o (x / 72057594037927936 % 256)).set (o + 1) (x / 281474976710656 % 256)).set (o + 2) (x / 1099511627776 % 256)).set (o + 3) (x / 4294967296 % 256)).set (o + 4) (x / 16777216 % 256)).set (o + 5) (x / 65536 % 256)).set (o + 6) (x / 256 % 256)).set (o + 7) (x % 256))
  have HKK := Lib.hid (kput (kput (kput (kput (kput (kput (kput (kput (Kp.refl (· = g) w) o (.int .u8 (x / 72057594037927936 % 256))) (o + 1) (.int .u8 (x / 281474976710656 % 256))) (o + 2) (.int .u8 (x / 1099511627776 % 256))) (o + 3) (.int .u8 (x / 4294967296 % 256))) (o + 4) (.int .u8 (x / 16777216 % 256))) (o + 5) (.int .u8 (x / 65536 % 256))) (o + 6) (.int .u8 (x / 256 % 256))) (o + 7) (.int .u8 (x % 256)))
  generalize L.getD o 0 = z0 at *
  generalize L.getD (o + 1) 0 = z1 at *
  generalize L.getD (o + 2) 0 = z2 at *
  generalize L.getD (o + 3) 0 = z3 at *
  generalize L.getD (o + 4) 0 = z4 at *
  generalize L.getD (o + 5) 0 = z5 at *
  generalize L.getD (o + 6) 0 = z6 at *
  generalize L.getD (o + 7) 0 = z7 at *
  clear h ho
  go_enter Tryz.func98, Tryz.ntmps98
  go_wp2
  go_end0
  exact ⟨rfl, HX.out, HKK.out⟩
theorem or64 (a b : Int) (ha : 0 ≤ a ∧ a < 64) (hb : 0 ≤ b ∧ b < 64) : ∃ c : Int, bits .or .u8 a b = c ∧ 0 ≤ c ∧ c < 64 := by
  obtain ⟨x, rfl⟩ := Int.eq_ofNat_of_zero_le ha.1
  obtain ⟨y, rfl⟩ := Int.eq_ofNat_of_zero_le hb.1
  have h := (bits_nat .u8 8 (by decide) (fun n h0 h1 => by rw [show IntKind.u8.wrap n = n % 256 from by simp [IntKind.wrap, IntKind.bits, IntKind.signed]]; omega) x y (by omega) (by omega)).2
  refine ⟨_, h, by omega, ?_⟩
  have := Nat.or_lt_two_pow (x := x) (y := y) (n := 6) (by omega) (by omega)
  omega
theorem u32_sum (i : Nat) (x y : Int) (h0 : 0 ≤ x) (h1 : x % 2 ^ i = 0) (h2 : x < 4294967296) (h3 : 0 ≤ y) (h4 : y < 2 ^ i) (h5 : y < 4294967296) : bits .or .u32 x y = x + y :=
  bits_join .u32 32 (by decide) (fun n h0 h1 => by rw [IntKind.wrap_u32]; omega) i x y h0 h1 (by omega) h3 h4 (by omega)
theorem u64_sum (i : Nat) (x y : Int) (h0 : 0 ≤ x) (h1 : x % 2 ^ i = 0) (h2 : x < 18446744073709551616) (h3 : 0 ≤ y) (h4 : y < 2 ^ i) (h5 : y < 18446744073709551616) : bits .or .u64 x y = x + y :=
  bits_join .u64 64 (by decide) (fun n h0 h1 => by rw [IntKind.wrap_u64]; omega) i x y h0 h1 (by omega) h3 h4 (by omega)
def Dg64 (x : Int) : Prop := 0 ≤ x ∧ x < 64
theorem asm4_calls {w : World} (n1 n2 n3 n4 : Int) (h1 : Dg64 n1) (h2 : Dg64 n2) (h3 : Dg64 n3) (h4 : Dg64 n4) :
    Calls Tryz.prog 100 #[.int .u8 n1, .int .u8 n2, .int .u8 n3, .int .u8 n4] w fun e w' => e = .returned (.tuple #[.int .u32 (n1 * 67108864 + n2 * 1048576 + n3 * 16384 + n4 * 256), .bool true]) ∧ w' = w := by
  unfold Dg64 at *
  obtain ⟨c2, e2, r2⟩ := or64 n1 n2 h1 h2
  obtain ⟨c3, e3, r3⟩ := or64 c2 n3 r2 h3
  obtain ⟨c4, e4, r4⟩ := or64 c3 n4 r3 h4
  have hne : (c4 == 255) = false := beq_eq_false_iff_ne.2 (by omega)
  have j1 : bits .or .u32 (n1 * 67108864) (n2 * 1048576) = n1 * 67108864 + n2 * 1048576 := u32_sum 26 _ _ (by omega) (by rw [show (2 : Int) ^ 26 = 67108864 from rfl]; omega) (by omega) (by omega) (by rw [show (2 : Int) ^ 26 = 67108864 from rfl]; omega) (by omega)
  have j2 : bits .or .u32 (n1 * 67108864 + n2 * 1048576) (n3 * 16384) = n1 * 67108864 + n2 * 1048576 + n3 * 16384 := u32_sum 20 _ _ (by omega) (by rw [show (2 : Int) ^ 20 = 1048576 from rfl]; omega) (by omega) (by omega) (by rw [show (2 : Int) ^ 20 = 1048576 from rfl]; omega) (by omega)
  have j3 : bits .or .u32 (n1 * 67108864 + n2 * 1048576 + n3 * 16384) (n4 * 256) = n1 * 67108864 + n2 * 1048576 + n3 * 16384 + n4 * 256 := u32_sum 14 _ _ (by omega) (by rw [show (2 : Int) ^ 14 = 16384 from rfl]; omega) (by omega) (by omega) (by rw [show (2 : Int) ^ 14 = 16384 from rfl]; omega) (by omega)
  go_enter Tryz.func100, Tryz.ntmps100
  go_wp2
  go_ret2
  exact ⟨rfl, rfl⟩
theorem asm8_calls {w : World} (n1 n2 n3 n4 n5 n6 n7 n8 : Int) (h1 : Dg64 n1) (h2 : Dg64 n2) (h3 : Dg64 n3) (h4 : Dg64 n4) (h5 : Dg64 n5) (h6 : Dg64 n6) (h7 : Dg64 n7) (h8 : Dg64 n8) :
    Calls Tryz.prog 97 #[.int .u8 n1, .int .u8 n2, .int .u8 n3, .int .u8 n4, .int .u8 n5, .int .u8 n6, .int .u8 n7, .int .u8 n8] w fun e w' => e = .returned (.tuple #[.int .u64 (n1 * 288230376151711744 + n2 * 4503599627370496 + n3 * 70368744177664 + n4 * 1099511627776 + n5 * 17179869184 + n6 * 268435456 + n7 * 4194304 + n8 * 65536), .bool true]) ∧ w' = w := by
  unfold Dg64 at *
  obtain ⟨c2, e2, r2⟩ := or64 n1 n2 h1 h2
  obtain ⟨c3, e3, r3⟩ := or64 c2 n3 r2 h3
  obtain ⟨c4, e4, r4⟩ := or64 c3 n4 r3 h4
  obtain ⟨c5, e5, r5⟩ := or64 c4 n5 r4 h5
  obtain ⟨c6, e6, r6⟩ := or64 c5 n6 r5 h6
  obtain ⟨c7, e7, r7⟩ := or64 c6 n7 r6 h7
  obtain ⟨c8, e8, r8⟩ := or64 c7 n8 r7 h8
  have hne : (c8 == 255) = false := beq_eq_false_iff_ne.2 (by omega)
  have j1 : bits .or .u64 (n1 * 288230376151711744) (n2 * 4503599627370496) = n1 * 288230376151711744 + n2 * 4503599627370496 := u64_sum 58 _ _ (by omega) (by rw [show (2 : Int) ^ 58 = 288230376151711744 from rfl]; omega) (by omega) (by omega) (by rw [show (2 : Int) ^ 58 = 288230376151711744 from rfl]; omega) (by omega)
  have j2 : bits .or .u64 (n1 * 288230376151711744 + n2 * 4503599627370496) (n3 * 70368744177664) = n1 * 288230376151711744 + n2 * 4503599627370496 + n3 * 70368744177664 := u64_sum 52 _ _ (by omega) (by rw [show (2 : Int) ^ 52 = 4503599627370496 from rfl]; omega) (by omega) (by omega) (by rw [show (2 : Int) ^ 52 = 4503599627370496 from rfl]; omega) (by omega)
  have j3 : bits .or .u64 (n1 * 288230376151711744 + n2 * 4503599627370496 + n3 * 70368744177664) (n4 * 1099511627776) = n1 * 288230376151711744 + n2 * 4503599627370496 + n3 * 70368744177664 + n4 * 1099511627776 := u64_sum 46 _ _ (by omega) (by rw [show (2 : Int) ^ 46 = 70368744177664 from rfl]; omega) (by omega) (by omega) (by rw [show (2 : Int) ^ 46 = 70368744177664 from rfl]; omega) (by omega)
  have j4 : bits .or .u64 (n1 * 288230376151711744 + n2 * 4503599627370496 + n3 * 70368744177664 + n4 * 1099511627776) (n5 * 17179869184) = n1 * 288230376151711744 + n2 * 4503599627370496 + n3 * 70368744177664 + n4 * 1099511627776 + n5 * 17179869184 := u64_sum 40 _ _ (by omega) (by rw [show (2 : Int) ^ 40 = 1099511627776 from rfl]; omega) (by omega) (by omega) (by rw [show (2 : Int) ^ 40 = 1099511627776 from rfl]; omega) (by omega)
  have j5 : bits .or .u64 (n1 * 288230376151711744 + n2 * 4503599627370496 + n3 * 70368744177664 + n4 * 1099511627776 + n5 * 17179869184) (n6 * 268435456) = n1 * 288230376151711744 + n2 * 4503599627370496 + n3 * 70368744177664 + n4 * 1099511627776 + n5 * 17179869184 + n6 * 268435456 := u64_sum 34 _ _ (by omega) (by rw [show (2 : Int) ^ 34 = 17179869184 from rfl]; omega) (by omega) (by omega) (by rw [show (2 : Int) ^ 34 = 17179869184 from rfl]; omega) (by omega)
  have j6 : bits .or .u64 (n1 * 288230376151711744 + n2 * 4503599627370496 + n3 * 70368744177664 + n4 * 1099511627776 + n5 * 17179869184 + n6 * 268435456) (n7 * 4194304) = n1 * 288230376151711744 + n2 * 4503599627370496 + n3 * 70368744177664 + n4 * 1099511627776 + n5 * 17179869184 + n6 * 268435456 + n7 * 4194304 := u64_sum 28 _ _ (by omega) (by rw [show (2 : Int) ^ 28 = 268435456 from rfl]; omega) (by omega) (by omega) (by rw [show (2 : Int) ^ 28 = 268435456 from rfl]; omega) (by omega)
  have j7 : bits .or .u64 (n1 * 288230376151711744 + n2 * 4503599627370496 + n3 * 70368744177664 + n4 * 1099511627776 + n5 * 17179869184 + n6 * 268435456 + n7 * 4194304) (n8 * 65536) = n1 * 288230376151711744 + n2 * 4503599627370496 + n3 * 70368744177664 + n4 * 1099511627776 + n5 * 17179869184 + n6 * 268435456 + n7 * 4194304 + n8 * 65536 := u64_sum 22 _ _ (by omega) (by rw [show (2 : Int) ^ 22 = 4194304 from rfl]; omega) (by omega) (by omega) (by rw [show (2 : Int) ^ 22 = 4194304 from rfl]; omega) (by omega)
  go_enter Tryz.func97, Tryz.ntmps97
  go_wp2
  go_ret2
  exact ⟨rfl, rfl⟩
end Go.Proofs.YtflafpklphgbpaaGreatDoor
namespace Go.Proofs.YtflafpklphgbpaaGreatDoor
open Go Go.RowKit
set_option linter.unusedVariables false
set_option linter.unusedSimpArgs false
set_option maxRecDepth 100000

/-- The table behind i letters. -/
def tab64 (al : List Int) (i : Nat) : List Int := (List.range i).foldl (fun t (j : Nat) => t.set (al.getD j 0).toNat (j : Int)) (List.replicate 256 255)
theorem tab64_succ (al : List Int) (i : Nat) : tab64 al (i + 1) = (tab64 al i).set (al.getD i 0).toNat (i : Int) := by
  unfold tab64; rw [List.range_succ, List.foldl_append]; rfl
structure Al64 (al : List Int) : Prop where
  len : al.length = 64
  asc : Asc al
  new : ∀ i : Nat, i < 64 → (tab64 al i).getD (al.getD i 0).toNat 0 = 255 ∧ al.getD i 0 ≠ 10 ∧ al.getD i 0 ≠ 13
  tab : ∀ i : Nat, i < 64 → (tab64 al 64).getD (al.getD i 0).toNat 0 = (i : Int)
theorem al64m : Al64 alp109 := ⟨rfl, by intro x hx; revert x; decide +kernel, by decide +kernel, by decide +kernel⟩
theorem al64u : Al64 alp117 := ⟨rfl, by intro x hx; revert x; decide +kernel, by decide +kernel, by decide +kernel⟩
/-- The encoding's cells: the table, the padding, not strict. -/
structure EncD (C : Array Value) (T : List Int) (pd : Int) : Prop where
  size : C.size = 322
  len : T.length = 256
  tab : ∀ k : Nat, k < 256 → C[64 + k]? = some (.int .u8 (T.getD k 0))
  pad : C[320]? = some (.int .i32 pd)
  str : C[321]? = some (.bool false)
theorem EncD.set {C : Array Value} {T : List Int} {pd : Int} (h : EncD C T pd) (j : Nat) (hj : j < 256) (v : Int) : EncD (C.setIfInBounds (64 + j) (.int .u8 v)) (T.set j v) pd :=
  ⟨by simpa using h.size, by simpa using h.len, fun k hk => by
    rw [Array.getElem?_setIfInBounds, List.getD_eq_getElem?_getD, List.getElem?_set]
    by_cases e : j = k
    · subst e
      rw [if_pos rfl, if_pos rfl, if_pos (by rw [h.size]; omega), if_pos (by rw [h.len]; omega)]; rfl
    · rw [if_neg (by omega), if_neg e, ← List.getD_eq_getElem?_getD]; exact h.tab k hk, by rw [Array.getElem?_setIfInBounds, if_neg (by omega)]; exact h.pad, by rw [Array.getElem?_setIfInBounds, if_neg (by omega)]; exact h.str⟩
theorem EncD.pads {C : Array Value} {T : List Int} {pd : Int} (h : EncD C T pd) (v : Int) : EncD (C.setIfInBounds 320 (.int .i32 v)) T v :=
  ⟨by simpa using h.size, h.len, fun k hk => by rw [Array.getElem?_setIfInBounds, if_neg (by omega)]; exact h.tab k hk, by rw [Array.getElem?_setIfInBounds, if_pos rfl, if_pos (by rw [h.size]; omega)], by rw [Array.getElem?_setIfInBounds, if_neg (by omega)]; exact h.str⟩
theorem Kp.setRow {S : Nat → Prop} {w0 w : World} (h : Kp S w0 w) {g : Nat} (hg : g < w0.heap.size → S g) (cs : Array Value) : Kp S w0 (w.setRow g cs) :=
  ⟨h.os, h.tape, h.output, by have := h.size; simpa [World.setRow] using this, fun k hk hn => (setRow_other w g k cs (fun e => hn (by subst e; exact hg hk))).trans (h.block k hk hn)⟩
section
variable {P : Program} {ops : Array Oper} {rest : List Oper} {o : Oper} {a : Act} {Q : Exit → Act → World → Prop}
/-- 'copy(b[..], s)' from a text that fits. -/
theorem copy_str {W : World} (hgd : o.guard = none) (d s : Operand) (dT sT : TypeId)
    (ho : o.op = .call { callee := .builtin .copy, args := #[d, s], argTypes := #[dT, sT] }) (elem : TypeId) (hu : P.underlying dT = some (.slice elem)) (hsz : (P.info? elem).map (·.size) = some 1)
    (g ofs dLen dCap : Nat) (hd : a.eval d = .slice (some ⟨g, ofs, none⟩) dLen dCap) (x : ByteArray) (hs : a.eval s = .string x)
    (C : Array Value) (t : TypeId) (hb : Blk W g C t) (hle : x.size ≤ dLen) (hf : ofs + x.size ≤ C.size)
    (h : ∀ w', Blk w' g (C.toList.take ofs ++ Lib.byteCells x.data.toList ++ C.toList.drop (ofs + x.size)).toArray t → Kp (· = g) W w' → w'.heap.size = W.heap.size → wpList P ops Q rest (a.put o.dst (.int .i64 (x.size : Int))) w') : wpList P ops Q (o :: rest) a W := by
  have hrun := Lib.run_copy_row_string (P := P) W dT sT o.type elem g ofs dLen dCap x C t hu hsz hb hle hf
  refine wpList_plain hgd fun K hK => ?_
  unfold Oper.wp
  simp only [execOp, ho, resolve, invoke, builtin, Sem.run_bind, Sem.run_pure, Result.andThen_ok, List.map_toArray, List.map_cons, List.map_nil, hd, hs, hrun]
  have h2 := setRow_heap W g C (C.toList.take ofs ++ Lib.byteCells x.data.toList ++ C.toList.drop (ofs + x.size)).toArray t (0, 0) hb
  exact hK _ _ (h _ h2 (Kp.setRow (S := (· = g)) (Kp.refl _ W) (fun _ => rfl) _) (by simp [World.setRow]))
end
/-- All entries are none. -/
def none256 : ByteArray := ⟨Array.replicate 256 255⟩
/-- The cells behind the two copies. -/
theorem EncD.first {Z : Array Value} (hz : Z.size = 322) (h1 : Z[321]? = some (.bool false)) {l : List Value} (hl : l.length = 64) {m : List Value} (hm : m = (List.replicate 256 255).map (Value.int .u8)) :
    EncD ((( (Z.setIfInBounds 320 (.int .i32 61)).toList.take 0 ++ l ++ (Z.setIfInBounds 320 (.int .i32 61)).toList.drop (0 + 64)).toArray).toList.take 64 ++ m ++ (((Z.setIfInBounds 320 (.int .i32 61)).toList.take 0 ++ l ++ (Z.setIfInBounds 320 (.int .i32 61)).toList.drop (0 + 64)).toArray).toList.drop (64 + 256)).toArray (List.replicate 256 255) 61 := by
  have hml : m.length = 256 := by rw [hm]; simp
  have hs : (Z.setIfInBounds 320 (.int .i32 61)).toList.length = 322 := by simpa using hz
  obtain ⟨Y, hY⟩ : ∃ Y, Y = (Z.setIfInBounds 320 (.int .i32 61)).toList := ⟨_, rfl⟩
  have hY0 : Y[320]? = some (.int .i32 61) := by rw [hY, Array.getElem?_toList, Array.getElem?_setIfInBounds, if_pos rfl, if_pos (by omega)]
  have hY1 : Y[321]? = some (.bool false) := by rw [hY, Array.getElem?_toList, Array.getElem?_setIfInBounds, if_neg (by omega)]; exact h1
  rw [← hY] at hs ⊢
  simp only [List.take_zero, List.nil_append, Nat.zero_add, List.toList_toArray]
  rw [List.take_left' hl, List.drop_append, List.drop_eq_nil_of_le (by omega), List.nil_append, List.drop_drop]
  rw [show 64 + (64 + 256 - l.length) = 320 from by omega]
  refine ⟨by simp; omega, by simp, fun k hk => ?_, ?_, ?_⟩
  · simp only [List.getElem?_toArray]
    rw [List.append_assoc, List.getElem?_append_right (by omega), List.getElem?_append_left (by omega), hm, List.getElem?_map, show 64 + k - l.length = k from by omega, List.getElem?_replicate, if_pos hk, List.getD_eq_getElem?_getD, List.getElem?_replicate, if_pos hk]; rfl
  · simp only [List.getElem?_toArray]
    rw [List.getElem?_append_right (by simp; omega), List.getElem?_drop]
    rw [show 320 + (320 - (l ++ m).length) = 320 from by simp; omega]
    exact hY0
  · simp only [List.getElem?_toArray]
    rw [List.getElem?_append_right (by simp; omega), List.getElem?_drop]
    rw [show 320 + (321 - (l ++ m).length) = 321 from by simp; omega]
    exact hY1
def EncB (w : World) (T : List Int) (pd : Int) (e : Ending) (w' : World) : Prop := ∃ g C, e = .returned (.pointer (some ⟨g, 0, none⟩)) ∧ w.heap.size ≤ g ∧ Blk w' g C 156 ∧ EncD C T pd ∧ Kp no w w'
theorem len_bc (x : ByteArray) (h : x.size = 64) : (Lib.byteCells x.data.toList).length = 64 := by
  rw [Lib.byteCells_length]; simpa using h
set_option maxHeartbeats 8000000 in
theorem new64_calls {w : World} (al : List Int) (h : Al64 al) :
    Calls Tryz.prog 76 #[.string (strOfNums al)] w (EncB w (tab64 al 64) 61) := by
  have hix := fun i (hi : i < 64) => idx_str h.asc Tryz.und_string i (by rw [h.len]; exact hi)
  have hs : (strOfNums al).size = 64 := by rw [strOfNums_size, h.len]
  have HA := Lib.hid h.asc
  have HN := Lib.hid h.new
  have HIX := Lib.hid hix
  have hz : Tryz.zeroCells156.size = 322 := by kernel_rfl
  have hz1 : Tryz.zeroCells156[321]? = some (.bool false) := by kernel_rfl
  have hmm : Lib.byteCells none256.data.toList = (List.replicate 256 255).map (Value.int .u8) := by kernel_rfl
  have HE := Lib.hid (EncD.first hz hz1 (len_bc _ hs) hmm)
  obtain ⟨Z, hZ⟩ : ∃ Z, Z = Tryz.zeroCells156 := ⟨_, rfl⟩
  have HS := Lib.hid hs
  have hsle : ((strOfNums al).size : Int) = 64 := by omega
  generalize strOfNums al = s at *
  clear hix hs h
  have B0 := Blk.new w (Tryz.zeroCells156.setIfInBounds 320 (.int .i32 61)) 156
  have k0 : Kp no w (w.alloc (.cells (Tryz.zeroCells156.setIfInBounds 320 (.int .i32 61)) 156)) := (Kp.refl _ _).alloc _
  go_enter Tryz.func76, Tryz.ntmps76
  go_upto_region 5 with (fail)
  rw [← hZ] at HE B0 k0 ⊢
  have hZs : Z.size = 322 := by rw [hZ]; exact hz
  have HZS := Lib.hid hZs
  clear hZ hz hz1 hmm hZs
  generalize w.alloc (.cells (Z.setIfInBounds 320 (.int .i32 61)) 156) = w1 at *
  go_upto_region 6 with (first
    | (refine copy_str rfl (.tmp 16) (.tmp 17) 23 9 rfl 5 Tryz.und_bytes Tryz.size_byte w.heap.size 0 64 64 rfl s rfl _ 156 B0 (by have := HS.out; omega) (by have := HS.out; have := HZS.out; simp; omega) ?_; intro w2 B2 k2 hs2))
  rw [HS.out] at B2
  go_upto_region 7 with (first
    | (refine copy_str rfl (.tmp 22) (.const (.string none256)) 23 9 (by kernel_rfl) 5 Tryz.und_bytes Tryz.size_byte w.heap.size 64 256 256 rfl none256 rfl _ 156 B2 (by show 256 ≤ 256; omega) (by have := len_bc s HS.out; have := HZS.out; show 64 + 256 ≤ _; simp; omega) ?_; intro w3 B3 k3 hs3))
  have HB3 : Blk w3 w.heap.size _ 156 := B3
  have K3 : Kp no w w3 := (k0.trans k2 (fun i hi h => by have h : i = w.heap.size := h; omega)).trans k3 (fun i hi h => by have h : i = w.heap.size := h; omega)
  obtain ⟨C0, hC0⟩ : ∃ C0 : Array Value, Blk w3 w.heap.size C0 156 ∧ Hid (EncD C0 (List.replicate 256 255) 61) := ⟨_, HB3, HE⟩
  obtain ⟨BC, HC⟩ := hC0
  clear HB3 B3 B2 B0 k0 k2 k3 hs2 hs3 HE
  go_wp2
  go_loopw [4] (fun iv wr => ∃ (i : Nat) (C : Array Value), i ≤ 64 ∧ iv = .int .i64 i ∧ Blk wr w.heap.size C 156 ∧ Hid (EncD C (tab64 al i) 61) ∧ Kp no w wr) (fun iv _ => 64 - (intOf iv).toNat)
  case atStart => exact ⟨0, C0, Nat.zero_le _, rfl, BC, HC, K3⟩
  case round =>
    obtain ⟨i, C, hi, rfl, hb, HCi, k⟩ := hrel
    by_cases hlt : i < 64
    · have hai := HIX.out i hlt
      have hy := HA.out.getD i
      have hn := HN.out i hlt
      have HT := Lib.hid (tab64_succ al i)
      generalize al.getD i 0 = y at *
      obtain ⟨b, hbb⟩ : ∃ b : Nat, (b : Int) = y := ⟨y.toNat, by omega⟩
      subst hbb
      rw [Int.toNat_natCast] at hn HT
      have hb128 : b < 128 := by omega
      have hb256 : (b : Int) < 256 := by omega
      have e10 : ((b : Int) == 10) = false := beq_eq_false_iff_ne.2 hn.2.1
      have e13 : ((b : Int) == 13) = false := beq_eq_false_iff_ne.2 hn.2.2
      have c0 := hb.cell (64 + b)
      rw [HCi.out.tab b (by omega), hn.1] at c0
      have f0 := hb.free (64 + b)
      have HLT := Lib.hid hlt
      have hil : (i : Int) < 64 := by omega
      have hil2 : (i : Int) < (s.size : Int) := by have := HS.out; omega
      have hi256 : (i : Int) % 256 = (i : Int) := by omega
      clear hn hlt
      go_wp2
      go_quiet (fail)
      go_wp2
      refine wp_region_quiet_tail 9 (by kernel_rfl) (by kernel_rfl) ?_
      simp only [List.take_succ_cons, List.take_zero, List.drop_succ_cons, List.drop_zero]
      repeat (go_big_quiet_step (fail))
      refine wpQuiet_nil ?_
      rintro _ ⟨nq2, rfl⟩
      go_wp2
      go_roundw
      case rel => exact ⟨i + 1, _, by omega, by go_num, (hb.keepN (Kp.byDraws _ _)).set (64 + b) _, Lib.hid (by rw [HT.out]; exact HCi.out.set b (by omega) (i : Int)), (k.then (Kp.byDraws _ _)).setCell (p := ⟨w.heap.size, 64 + b, none⟩) (fun h => by simp at h) _⟩
      case measure => simp [intOf]; omega
    · obtain rfl : i = 64 := by omega
      have hil : ¬ (64 : Int) < (s.size : Int) := by have := HS.out; omega
      go_wp2
      go_ret
      exact ⟨w.heap.size, C, rfl, Nat.le_refl _, hb, HCi.out, k⟩
theorem infoE64 : (Tryz.prog.info? 156).map (·.size) = some 322 := by kernel_rfl
theorem pad64_calls {w : World} {C : Array Value} {T : List Int} {pd : Int} (h : EncD C T pd) :
    Calls Tryz.prog 77 #[.agg C, .int .i32 (-1)] w (EncB w T (-1)) := by
  have B0 := Blk.new w C 156
  have c0 := B0.cell 320
  rw [h.pad] at c0
  have f0 := B0.free 320
  have HE := Lib.hid (h.pads (-1))
  clear h
  go_enter Tryz.func77, Tryz.ntmps77
  go_wp2
  go_ret
  exact ⟨w.heap.size, _, rfl, Nat.le_refl _, Blk.new w _ _, HE.out, (Kp.refl _ _).alloc _⟩
theorem zz64m_calls {w : World} :
    Calls Tryz.prog 55 #[.bool false, .bool false] w (EncB w (tab64 alp109 64) (-1)) := by
  have E1 := Lib.hid (new64_calls (w := w) alp109 al64m)
  rw [show strOfNums alp109 = ⟨#[65, 66, 67, 68, 69, 70, 71, 72, 73, 74, 75, 76, 77, 78, 79, 80, 81, 82, 83, 84, 85, 86, 87, 88, 89, 90, 97, 98, 99, 100, 101, 102, 103, 104, 105, 106, 107, 108, 109, 110, 111, 112, 113, 114, 115, 116, 117, 118, 119, 120, 121, 122, 48, 49, 50, 51, 52, 53, 54, 55, 56, 57, 43, 47]⟩ from by rfl] at E1
  generalize tab64 alp109 64 = T at *
  go_enter Tryz.func55, Tryz.ntmps55
  go_wp2_with (fail)
  refine E1.out.mono ?_
  rintro e w1 ⟨g, C, rfl, hg, hb, hC, k1⟩
  have E2 := Lib.hid (pad64_calls (w := w1) hC)
  have hsz := hC.size
  have HSZ := Lib.hid hsz
  have HB := Lib.hid (Blk.range (vs := C.toList) (by rw [Array.toArray_toList]; exact hb))
  clear hC hsz hb
  go_wp2_with (refine wpList_load_mid rfl 156 (.tmp 12) rfl g 0 rfl C.toList _ HB.out Tryz.underlying156 rfl (by rw [Array.length_toList, HSZ.out]; exact infoE64) ?_)
  rw [Array.toArray_toList]
  refine E2.out.mono ?_
  rintro e w2 ⟨g2, C2, rfl, hg2, hb2, hC2, k2⟩
  have H2 := Lib.hid (show EncB w T (-1) (.returned (.pointer (some ⟨g2, 0, none⟩))) w2 from ⟨g2, C2, rfl, Nat.le_trans k1.size hg2, hb2, hC2, k1.then k2⟩)
  clear hC2 hb2
  go_wp2
  go_ret
  exact H2.out
theorem zz64u_calls {w : World} :
    Calls Tryz.prog 55 #[.bool false, .bool true] w (EncB w (tab64 alp117 64) (-1)) := by
  have E1 := Lib.hid (new64_calls (w := w) alp117 al64u)
  rw [show strOfNums alp117 = ⟨#[65, 66, 67, 68, 69, 70, 71, 72, 73, 74, 75, 76, 77, 78, 79, 80, 81, 82, 83, 84, 85, 86, 87, 88, 89, 90, 97, 98, 99, 100, 101, 102, 103, 104, 105, 106, 107, 108, 109, 110, 111, 112, 113, 114, 115, 116, 117, 118, 119, 120, 121, 122, 48, 49, 50, 51, 52, 53, 54, 55, 56, 57, 45, 95]⟩ from by rfl] at E1
  generalize tab64 alp117 64 = T at *
  go_enter Tryz.func55, Tryz.ntmps55
  go_wp2_with (fail)
  refine E1.out.mono ?_
  rintro e w1 ⟨g, C, rfl, hg, hb, hC, k1⟩
  have E2 := Lib.hid (pad64_calls (w := w1) hC)
  have hsz := hC.size
  have HSZ := Lib.hid hsz
  have HB := Lib.hid (Blk.range (vs := C.toList) (by rw [Array.toArray_toList]; exact hb))
  clear hC hsz hb
  go_wp2_with (refine wpList_load_mid rfl 156 (.tmp 12) rfl g 0 rfl C.toList _ HB.out Tryz.underlying156 rfl (by rw [Array.length_toList, HSZ.out]; exact infoE64) ?_)
  rw [Array.toArray_toList]
  refine E2.out.mono ?_
  rintro e w2 ⟨g2, C2, rfl, hg2, hb2, hC2, k2⟩
  have H2 := Lib.hid (show EncB w T (-1) (.returned (.pointer (some ⟨g2, 0, none⟩))) w2 from ⟨g2, C2, rfl, Nat.le_trans k1.size hg2, hb2, hC2, k1.then k2⟩)
  clear hC2 hb2
  go_wp2
  go_ret
  exact H2.out
end Go.Proofs.YtflafpklphgbpaaGreatDoor
