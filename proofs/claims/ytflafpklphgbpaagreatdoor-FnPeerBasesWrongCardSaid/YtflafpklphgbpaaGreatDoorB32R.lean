/- Texts in bases that are powers of two, plain: the digits that the reference writes, block by block. Base 32's decoder, plain: eight digits are five bytes; it tells the bytes that were written. Base 32's decoder, plain: the row that it turns in place. -/
import Derived.Test.YtflafpklphgbpaaGreatDoorBase
import Derived.Test.YtflafpklphgbpaaGreatDoorPlA
namespace Go.Proofs.YtflafpklphgbpaaGreatDoor
open Go
set_option linter.unusedVariables false
set_option linter.unusedSimpArgs false
set_option maxRecDepth 100000

/-- The digit of s bits that stands d bits above the end. -/
def dg (s d : Nat) (hold : Int) : Int := hold / 2 ^ d % 2 ^ s
/-- The digits that are written out of 'bits' bits. -/
def em (s bits : Nat) (hold : Int) : List Int := (List.range (bits / s)).map fun i => dg s (bits - s * (i + 1)) hold
/-- All digits, from some bits at hand on. -/
def st (s : Nat) : List Int → Nat → Int → List Int
  | [], bits, hold => if 0 < bits then [hold * 2 ^ (s - bits) % 2 ^ s] else []
  | c :: l, bits, hold => em s (bits + 8) (hold * 256 + c) ++ st s l ((bits + 8) % s) ((hold * 256 + c) % 2 ^ ((bits + 8) % s))
def dgs (s : Nat) (l : List Int) : List Int := st s l 0 0
theorem dg_rng (s d : Nat) (hold : Int) : 0 ≤ dg s d hold ∧ dg s d hold < 2 ^ s := by
  have hp : (0 : Int) < 2 ^ s := Int.pow_pos (by omega)
  exact ⟨Int.emod_nonneg _ (by omega), Int.emod_lt_of_pos _ hp⟩
theorem st_rng (s : Nat) : ∀ (l : List Int) (bits : Nat) (hold : Int), ∀ x ∈ st s l bits hold, 0 ≤ x ∧ x < 2 ^ s
  | [], bits, hold, x, hx => by
    have hp : (0 : Int) < 2 ^ s := Int.pow_pos (by omega)
    unfold st at hx
    split at hx
    · simp only [List.mem_cons, List.not_mem_nil, or_false] at hx
      subst hx
      exact ⟨Int.emod_nonneg _ (by omega), Int.emod_lt_of_pos _ hp⟩
    · cases hx
  | c :: l, bits, hold, x, hx => by
    unfold st at hx
    rcases List.mem_append.1 hx with hx | hx
    · obtain ⟨i, _, rfl⟩ := List.mem_map.1 hx
      exact dg_rng _ _ _
    · exact st_rng s l _ _ x hx
theorem dgs_rng (s : Nat) (l : List Int) : ∀ x ∈ dgs s l, 0 ≤ x ∧ x < 2 ^ s := st_rng s l 0 0

/-- Base 32: five bytes are eight digits. -/
theorem dgs5 (a b c d e : Int) (l : List Int) (ha : 0 ≤ a ∧ a < 256) (hb : 0 ≤ b ∧ b < 256) (hc : 0 ≤ c ∧ c < 256) (hd : 0 ≤ d ∧ d < 256) (he : 0 ≤ e ∧ e < 256) :
    dgs 5 (a :: b :: c :: d :: e :: l) = a / 8 :: (a % 8 * 4 + b / 64) :: (b / 2 % 32) :: (b % 2 * 16 + c / 16) :: (c % 16 * 2 + d / 128) :: (d / 4 % 32) :: (d % 4 * 8 + e / 32) :: (e % 32) :: dgs 5 l := by
  simp [dgs, st, em, dg, List.range_succ]
  omega
theorem dgs5_1 (a : Int) (ha : 0 ≤ a ∧ a < 256) : dgs 5 [a] = [a / 8, a % 8 * 4] := by
  simp [dgs, st, em, dg, List.range_succ]
  omega
theorem dgs5_2 (a b : Int) (ha : 0 ≤ a ∧ a < 256) (hb : 0 ≤ b ∧ b < 256) : dgs 5 [a, b] = [a / 8, a % 8 * 4 + b / 64, b / 2 % 32, b % 2 * 16] := by
  simp [dgs, st, em, dg, List.range_succ]
  omega
theorem dgs5_3 (a b c : Int) (ha : 0 ≤ a ∧ a < 256) (hb : 0 ≤ b ∧ b < 256) (hc : 0 ≤ c ∧ c < 256) : dgs 5 [a, b, c] = [a / 8, a % 8 * 4 + b / 64, b / 2 % 32, b % 2 * 16 + c / 16, c % 16 * 2] := by
  simp [dgs, st, em, dg, List.range_succ]
  omega
theorem dgs5_4 (a b c d : Int) (ha : 0 ≤ a ∧ a < 256) (hb : 0 ≤ b ∧ b < 256) (hc : 0 ≤ c ∧ c < 256) (hd : 0 ≤ d ∧ d < 256) :
    dgs 5 [a, b, c, d] = [a / 8, a % 8 * 4 + b / 64, b / 2 % 32, b % 2 * 16 + c / 16, c % 16 * 2 + d / 128, d / 4 % 32, d % 4 * 8] := by
  simp [dgs, st, em, dg, List.range_succ]
  omega
theorem dgs5_0 : dgs 5 [] = [] := by simp [dgs, st]
end Go.Proofs.YtflafpklphgbpaaGreatDoor
namespace Go.Proofs.YtflafpklphgbpaaGreatDoor
open Go
set_option linter.unusedVariables false
set_option linter.unusedSimpArgs false
set_option maxRecDepth 100000

def q0 (x0 x1 : Int) : Int := x0 * 8 % 256 + x1 / 4
def q1 (x1 x2 x3 : Int) : Int := x1 * 64 % 256 + x2 * 2 % 256 + x3 / 16
def q2 (x3 x4 : Int) : Int := x3 * 16 % 256 + x4 / 2
def q3 (x4 x5 x6 : Int) : Int := x4 * 128 % 256 + x5 * 4 % 256 + x6 / 8
def q4 (x6 x7 : Int) : Int := x6 * 32 % 256 + x7
def d32 : List Int → List Int
  | x0 :: x1 :: x2 :: x3 :: x4 :: x5 :: x6 :: x7 :: r => q0 x0 x1 :: q1 x1 x2 x3 :: q2 x3 x4 :: q3 x4 x5 x6 :: q4 x6 x7 :: d32 r
  | [x0, x1, x2, x3, x4, x5, x6] => [q0 x0 x1, q1 x1 x2 x3, q2 x3 x4, q3 x4 x5 x6]
  | [x0, x1, x2, x3, x4] => [q0 x0 x1, q1 x1 x2 x3, q2 x3 x4]
  | [x0, x1, x2, x3] => [q0 x0 x1, q1 x1 x2 x3]
  | [x0, x1] => [q0 x0 x1]
  | _ => []
theorem d32_dgs : ∀ l : List Int, Byt l → d32 (dgs 5 l) = l
  | [], _ => by rw [dgs5_0]; rfl
  | [a], h => by
    have ha := h a (by simp)
    rw [dgs5_1 a ha]; simp [d32, q0]; omega
  | [a, b], h => by
    have ha := h a (by simp)
    have hb := h b (by simp)
    rw [dgs5_2 a b ha hb]; simp [d32, q0, q1]; omega
  | [a, b, c], h => by
    have ha := h a (by simp)
    have hb := h b (by simp)
    have hc := h c (by simp)
    rw [dgs5_3 a b c ha hb hc]; simp [d32, q0, q1, q2]; omega
  | [a, b, c, d], h => by
    have ha := h a (by simp)
    have hb := h b (by simp)
    have hc := h c (by simp)
    have hd := h d (by simp)
    rw [dgs5_4 a b c d ha hb hc hd]; simp [d32, q0, q1, q2, q3]; omega
  | a :: b :: c :: d :: e :: l, h => by
    have ha := h a (by simp)
    have hb := h b (by simp)
    have hc := h c (by simp)
    have hd := h d (by simp)
    have he := h e (by simp)
    rw [dgs5 a b c d e l ha hb hc hd he]
    simp only [d32]
    rw [d32_dgs l (fun x hx => h x (by simp [hx]))]
    simp [q0, q1, q2, q3, q4]; omega
/-- How many digits there can be. -/
def Tl32 (n : Nat) : Prop := n % 8 = 0 ∨ n % 8 = 2 ∨ n % 8 = 4 ∨ n % 8 = 5 ∨ n % 8 = 7
theorem dgs5_tail : ∀ l : List Int, Byt l → Tl32 (dgs 5 l).length ∧ (dgs 5 l).length = (l.length * 8 + 4) / 5
  | [], _ => by rw [dgs5_0]; exact ⟨.inl rfl, rfl⟩
  | [a], h => by rw [dgs5_1 a (h a (by simp))]; simp [Tl32]
  | [a, b], h => by rw [dgs5_2 a b (h a (by simp)) (h b (by simp))]; simp [Tl32]
  | [a, b, c], h => by rw [dgs5_3 a b c (h a (by simp)) (h b (by simp)) (h c (by simp))]; simp [Tl32]
  | [a, b, c, d], h => by rw [dgs5_4 a b c d (h a (by simp)) (h b (by simp)) (h c (by simp)) (h d (by simp))]; simp [Tl32]
  | a :: b :: c :: d :: e :: l, h => by
    have ih := dgs5_tail l (fun x hx => h x (by simp [hx]))
    rw [dgs5 a b c d e l (h a (by simp)) (h b (by simp)) (h c (by simp)) (h d (by simp)) (h e (by simp))]
    simp only [Tl32, List.length_cons] at ih ⊢
    omega
theorem eight {D : List Int} (h : 8 ≤ D.length) : ∃ x0 x1 x2 x3 x4 x5 x6 x7 r, D = x0 :: x1 :: x2 :: x3 :: x4 :: x5 :: x6 :: x7 :: r := by
  match D, h with
  | x0 :: x1 :: x2 :: x3 :: x4 :: x5 :: x6 :: x7 :: r, _ => exact ⟨x0, x1, x2, x3, x4, x5, x6, x7, r, rfl⟩
/-- Behind q times eight digits stand q times five bytes. -/
theorem d32_drop : ∀ (q : Nat) (D : List Int), 8 * q ≤ D.length → (d32 D).drop (5 * q) = d32 (D.drop (8 * q)) ∧ 5 * q ≤ (d32 D).length
  | 0, D, _ => by simp
  | q + 1, D, h => by
    obtain ⟨x0, x1, x2, x3, x4, x5, x6, x7, r, rfl⟩ := eight (D := D) (by omega)
    have ih := d32_drop q r (by simp only [List.length_cons] at h; omega)
    rw [show 5 * (q + 1) = 5 * q + 5 from by omega, show 8 * (q + 1) = 8 * q + 8 from by omega]
    simp only [d32, List.drop_succ_cons, List.length_cons]
    exact ⟨ih.1, by omega⟩
theorem d32_get (q j : Nat) (D : List Int) (h : 8 * q ≤ D.length) : (d32 D).getD (5 * q + j) 0 = (d32 (D.drop (8 * q))).getD j 0 := by
  rw [← (d32_drop q D h).1, List.getD_eq_getElem?_getD, List.getD_eq_getElem?_getD, List.getElem?_drop]
theorem drop_eight (q : Nat) (D : List Int) (h : 8 * q + 8 ≤ D.length) :
    D.drop (8 * q) = D.getD (8 * q) 0 :: D.getD (8 * q + 1) 0 :: D.getD (8 * q + 2) 0 :: D.getD (8 * q + 3) 0 :: D.getD (8 * q + 4) 0 :: D.getD (8 * q + 5) 0 :: D.getD (8 * q + 6) 0 :: D.getD (8 * q + 7) 0 :: D.drop (8 * (q + 1)) := by
  obtain ⟨x0, x1, x2, x3, x4, x5, x6, x7, r, e⟩ := eight (D := D.drop (8 * q)) (by rw [List.length_drop]; omega)
  have g : ∀ j, D.getD (8 * q + j) 0 = (D.drop (8 * q)).getD j 0 := fun j => by
    rw [List.getD_eq_getElem?_getD, List.getD_eq_getElem?_getD, List.getElem?_drop]
  have g0 := g 0
  rw [Nat.add_zero] at g0
  rw [g0, g 1, g 2, g 3, g 4, g 5, g 6, g 7, e, show 8 * (q + 1) = 8 * q + 8 from by omega, ← List.drop_drop, e]
  rfl
theorem drop_some (q : Nat) (D : List Int) : ∀ (k i : Nat), D.length = q + i + k → D.drop (q + i) = (List.range k).map (fun j => D.getD (q + i + j) 0)
  | 0, i, h => by rw [List.drop_of_length_le (by omega)]; rfl
  | k + 1, i, h => by
    have ih := drop_some q D k (i + 1) (by omega)
    rw [List.drop_eq_getElem_cons (by omega), show q + i + 1 = q + (i + 1) from by omega, ih, List.range_succ_eq_map, List.map_cons, List.map_map]
    congr 1
    · simp [List.getD_eq_getElem?_getD, List.getElem?_eq_getElem (show q + i < D.length by omega)]
    · apply List.map_congr_left
      intro j _
      simp only [Function.comp]
      rw [show q + (i + 1) + j = q + i + (j + 1) from by omega]
end Go.Proofs.YtflafpklphgbpaaGreatDoor
namespace Go.Proofs.YtflafpklphgbpaaGreatDoor
open Go
set_option linter.unusedVariables false
set_option linter.unusedSimpArgs false
set_option maxRecDepth 100000

theorem getD_set (L : List Int) (i j : Nat) (v : Int) (hi : i < L.length) : (L.set i v).getD j 0 = if i = j then v else L.getD j 0 := by
  rw [List.getD_eq_getElem?_getD, List.getElem?_set]
  by_cases e : i = j
  · subst e; rw [if_pos rfl, if_pos rfl, if_pos hi]; rfl
  · rw [if_neg e, if_neg e, ← List.getD_eq_getElem?_getD]
/-- The row: 'o' bytes are told, from p on the letters stand. -/
structure Row32 (D T : List Int) (o p : Nat) (L : List Int) : Prop where
  len : L.length = T.length
  told : ∀ i, i < o → L.getD i 0 = (d32 D).getD i 0
  rest : ∀ i, p ≤ i → i < T.length → L.getD i 0 = T.getD i 0
theorem Row32.start (D T : List Int) : Row32 D T 0 0 T := ⟨rfl, fun i h => by omega, fun i _ _ => rfl⟩
/-- One byte more is told, the highest first: bytes from o + k on are told already. -/
theorem Row32.byt {D T L : List Int} {o p : Nat} (h : Row32 D T o p L) (hb : Byt (d32 D)) (hT : Byt T) (hop : o ≤ p) (hpT : p ≤ T.length) : True := trivial
/-- The five bytes of eight letters. -/
theorem Row32.five {D T L : List Int} {q : Nat} (h : Row32 D T (5 * q) (8 * q) L) (hD : D.length = T.length) (hq : 8 * q + 8 ≤ T.length) {v0 v1 v2 v3 v4 : Int}
    (h0 : v0 = q0 (D.getD (8 * q) 0) (D.getD (8 * q + 1) 0)) (h1 : v1 = q1 (D.getD (8 * q + 1) 0) (D.getD (8 * q + 2) 0) (D.getD (8 * q + 3) 0)) (h2 : v2 = q2 (D.getD (8 * q + 3) 0) (D.getD (8 * q + 4) 0))
    (h3 : v3 = q3 (D.getD (8 * q + 4) 0) (D.getD (8 * q + 5) 0) (D.getD (8 * q + 6) 0)) (h4 : v4 = q4 (D.getD (8 * q + 6) 0) (D.getD (8 * q + 7) 0)) :
    Row32 D T (5 * (q + 1)) (8 * (q + 1)) (((((L.set (5 * q + 4) v4).set (5 * q + 3) v3).set (5 * q + 2) v2).set (5 * q + 1) v1).set (5 * q) v0) := by
  have hl := h.len
  have hd := drop_eight q D (by omega)
  have g : ∀ j, (d32 D).getD (5 * q + j) 0 = (d32 (D.drop (8 * q))).getD j 0 := fun j => d32_get q j D (by omega)
  have g0 := g 0
  rw [Nat.add_zero] at g0
  rw [hd] at g g0
  refine ⟨by simp [hl], fun i hi => ?_, fun i h1 h2 => ?_⟩
  · rw [getD_set _ _ _ _ (by simp; omega), getD_set _ _ _ _ (by simp; omega), getD_set _ _ _ _ (by simp; omega), getD_set _ _ _ _ (by simp; omega), getD_set _ _ _ _ (by omega)]
    rcases Nat.lt_or_ge i (5 * q) with hlt | hge
    · rw [if_neg (by omega), if_neg (by omega), if_neg (by omega), if_neg (by omega), if_neg (by omega)]
      exact h.told i hlt
    · rcases (show i = 5 * q ∨ i = 5 * q + 1 ∨ i = 5 * q + 2 ∨ i = 5 * q + 3 ∨ i = 5 * q + 4 by omega) with rfl | rfl | rfl | rfl | rfl
      · rw [if_pos rfl, g0, h0]; rfl
      · rw [if_neg (by omega), if_pos rfl, g 1, h1]; rfl
      · rw [if_neg (by omega), if_neg (by omega), if_pos rfl, g 2, h2]; rfl
      · rw [if_neg (by omega), if_neg (by omega), if_neg (by omega), if_pos rfl, g 3, h3]; rfl
      · rw [if_neg (by omega), if_neg (by omega), if_neg (by omega), if_neg (by omega), if_pos rfl, g 4, h4]; rfl
  · rw [getD_set _ _ _ _ (by simp; omega), getD_set _ _ _ _ (by simp; omega), getD_set _ _ _ _ (by simp; omega), getD_set _ _ _ _ (by simp; omega), getD_set _ _ _ _ (by omega),
      if_neg (by omega), if_neg (by omega), if_neg (by omega), if_neg (by omega), if_neg (by omega)]
    exact h.rest i (by omega) h2
theorem tail_eq (q r : Nat) (D : List Int) (h : D.length = 8 * q + r) : D.drop (8 * q) = (List.range r).map (fun j => D.getD (8 * q + j) 0) := by
  have := drop_some (8 * q) D r 0 (by omega)
  simpa using this
/-- The bytes of the last letters: seven, five, four, two. -/
theorem Row32.tail {D T L : List Int} {q r k : Nat} (h : Row32 D T (5 * q) (8 * q) L) (hD : D.length = T.length) (hT : T.length = 8 * q + r) {V : List Int} (hV : V = d32 (D.drop (8 * q))) (hk : V.length = k) (hkr : k ≤ r) {L' : List Int}
    (hl : L'.length = L.length) (hlo : ∀ i, i < 5 * q → L'.getD i 0 = L.getD i 0) (hhi : ∀ i, i < k → L'.getD (5 * q + i) 0 = V.getD i 0) :
    Row32 D T (5 * q + k) (8 * q + r) L' ∧ (d32 D).length = 5 * q + k := by
  have hd := d32_drop q D (by omega)
  have hlen : (d32 D).length = 5 * q + k := by
    have := congrArg List.length hd.1
    rw [List.length_drop, ← hV, hk] at this
    omega
  refine ⟨⟨by rw [hl]; exact h.len, fun i hi => ?_, fun i h1 h2 => by omega⟩, hlen⟩
  rcases Nat.lt_or_ge i (5 * q) with hlt | hge
  · rw [hlo i hlt]; exact h.told i hlt
  · obtain ⟨j, rfl⟩ : ∃ j, i = 5 * q + j := ⟨i - 5 * q, by omega⟩
    rw [hhi j (by omega), d32_get q j D (by omega), hV]
/-- The last letters. -/
theorem Row32.t7 {D T L : List Int} {q : Nat} (h : Row32 D T (5 * q) (8 * q) L) (hD : D.length = T.length) (hT : T.length = 8 * q + 7) {v0 v1 v2 v3 : Int} (h0 : v0 = q0 (D.getD (8 * q) 0) (D.getD (8 * q + 1) 0)) (h1 : v1 = q1 (D.getD (8 * q + 1) 0) (D.getD (8 * q + 2) 0) (D.getD (8 * q + 3) 0)) (h2 : v2 = q2 (D.getD (8 * q + 3) 0) (D.getD (8 * q + 4) 0)) (h3 : v3 = q3 (D.getD (8 * q + 4) 0) (D.getD (8 * q + 5) 0) (D.getD (8 * q + 6) 0)) :
    Row32 D T (5 * q + 4) (8 * q + 7) ((((L.set (5 * q + 3) v3).set (5 * q + 2) v2).set (5 * q + 1) v1).set (5 * q) v0) ∧ (d32 D).length = 5 * q + 4 := by
  have hl := h.len
  have hd := tail_eq q 7 D (by omega)
  refine h.tail (r := 7) (k := 4) hD hT (V := [v0, v1, v2, v3]) ?_ rfl (by omega) (by simp) (fun i hi => ?_) (fun i hi => ?_)
  · rw [hd, h0, h1, h2, h3]; simp [List.range_succ, d32]
  · rw [getD_set _ _ _ _ (by simp; omega), getD_set _ _ _ _ (by simp; omega), getD_set _ _ _ _ (by simp; omega), getD_set _ _ _ _ (by omega), if_neg (by omega), if_neg (by omega), if_neg (by omega), if_neg (by omega)]
  · rw [getD_set _ _ _ _ (by simp; omega), getD_set _ _ _ _ (by simp; omega), getD_set _ _ _ _ (by simp; omega), getD_set _ _ _ _ (by omega)]
    rcases (show i = 0 ∨ i = 1 ∨ i = 2 ∨ i = 3 by omega) with rfl | rfl | rfl | rfl
    · rw [if_pos (by omega)]; rfl
    · rw [if_neg (by omega), if_pos (by omega)]; rfl
    · rw [if_neg (by omega), if_neg (by omega), if_pos (by omega)]; rfl
    · rw [if_neg (by omega), if_neg (by omega), if_neg (by omega), if_pos (by omega)]; rfl
theorem Row32.t5 {D T L : List Int} {q : Nat} (h : Row32 D T (5 * q) (8 * q) L) (hD : D.length = T.length) (hT : T.length = 8 * q + 5) {v0 v1 v2 : Int} (h0 : v0 = q0 (D.getD (8 * q) 0) (D.getD (8 * q + 1) 0)) (h1 : v1 = q1 (D.getD (8 * q + 1) 0) (D.getD (8 * q + 2) 0) (D.getD (8 * q + 3) 0)) (h2 : v2 = q2 (D.getD (8 * q + 3) 0) (D.getD (8 * q + 4) 0)) :
    Row32 D T (5 * q + 3) (8 * q + 5) (((L.set (5 * q + 2) v2).set (5 * q + 1) v1).set (5 * q) v0) ∧ (d32 D).length = 5 * q + 3 := by
  have hl := h.len
  have hd := tail_eq q 5 D (by omega)
  refine h.tail (r := 5) (k := 3) hD hT (V := [v0, v1, v2]) ?_ rfl (by omega) (by simp) (fun i hi => ?_) (fun i hi => ?_)
  · rw [hd, h0, h1, h2]; simp [List.range_succ, d32]
  · rw [getD_set _ _ _ _ (by simp; omega), getD_set _ _ _ _ (by simp; omega), getD_set _ _ _ _ (by omega), if_neg (by omega), if_neg (by omega), if_neg (by omega)]
  · rw [getD_set _ _ _ _ (by simp; omega), getD_set _ _ _ _ (by simp; omega), getD_set _ _ _ _ (by omega)]
    rcases (show i = 0 ∨ i = 1 ∨ i = 2 by omega) with rfl | rfl | rfl
    · rw [if_pos (by omega)]; rfl
    · rw [if_neg (by omega), if_pos (by omega)]; rfl
    · rw [if_neg (by omega), if_neg (by omega), if_pos (by omega)]; rfl
theorem Row32.t4 {D T L : List Int} {q : Nat} (h : Row32 D T (5 * q) (8 * q) L) (hD : D.length = T.length) (hT : T.length = 8 * q + 4) {v0 v1 : Int} (h0 : v0 = q0 (D.getD (8 * q) 0) (D.getD (8 * q + 1) 0)) (h1 : v1 = q1 (D.getD (8 * q + 1) 0) (D.getD (8 * q + 2) 0) (D.getD (8 * q + 3) 0)) :
    Row32 D T (5 * q + 2) (8 * q + 4) ((L.set (5 * q + 1) v1).set (5 * q) v0) ∧ (d32 D).length = 5 * q + 2 := by
  have hl := h.len
  have hd := tail_eq q 4 D (by omega)
  refine h.tail (r := 4) (k := 2) hD hT (V := [v0, v1]) ?_ rfl (by omega) (by simp) (fun i hi => ?_) (fun i hi => ?_)
  · rw [hd, h0, h1]; simp [List.range_succ, d32]
  · rw [getD_set _ _ _ _ (by simp; omega), getD_set _ _ _ _ (by omega), if_neg (by omega), if_neg (by omega)]
  · rw [getD_set _ _ _ _ (by simp; omega), getD_set _ _ _ _ (by omega)]
    rcases (show i = 0 ∨ i = 1 by omega) with rfl | rfl
    · rw [if_pos (by omega)]; rfl
    · rw [if_neg (by omega), if_pos (by omega)]; rfl
theorem Row32.t2 {D T L : List Int} {q : Nat} (h : Row32 D T (5 * q) (8 * q) L) (hD : D.length = T.length) (hT : T.length = 8 * q + 2) {v0 : Int} (h0 : v0 = q0 (D.getD (8 * q) 0) (D.getD (8 * q + 1) 0)) :
    Row32 D T (5 * q + 1) (8 * q + 2) (L.set (5 * q) v0) ∧ (d32 D).length = 5 * q + 1 := by
  have hl := h.len
  have hd := tail_eq q 2 D (by omega)
  refine h.tail (r := 2) (k := 1) hD hT (V := [v0]) ?_ rfl (by omega) (by simp) (fun i hi => ?_) (fun i hi => ?_)
  · rw [hd, h0]; simp [List.range_succ, d32]
  · rw [getD_set _ _ _ _ (by omega), if_neg (by omega)]
  · rw [getD_set _ _ _ _ (by omega)]
    rcases (show i = 0 by omega) with rfl
    · rw [if_pos (by omega)]; rfl
/-- All are told. -/
theorem Row32.done {D T L : List Int} {p : Nat} (h : Row32 D T (d32 D).length p L) (hn : (d32 D).length ≤ T.length) : L.take (d32 D).length = d32 D := by
  apply List.ext_getElem
  · rw [List.length_take, h.len]; omega
  · intro i h1 h2
    have := h.told i h2
    have hi : i < L.length := by rw [h.len]; omega
    rw [List.getElem_take]
    simpa [List.getD_eq_getElem?_getD, List.getElem?_eq_getElem hi, List.getElem?_eq_getElem h2] using this
/-- Bytes joined of digits. -/
theorem u8_join (i : Nat) (hi : i ≤ 8) (x y : Int) (h0 : 0 ≤ x) (h1 : x < 256) (h2 : x % 2 ^ i = 0) (h3 : 0 ≤ y) (h4 : y < 2 ^ i) (h5 : y < 256) : bits .or .u8 x y = x + y :=
  bits_join .u8 8 (by decide) wraps_u8 i x y h0 h2 h1 h3 h4 h5
end Go.Proofs.YtflafpklphgbpaaGreatDoor
