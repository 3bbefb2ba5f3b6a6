/- Decoders of bases that are no powers of two, plain: words of 32 bits that are multiplied by the base; the bytes that come out of them. -/
import Derived.Test.YtjbaobnhfalceaaGreatDoorT58
namespace Go.Proofs.YtjbaobnhfalceaaGreatDoor
open Go
set_option linter.unusedVariables false
set_option linter.unusedSimpArgs false
set_option maxRecDepth 100000

/-- Words as a number. -/
def v32 : List Int → Int
  | [] => 0
  | x :: r => x * 4294967296 ^ r.length + v32 r
def W32 (L : List Int) : Prop := ∀ x ∈ L, 0 ≤ x ∧ x < 4294967296
theorem W32.tail {d : Int} {N : List Int} (h : W32 (d :: N)) : W32 N := fun x hx => h x (List.mem_cons_of_mem _ hx)
theorem W32.zero (m : Nat) : W32 (List.replicate m 0) := fun x hx => by
  have := (List.mem_replicate.1 hx).2; omega
theorem W32.getD {N : List Int} (h : W32 N) (i : Nat) : 0 ≤ N.getD i 0 ∧ N.getD i 0 < 4294967296 := by
  rw [List.getD_eq_getElem?_getD]
  by_cases hi : i < N.length
  · rw [List.getElem?_eq_getElem hi]; exact h _ (List.getElem_mem hi)
  · rw [List.getElem?_eq_none (by omega)]; simp
theorem p32_pos (n : Nat) : (0 : Int) < 4294967296 ^ n := Int.pow_pos (by omega)
theorem v32_nonneg : ∀ {N : List Int}, W32 N → 0 ≤ v32 N
  | [], _ => by simp [v32]
  | d :: N, h => by
    have hd := h d (by simp)
    have hp := p32_pos N.length
    have ih := v32_nonneg h.tail
    simp only [v32]
    have := Int.mul_nonneg hd.1 (Int.le_of_lt hp)
    omega
theorem v32_zero : ∀ m : Nat, v32 (List.replicate m 0) = 0
  | 0 => rfl
  | m + 1 => by simp [List.replicate_succ, v32, v32_zero m]
/-- Words times b, and c on top. -/
def mulw (b c : Int) : List Int → Int × List Int
  | [] => (c, [])
  | d :: N => ((d * b + (mulw b c N).1) / 4294967296, (d * b + (mulw b c N).1) % 4294967296 :: (mulw b c N).2)
theorem mulw_len (b c : Int) : ∀ N : List Int, (mulw b c N).2.length = N.length
  | [] => rfl
  | d :: N => by simp [mulw, mulw_len b c N]
theorem mulw_ok {b c : Int} (b0 : 1 ≤ b) (b1 : b ≤ 256) (c0 : 0 ≤ c) (c1 : c < b) : ∀ {N : List Int}, W32 N → 0 ≤ (mulw b c N).1 ∧ (mulw b c N).1 < b ∧ W32 (mulw b c N).2
  | [], _ => ⟨c0, c1, fun _ h => by cases h⟩
  | d :: N, h => by
    obtain ⟨h1, h2, h3⟩ := mulw_ok b0 b1 c0 c1 h.tail
    have hd := h d (by simp)
    have h4 : 0 ≤ d * b := Int.mul_nonneg hd.1 (by omega)
    have h5 : d * b ≤ 4294967295 * b := Int.mul_le_mul_of_nonneg_right (by omega) (by omega)
    simp only [mulw]
    generalize (mulw b c N).1 = k at *
    generalize d * b = e at *
    refine ⟨by omega, by omega, fun x hx => ?_⟩
    rcases List.mem_cons.1 hx with rfl | hx
    · omega
    · exact h3 x hx
theorem mulw_val (b c : Int) : ∀ (N : List Int), (mulw b c N).1 * 4294967296 ^ N.length + v32 (mulw b c N).2 = v32 N * b + c
  | [] => by simp [mulw, v32]
  | d :: N => by
    have ih := mulw_val b c N
    have hl := mulw_len b c N
    simp only [mulw, v32, List.length_cons, Int.pow_succ]
    rw [hl]
    have h := Int.emod_add_mul_ediv (d * b + (mulw b c N).1) 4294967296
    generalize (4294967296 : Int) ^ N.length = p at *
    generalize (mulw b c N).1 = k at *
    generalize v32 (mulw b c N).2 = VM at *
    generalize (d * b + k) / 4294967296 = q at *
    generalize (d * b + k) % 4294967296 = r at *
    generalize v32 N = VN at *
    grind
/-- The inner loop's next word. -/
theorem mulw_next (b y : Int) (N : List Int) (r : Nat) (hr : r < N.length) :
    mulw b y (N.drop r) = ((N.getD r 0 * b + (mulw b y (N.drop (r + 1))).1) / 4294967296, (N.getD r 0 * b + (mulw b y (N.drop (r + 1))).1) % 4294967296 :: (mulw b y (N.drop (r + 1))).2) := by
  rw [List.drop_eq_getElem_cons hr]
  simp [mulw, List.getD_eq_getElem?_getD, List.getElem?_eq_getElem hr]
/-- Digits as a number, behind a number. -/
def vf (b : Int) (D : List Int) (v : Int) : Int := D.foldl (fun v d => v * b + d) v
theorem vf_app (b : Int) (D E : List Int) (v : Int) : vf b (D ++ E) v = vf b E (vf b D v) := by simp [vf, List.foldl_append]
def DgB (b : Int) (D : List Int) : Prop := ∀ d ∈ D, 0 ≤ d ∧ d < b
theorem DgB.tail {b d : Int} {N : List Int} (h : DgB b (d :: N)) : DgB b N := fun x hx => h x (List.mem_cons_of_mem _ hx)
theorem DgB.take {b : Int} {N : List Int} (h : DgB b N) (k : Nat) : DgB b (N.take k) := fun x hx => h x (List.mem_of_mem_take hx)
theorem DgB.getD {b : Int} {N : List Int} (h : DgB b N) {i : Nat} (hi : i < N.length) : 0 ≤ N.getD i 0 ∧ N.getD i 0 < b := by
  rw [List.getD_eq_getElem?_getD, List.getElem?_eq_getElem hi]; exact h _ (List.getElem_mem hi)
theorem vf_ge {b : Int} (b0 : 1 ≤ b) : ∀ (D : List Int) (v : Int), DgB b D → 0 ≤ v → v ≤ vf b D v
  | [], v, _, _ => Int.le_refl _
  | d :: D, v, h, h0 => by
    have hd := h d (by simp)
    have h1 : v * 1 ≤ v * b := Int.mul_le_mul_of_nonneg_left b0 h0
    have := vf_ge b0 D (v * b + d) h.tail (by omega)
    simp only [vf, List.foldl_cons] at this ⊢
    omega
theorem vf_more {b : Int} (b0 : 2 ≤ b) (E : List Int) {v : Int} (h : DgB b E) (hE : E ≠ []) (hv : 1 ≤ v) : v < vf b E v := by
  cases E with
  | nil => exact absurd rfl hE
  | cons d E =>
    have hd := h d (by simp)
    have h1 : v * 2 ≤ v * b := Int.mul_le_mul_of_nonneg_left b0 (by omega)
    have := vf_ge (show 1 ≤ b by omega) E (v * b + d) h.tail (by omega)
    simp only [vf, List.foldl_cons] at this ⊢
    omega
theorem vf_lt {b : Int} (b0 : 1 ≤ b) : ∀ (D : List Int) (v : Int), DgB b D → 0 ≤ v → vf b D v < (v + 1) * b ^ D.length
  | [], v, _, _ => by simp [vf]; omega
  | d :: D, v, h, h0 => by
    have hd := h d (by simp)
    have h1 : 0 ≤ v * b := Int.mul_nonneg h0 (by omega)
    have h2 := vf_lt b0 D (v * b + d) h.tail (by omega)
    have h3 : (v * b + d + 1) * b ^ D.length ≤ (v * b + b) * b ^ D.length := Int.mul_le_mul_of_nonneg_right (by omega) (Int.le_of_lt (Int.pow_pos (by omega)))
    have h4 : (v + 1) * b ^ (d :: D).length = (v * b + b) * b ^ D.length := by
      rw [List.length_cons, Int.pow_succ]; grind
    simp only [vf, List.foldl_cons] at h2 ⊢
    omega
theorem vf_v58 : ∀ (D : List Int) (v : Int), vf 58 D v = v * 58 ^ D.length + v58 D
  | [], v => by simp [vf, v58]
  | d :: D, v => by
    have := vf_v58 D (v * 58 + d)
    simp only [vf, List.foldl_cons] at this ⊢
    rw [this]
    simp only [v58, List.length_cons, Int.pow_succ]
    generalize (58 : Int) ^ D.length = p
    grind
theorem v256_vf (l : List Int) : v256 l = vf 256 l 0 := rfl
/-- The words behind digits. -/
def rowF (b : Int) (D N : List Int) : List Int := D.foldl (fun N d => (mulw b d N).2) N
theorem rowF_len (b : Int) : ∀ (D N : List Int), (rowF b D N).length = N.length
  | [], N => rfl
  | d :: D, N => by
    have := rowF_len b D (mulw b d N).2
    rw [mulw_len] at this
    exact this
theorem rowF_ok {b : Int} (b0 : 1 ≤ b) (b1 : b ≤ 256) : ∀ (D N : List Int), DgB b D → W32 N → W32 (rowF b D N)
  | [], N, _, h => h
  | d :: D, N, hD, h => by
    have hd := hD d (by simp)
    exact rowF_ok b0 b1 D _ hD.tail (mulw_ok b0 b1 hd.1 hd.2 h).2.2
theorem mulw_fit {b c : Int} (b0 : 1 ≤ b) (b1 : b ≤ 256) (c0 : 0 ≤ c) (c1 : c < b) {N : List Int} (h : W32 N) (hf : v32 N * b + c < 4294967296 ^ N.length) : (mulw b c N).1 = 0 ∧ v32 (mulw b c N).2 = v32 N * b + c := by
  obtain ⟨h1, h2, h3⟩ := mulw_ok b0 b1 c0 c1 h
  have hv := mulw_val b c N
  have hn := v32_nonneg h3
  have hp := p32_pos N.length
  have hz : (mulw b c N).1 = 0 := by
    rcases Int.lt_or_le 0 (mulw b c N).1 with hk | hk
    · have : 1 * 4294967296 ^ N.length ≤ (mulw b c N).1 * 4294967296 ^ N.length := Int.mul_le_mul_of_nonneg_right (by omega) (Int.le_of_lt hp)
      omega
    · omega
  refine ⟨hz, ?_⟩
  rw [hz] at hv
  omega
theorem rowF_val {b : Int} (b0 : 1 ≤ b) (b1 : b ≤ 256) : ∀ (D N : List Int), DgB b D → W32 N → vf b D (v32 N) < 4294967296 ^ N.length → v32 (rowF b D N) = vf b D (v32 N)
  | [], N, _, _, _ => rfl
  | d :: D, N, hD, h, hf => by
    have hd := hD d (by simp)
    have hn := v32_nonneg h
    have h1 : 0 ≤ v32 N * b := Int.mul_nonneg hn (by omega)
    have hge := vf_ge b0 D (v32 N * b + d) hD.tail (by omega)
    have e : vf b (d :: D) (v32 N) = vf b D (v32 N * b + d) := rfl
    rw [e] at hf ⊢
    obtain ⟨h2, h3⟩ := mulw_fit b0 b1 hd.1 hd.2 h (by omega)
    have := rowF_val b0 b1 D (mulw b d N).2 hD.tail (mulw_ok b0 b1 hd.1 hd.2 h).2.2 (by rw [h3, mulw_len]; exact hf)
    rw [h3] at this
    exact this
/-- The bytes of words. -/
def wb4 (x : Int) : List Int := [x / 16777216 % 256, x / 65536 % 256, x / 256 % 256, x % 256]
def full (L : List Int) : List Int := L.flatMap wb4
theorem full_len : ∀ L : List Int, (full L).length = 4 * L.length
  | [] => rfl
  | x :: L => by
    have := full_len L
    simp only [full, List.flatMap_cons, List.length_append, List.length_cons] at this ⊢
    rw [this]; simp [wb4]; omega
theorem wb4_byt (x : Int) : Byt (wb4 x) := fun y hy => by
  simp only [wb4, List.mem_cons, List.not_mem_nil, or_false] at hy
  rcases hy with rfl | rfl | rfl | rfl <;> omega
theorem full_byt (L : List Int) : Byt (full L) := fun y hy => by
  obtain ⟨x, _, hx⟩ := List.mem_flatMap.1 hy
  exact wb4_byt x y hx
theorem full_get : ∀ (L : List Int) (j p : Nat), j < L.length → p < 4 → (full L).getD (4 * j + p) 0 = L.getD j 0 / 2 ^ (24 - 8 * p) % 256
  | [], j, p, h, _ => by simp at h
  | x :: L, 0, p, _, hp => by
    simp only [full, List.flatMap_cons]
    rw [List.getD_eq_getElem?_getD, List.getElem?_append_left (by simp [wb4]; omega)]
    rcases (show p = 0 ∨ p = 1 ∨ p = 2 ∨ p = 3 by omega) with rfl | rfl | rfl | rfl <;> simp [wb4]
  | x :: L, j + 1, p, h, hp => by
    have ih := full_get L j p (by simpa using h) hp
    simp only [full, List.flatMap_cons] at ih ⊢
    rw [List.getD_eq_getElem?_getD, List.getElem?_append_right (by simp [wb4]; omega), ← List.getD_eq_getElem?_getD]
    rw [show 4 * (j + 1) + p - (wb4 x).length = 4 * j + p from by simp [wb4]; omega, ih]
    simp
theorem vf_wb4 (x v : Int) (h0 : 0 ≤ x) (h1 : x < 4294967296) : vf 256 (wb4 x) v = v * 4294967296 + x := by
  simp only [vf, wb4, List.foldl_cons, List.foldl_nil]
  omega
theorem vf_full : ∀ (L : List Int) (v : Int), W32 L → vf 256 (full L) v = v * 4294967296 ^ L.length + v32 L
  | [], v, _ => by simp [full, vf, v32]
  | x :: L, v, h => by
    have hx := h x (by simp)
    have ih := vf_full L (v * 4294967296 + x) h.tail
    have e : full (x :: L) = wb4 x ++ full L := by simp [full]
    rw [e, vf_app, vf_wb4 x v hx.1 hx.2, ih]
    simp only [v32, List.length_cons, Int.pow_succ]
    generalize (4294967296 : Int) ^ L.length = p
    grind
theorem v256_full (L : List Int) (h : W32 L) : v256 (full L) = v32 L := by
  rw [v256_vf, vf_full L 0 h]; simp
/-- .. the last n of them. -/
def outB (L : List Int) (n : Nat) : List Int := (full L).drop (4 * L.length - n)
theorem outB_len {L : List Int} {n : Nat} (h : n ≤ 4 * L.length) : (outB L n).length = n := by
  simp [outB, full_len]; omega
theorem outB_byt (L : List Int) (n : Nat) : Byt (outB L n) := (full_byt L).drop _
theorem outB_get {L : List Int} {n j p i : Nat} (hn : n ≤ 4 * L.length) (hj : j < L.length) (hp : p < 4) (hi : i + (4 * L.length - n) = 4 * j + p) : (outB L n).getD i 0 = L.getD j 0 / 2 ^ (24 - 8 * p) % 256 := by
  rw [← full_get L j p hj hp, ← hi]
  unfold outB
  rw [List.getD_eq_getElem?_getD, List.getElem?_drop, List.getD_eq_getElem?_getD, Nat.add_comm]
theorem v256_nonneg {l : List Int} (h : Byt l) : 0 ≤ v256 l := vf_ge (b := 256) (by omega) l 0 (fun x hx => h x hx) (by omega)
theorem v256_lt {l : List Int} (h : Byt l) : v256 l < 256 ^ l.length := by
  have := vf_lt (b := 256) (by omega) l 0 (fun x hx => h x hx) (by omega)
  rw [v256_vf]
  simpa using this
/-- Where a number is small, its first bytes are zeros. -/
theorem v256_split (l : List Int) (k : Nat) (hk : k ≤ l.length) : v256 l = v256 (l.take k) * 256 ^ (l.length - k) + v256 (l.drop k) := by
  have h : ∀ (D : List Int) (v : Int), vf 256 D v = v * 256 ^ D.length + vf 256 D 0 := by
    intro D
    induction D with
    | nil => intro v; simp [vf]
    | cons d D ih =>
      intro v
      have h1 := ih (v * 256 + d)
      have h2 := ih (0 * 256 + d)
      simp only [vf, List.foldl_cons] at h1 h2 ⊢
      rw [h1, h2]
      simp only [List.length_cons, Int.pow_succ]
      generalize (256 : Int) ^ D.length = p
      grind
  rw [v256_vf, v256_vf, v256_vf]
  conv => lhs; rw [← List.take_append_drop k l, vf_app, h]
  rw [List.length_drop]
theorem v256_small {l : List Int} (h : Byt l) {k : Nat} (hk : k ≤ l.length) (hv : v256 l < 256 ^ (l.length - k)) : v256 (l.take k) = 0 ∧ v256 (l.drop k) = v256 l := by
  have hs := v256_split l k hk
  have h1 := v256_nonneg (h.take k)
  have h2 := v256_nonneg (h.drop k)
  have hp : (0 : Int) < 256 ^ (l.length - k) := Int.pow_pos (by omega)
  have hz : v256 (l.take k) = 0 := by
    rcases Int.lt_or_le 0 (v256 (l.take k)) with hh | hh
    · have : 1 * 256 ^ (l.length - k) ≤ v256 (l.take k) * 256 ^ (l.length - k) := Int.mul_le_mul_of_nonneg_right (by omega) (Int.le_of_lt hp)
      omega
    · omega
  rw [hz] at hs ⊢
  exact ⟨rfl, by omega⟩
theorem v256_zeros : ∀ {l : List Int}, Byt l → v256 l = 0 → zs l = l.length
  | [], _, _ => rfl
  | x :: l, h, hv => by
    have hx := h x (by simp)
    have hs := v256_split (x :: l) 1 (by simp)
    have h1 := v256_nonneg (h.drop 1)
    have hp : (0 : Int) < 256 ^ ((x :: l).length - 1) := Int.pow_pos (by omega)
    have e1 : v256 ((x :: l).take 1) = x := by simp [v256]
    rw [hv, e1] at hs
    have h2 : 0 ≤ x * 256 ^ ((x :: l).length - 1) := Int.mul_nonneg hx.1 (Int.le_of_lt hp)
    have hz : x = 0 := by
      rcases Int.lt_or_le 0 x with hh | hh
      · have : 1 * 256 ^ ((x :: l).length - 1) ≤ x * 256 ^ ((x :: l).length - 1) := Int.mul_le_mul_of_nonneg_right (by omega) (Int.le_of_lt hp)
        omega
      · omega
    have hl : v256 l = 0 := by
      have e2 : (x :: l).drop 1 = l := rfl
      rw [e2] at hs h1
      rw [hz] at hs
      omega
    have := v256_zeros (l := l) (fun y hy => h y (List.mem_cons_of_mem _ hy)) hl
    unfold zs
    rw [if_pos hz, this]; simp
theorem zs_take_ge : ∀ (l : List Int) (k : Nat), k ≤ l.length → zs (l.take k) = (l.take k).length → k ≤ zs l
  | _, 0, _, _ => Nat.zero_le _
  | [], k + 1, h, _ => by simp at h
  | x :: l, k + 1, h, hz => by
    simp only [List.take_succ_cons, zs, List.length_cons] at hz ⊢
    split at hz
    · rename_i hx
      rw [if_pos hx]
      have := zs_take_ge l k (by simpa using h) (by omega)
      omega
    · omega
theorem v256_dropz : ∀ (l : List Int) (j : Nat), j ≤ zs l → v256 (l.drop j) = v256 l
  | _, 0, _ => by simp
  | [], j + 1, h => by simp
  | x :: l, j + 1, h => by
    unfold zs at h
    split at h
    · rename_i hx
      subst hx
      have := v256_dropz l j (by omega)
      rw [List.drop_succ_cons, this]
      show v256 l = _
      rfl
    · omega
/-- What a decoder tells of digits: the number's bytes, as many as there are digits; of the zeros ahead as many as there are digits 0 ahead. -/
def decB (b : Int) (D : List Int) : List Int :=
  (fun o : List Int => if zs o = o.length then o else o.drop (zs o - zs D)) (outB (rowF b D (List.replicate ((D.length + 3) / 4) 0)) D.length)
theorem decB_len (b : Int) (D : List Int) : (decB b D).length ≤ D.length := by
  have h : (outB (rowF b D (List.replicate ((D.length + 3) / 4) 0)) D.length).length = D.length := outB_len (by rw [rowF_len, List.length_replicate]; omega)
  unfold decB
  simp only
  split
  · omega
  · rw [List.length_drop]; omega
theorem pow_le (b : Int) (b0 : 1 ≤ b) (b1 : b ≤ 256) : ∀ n : Nat, b ^ n ≤ 256 ^ n
  | 0 => by simp
  | n + 1 => by
    have ih := pow_le b b0 b1 n
    have hp : (0 : Int) < b ^ n := Int.pow_pos (by omega)
    have h1 : b ^ n * b ≤ b ^ n * 256 := Int.mul_le_mul_of_nonneg_left b1 (Int.le_of_lt hp)
    rw [Int.pow_succ, Int.pow_succ]
    omega
theorem p256_mono (m : Nat) : ∀ k : Nat, (256 : Int) ^ m ≤ 256 ^ (m + k)
  | 0 => Int.le_refl _
  | k + 1 => by
    have := p256_mono m k
    have hp : (0 : Int) < 256 ^ (m + k) := Int.pow_pos (by omega)
    rw [← Nat.add_assoc, Int.pow_succ]
    omega
theorem p32_256 (m : Nat) : (4294967296 : Int) ^ m = 256 ^ (4 * m) := by rw [Int.pow_mul]; rfl
theorem p256_room {b : Int} (b0 : 1 ≤ b) (b1 : b ≤ 256) {n m : Nat} (h : n ≤ 4 * m) : b ^ n ≤ 4294967296 ^ m := by
  have h1 := pow_le b b0 b1 n
  have h2 := p256_mono n (4 * m - n)
  rw [p32_256, show 4 * m = n + (4 * m - n) from by omega]
  omega
theorem vf_lt0 {b : Int} (b0 : 1 ≤ b) {D : List Int} (hD : DgB b D) : vf b D 0 < b ^ D.length := by
  have := vf_lt b0 D 0 hD (by omega)
  simpa using this
theorem rowF_v {b : Int} (b0 : 1 ≤ b) (b1 : b ≤ 256) {D : List Int} (hD : DgB b D) {m : Nat} (hm : D.length ≤ 4 * m) : v32 (rowF b D (List.replicate m 0)) = vf b D 0 := by
  have h := vf_lt0 b0 hD
  have h2 := p256_room b0 b1 hm
  have := rowF_val b0 b1 D (List.replicate m 0) hD (W32.zero m) (by rw [v32_zero, List.length_replicate]; omega)
  rw [v32_zero] at this
  exact this
theorem v256_outB {L : List Int} {n : Nat} (h : W32 L) (hn : n ≤ 4 * L.length) (hv : v32 L < 256 ^ n) : v256 (outB L n) = v32 L := by
  have hf := full_len L
  have hv2 := v256_full L h
  have := v256_small (full_byt L) (k := 4 * L.length - n) (by omega) (by rw [hv2, hf, show 4 * L.length - (4 * L.length - n) = n from by omega]; exact hv)
  unfold outB
  rw [this.2, hv2]
theorem v256_decB {b : Int} (b0 : 1 ≤ b) (b1 : b ≤ 256) {D : List Int} (hD : DgB b D) : v256 (decB b D) = vf b D 0 := by
  have hr := rowF_v b0 b1 hD (m := (D.length + 3) / 4) (by omega)
  have hw := rowF_ok b0 b1 D _ hD (W32.zero ((D.length + 3) / 4))
  have hlt := vf_lt0 b0 hD
  have hp := pow_le b b0 b1 D.length
  have ho := v256_outB hw (n := D.length) (by rw [rowF_len, List.length_replicate]; omega) (by rw [hr]; omega)
  unfold decB
  simp only
  split
  · rw [ho, hr]
  · rw [v256_dropz _ _ (by omega), ho, hr]
/-- The digits of a text in base 58. -/
def tdig (l : List Int) : List Int := List.replicate (zs l) 0 ++ dig58 l
theorem tdig_ok {l : List Int} (h : Byt l) : DgB 58 (tdig l) := fun x hx => by
  rcases List.mem_append.1 hx with hx | hx
  · have := (List.mem_replicate.1 hx).2; omega
  · exact dig58_ok h x hx
theorem text58_tdig (l : List Int) : text58 l = (tdig l).map sign := by
  unfold text58 tdig
  rw [List.map_append, List.map_replicate]; rfl
theorem vf_zeros (b : Int) : ∀ (n : Nat) (v : Int), v = 0 → vf b (List.replicate n 0) v = 0
  | 0, v, h => h
  | n + 1, v, h => by
    subst h
    have := vf_zeros b n (0 * b + 0) (by simp)
    simpa [vf, List.replicate_succ] using this
theorem vf_tdig {l : List Int} (h : Byt l) : vf 58 (tdig l) 0 = v256 l := by
  unfold tdig
  rw [vf_app, vf_zeros 58 _ _ rfl, vf_v58, ← v58_dig58 h]; simp
/-- A text that is cut tells other bytes. -/
theorem cut_other {l : List Int} (h : Byt l) {k : Nat} (hk : k < (tdig l).length) : decB 58 ((tdig l).take k) ≠ l := by
  intro e
  have hD := tdig_ok h
  have hv := v256_decB (b := 58) (by omega) (by omega) (hD.take k)
  have hw := vf_tdig h
  have hs := vf_app 58 ((tdig l).take k) ((tdig l).drop k) 0
  rw [List.take_append_drop] at hs
  rw [e] at hv
  have hge := vf_ge (b := 58) (by omega) ((tdig l).take k) 0 (hD.take k) (by omega)
  have hl := decB_len 58 ((tdig l).take k)
  rw [e, List.length_take] at hl
  rcases Int.lt_or_le 0 (v256 l) with hh | hh
  · have hne : (tdig l).drop k ≠ [] := fun h0 => by
      have := congrArg List.length h0
      simp at this
      omega
    have := vf_more (b := 58) (by omega) ((tdig l).drop k) (v := vf 58 ((tdig l).take k) 0) (fun x hx => hD x (List.mem_of_mem_drop hx)) hne (by omega)
    omega
  · have h0 : v256 l = 0 := by omega
    have hz := v256_zeros h h0
    have hd : dig58 l = [] := by
      rw [dig58_zs, hz]; simp [dig58]
    have : (tdig l).length = l.length := by
      unfold tdig; rw [hd, hz]; simp
    omega
end Go.Proofs.YtjbaobnhfalceaaGreatDoor
