/- Base 58, plain: the digits of bytes, how they are reckoned. -/
import Derived.Test.YthdbchahmbcfeaaDoorBytes
namespace Go.Proofs.YthdbchahmbcfeaaDoor
open Go
set_option linter.unusedVariables false
set_option linter.unusedSimpArgs false
set_option maxRecDepth 100000

/-- The digits times 256, and a byte more: what is carried out, the digits. -/
def mul58 (c : Int) : List Int → Int × List Int
  | [] => (c, [])
  | d :: N => (((mul58 c N).1 + d * 256) / 58, ((mul58 c N).1 + d * 256) % 58 :: (mul58 c N).2)
/-- What is carried, ahead of the digits. -/
def pre58 (k : Int) (M : List Int) : List Int := if k ≤ 0 then M else if k < 58 then k :: M else k / 58 :: k % 58 :: M
def dstep (N : List Int) (c : Int) : List Int := pre58 (mul58 c N).1 (mul58 c N).2
def dig58 (b : List Int) : List Int := b.foldl dstep []
def DgB (N : List Int) : Prop := ∀ d ∈ N, 0 ≤ d ∧ d < 58
theorem DgB.nil : DgB [] := fun _ h => by cases h
theorem DgB.cons {d : Int} {N : List Int} (h0 : 0 ≤ d) (h1 : d < 58) (h : DgB N) : DgB (d :: N) := fun x hx => by
  rcases List.mem_cons.1 hx with rfl | hx
  · exact ⟨h0, h1⟩
  · exact h x hx
theorem DgB.tail {d : Int} {N : List Int} (h : DgB (d :: N)) : DgB N := fun x hx => h x (List.mem_cons_of_mem _ hx)
theorem DgB.byt {N : List Int} (h : DgB N) : Byt N := fun x hx => by have := h x hx; omega
theorem mul58_ok {c : Int} (c0 : 0 ≤ c) (c1 : c ≤ 255) : ∀ {N : List Int}, DgB N → 0 ≤ (mul58 c N).1 ∧ (mul58 c N).1 ≤ 255 ∧ DgB (mul58 c N).2 ∧ (mul58 c N).2.length = N.length
  | [], _ => ⟨c0, c1, DgB.nil, rfl⟩
  | d :: N, h => by
    obtain ⟨a, b, e, f⟩ := mul58_ok c0 c1 h.tail
    have hd := h d (by simp)
    refine ⟨?_, ?_, DgB.cons ?_ ?_ e, by simp [mul58, f]⟩ <;> (try simp only [mul58]) <;> omega
theorem pre58_ok {k : Int} {M : List Int} (h0 : 0 ≤ k) (h1 : k ≤ 255) (h : DgB M) : DgB (pre58 k M) := by
  unfold pre58
  split
  · exact h
  · split
    · exact DgB.cons (by omega) (by omega) h
    · exact DgB.cons (by omega) (by omega) (DgB.cons (by omega) (by omega) h)
theorem dstep_ok {N : List Int} {c : Int} (c0 : 0 ≤ c) (c1 : c ≤ 255) (h : DgB N) : DgB (dstep N c) := by
  obtain ⟨a, b, e, _⟩ := mul58_ok c0 c1 h
  exact pre58_ok a b e
theorem fold_ok : ∀ (b : List Int) {N : List Int}, Byt b → DgB N → DgB (b.foldl dstep N)
  | [], N, _, h => h
  | c :: b, N, hb, h => by
    have hc := hb c (by simp)
    exact fold_ok b (fun x hx => hb x (List.mem_cons_of_mem _ hx)) (dstep_ok hc.1 (by omega) h)
theorem dig58_ok {b : List Int} (hb : Byt b) : DgB (dig58 b) := fold_ok b hb DgB.nil
theorem dig58_take (b : List Int) (i : Nat) (hi : i < b.length) : dig58 (b.take (i + 1)) = dstep (dig58 (b.take i)) (b.getD i 0) := by
  unfold dig58
  rw [List.take_succ_eq_append_getElem hi, List.foldl_append]
  simp [List.getD_eq_getElem?_getD, List.getElem?_eq_getElem hi]
/-- What they are worth. -/
def v58 : List Int → Int
  | [] => 0
  | d :: N => d * 58 ^ N.length + v58 N
theorem p58_pos (n : Nat) : (0 : Int) < 58 ^ n := Int.pow_pos (by omega)
theorem v58_nonneg : ∀ {N : List Int}, DgB N → 0 ≤ v58 N
  | [], _ => by simp [v58]
  | d :: N, h => by
    have hd := h d (by simp)
    have hp := p58_pos N.length
    have ih := v58_nonneg h.tail
    simp only [v58]
    have := Int.mul_nonneg hd.1 (Int.le_of_lt hp)
    omega
theorem v58_mul (c : Int) : ∀ (N : List Int), (mul58 c N).1 * 58 ^ (mul58 c N).2.length + v58 (mul58 c N).2 = v58 N * 256 + c
  | [] => by simp [mul58, v58]
  | d :: N => by
    have ih := v58_mul c N
    have hl : (mul58 c N).2.length = N.length := by
      clear ih
      induction N with
      | nil => rfl
      | cons d N ih => simp [mul58, ih]
    simp only [mul58, v58, List.length_cons, Int.pow_succ]
    rw [hl] at ih ⊢
    have h := Int.emod_add_mul_ediv ((mul58 c N).1 + d * 256) 58
    generalize (58 : Int) ^ N.length = p at *
    generalize (mul58 c N).1 = k at *
    generalize v58 (mul58 c N).2 = VM at *
    generalize (k + d * 256) / 58 = q at *
    generalize (k + d * 256) % 58 = r at *
    generalize v58 N = VN at *
    grind
theorem v58_pre {k : Int} {M : List Int} (h0 : 0 ≤ k) (h1 : k ≤ 255) : v58 (pre58 k M) = k * 58 ^ M.length + v58 M := by
  unfold pre58
  split
  · obtain rfl : k = 0 := by omega
    simp
  · split
    · simp [v58]
    · simp only [v58, List.length_cons, Int.pow_succ]
      have h := Int.emod_add_mul_ediv k 58
      generalize (58 : Int) ^ M.length = p at *
      generalize k / 58 = q at *
      generalize k % 58 = r at *
      grind
theorem v58_step {N : List Int} {c : Int} (c0 : 0 ≤ c) (c1 : c ≤ 255) (h : DgB N) : v58 (dstep N c) = v58 N * 256 + c := by
  obtain ⟨a, b, _, _⟩ := mul58_ok c0 c1 h
  unfold dstep
  rw [v58_pre a b, v58_mul]
/-- None of them is too many. -/
def Tip (N : List Int) : Prop := N = [] ∨ 1 ≤ N.headD 0
theorem v58_tip {d : Int} {N : List Int} (h : DgB (d :: N)) (h1 : 1 ≤ d) : (58 : Int) ^ N.length ≤ v58 (d :: N) := by
  have := v58_nonneg h.tail
  have hp := p58_pos N.length
  simp only [v58]
  have : (58 : Int) ^ N.length * 1 ≤ (58 : Int) ^ N.length * d := Int.mul_le_mul_of_nonneg_left h1 (Int.le_of_lt hp)
  rw [Int.mul_comm d]
  omega
theorem mul58_tip {c d : Int} {N : List Int} (c0 : 0 ≤ c) (c1 : c ≤ 255) (h : DgB (d :: N)) (h1 : 1 ≤ d) : 1 ≤ (mul58 c (d :: N)).1 := by
  obtain ⟨a, _, _, _⟩ := mul58_ok c0 c1 h.tail
  simp only [mul58]
  omega
theorem pre58_tip {k : Int} {M : List Int} (h : 1 ≤ k) : Tip (pre58 k M) := by
  unfold pre58 Tip
  right
  rw [if_neg (by omega)]
  split
  · simpa using h
  · simp; omega
theorem dstep_tip {N : List Int} {c : Int} (c0 : 0 ≤ c) (c1 : c ≤ 255) (h : DgB N) (ht : Tip N) : Tip (dstep N c) := by
  cases N with
  | nil =>
    unfold dstep
    simp only [mul58]
    by_cases hc : 1 ≤ c
    · exact pre58_tip hc
    · unfold pre58; rw [if_pos (by omega)]; exact .inl rfl
  | cons d N =>
    rcases ht with ht | ht
    · cases ht
    · exact pre58_tip (mul58_tip c0 c1 h (by simpa using ht))
theorem fold_tip : ∀ (b : List Int) {N : List Int}, Byt b → DgB N → Tip N → Tip (b.foldl dstep N)
  | [], N, _, _, h => h
  | c :: b, N, hb, h, ht => by
    have hc := hb c (by simp)
    exact fold_tip b (fun x hx => hb x (List.mem_cons_of_mem _ hx)) (dstep_ok hc.1 (by omega) h) (dstep_tip hc.1 (by omega) h ht)
theorem dig58_tip {b : List Int} (hb : Byt b) : Tip (dig58 b) := fold_tip b hb DgB.nil (.inl rfl)
theorem fold_val : ∀ (b : List Int) {N : List Int} (m : Int), Byt b → DgB N → v58 N < m → 0 ≤ m → v58 (b.foldl dstep N) < m * 256 ^ b.length
  | [], N, m, _, _, h, _ => by simpa using h
  | c :: b, N, m, hb, h, hm, h0 => by
    have hc := hb c (by simp)
    have h2 := fold_val b (N := dstep N c) (m * 256) (fun x hx => hb x (List.mem_cons_of_mem _ hx)) (dstep_ok hc.1 (by omega) h) (by rw [v58_step hc.1 (by omega) h]; omega) (by omega)
    simp only [List.foldl_cons, List.length_cons, Int.pow_succ]
    have e : m * (256 ^ b.length * 256) = m * 256 * 256 ^ b.length := by rw [Int.mul_comm (256 ^ b.length) 256, Int.mul_assoc]
    rw [e]; exact h2
theorem dig58_val {b : List Int} (hb : Byt b) : v58 (dig58 b) < 256 ^ b.length := by
  have := fold_val b 1 hb DgB.nil (by simp [v58]) (by omega)
  simpa [dig58] using this
theorem p58_mono (m : Nat) : ∀ k : Nat, (58 : Int) ^ m ≤ 58 ^ (m + k)
  | 0 => Int.le_refl _
  | k + 1 => by
    have := p58_mono m k
    have hp := p58_pos (m + k)
    rw [← Nat.add_assoc, Int.pow_succ]
    omega
theorem room58 : ∀ n : Nat, n < 128 → (256 : Int) ^ n ≤ 58 ^ (n * 138 / 100 + 1) := by decide +kernel
/-- They fit into the room that the code makes for them. -/
theorem dig58_len {b : List Int} (hb : Byt b) (hn : b.length < 128) : (dig58 b).length ≤ b.length * 138 / 100 + 1 := by
  have hv := dig58_val hb
  have hr := room58 b.length hn
  have hd := dig58_ok hb
  rcases dig58_tip hb with h | h
  · rw [h]; simp
  · cases hN : dig58 b with
    | nil => simp
    | cons d N =>
      rw [hN] at hv hd h
      have ht := v58_tip hd (by simpa using h)
      have hlt : (58 : Int) ^ N.length < 58 ^ (b.length * 138 / 100 + 1) := by omega
      rcases Nat.lt_or_ge N.length (b.length * 138 / 100 + 1) with hh | hh
      · simp only [List.length_cons]; omega
      · have := p58_mono (b.length * 138 / 100 + 1) (N.length - (b.length * 138 / 100 + 1))
        rw [show b.length * 138 / 100 + 1 + (N.length - (b.length * 138 / 100 + 1)) = N.length from by omega] at this
        omega
/-- Zeros ahead tell nothing. -/
theorem dstep_zero : dstep [] 0 = [] := by simp [dstep, mul58, pre58]
/-- How many zeros stand ahead. -/
def zs : List Int → Nat
  | [] => 0
  | c :: b => if c = 0 then zs b + 1 else 0
theorem zs_le : ∀ b : List Int, zs b ≤ b.length
  | [] => Nat.le_refl _
  | c :: b => by unfold zs; split <;> simp; have := zs_le b; omega
theorem zs_zero : ∀ (b : List Int) (i : Nat), i < zs b → b.getD i 0 = 0
  | [], i, h => by simp
  | c :: b, i, h => by
    unfold zs at h
    split at h
    · rename_i hc
      cases i with
      | zero => simpa using hc
      | succ i => simpa using zs_zero b i (by omega)
    · omega
theorem zs_stop : ∀ (b : List Int), zs b < b.length → b.getD (zs b) 0 ≠ 0
  | [], h => by simp [zs] at h
  | c :: b, h => by
    unfold zs at h ⊢
    split at h
    · rename_i hc
      rw [if_pos hc]
      simp only [List.length_cons] at h
      simpa using zs_stop b (by omega)
    · rename_i hc
      rw [if_neg hc]
      simpa using hc
theorem dig58_zs : ∀ (b : List Int), dig58 b = dig58 (b.drop (zs b))
  | [] => rfl
  | c :: b => by
    unfold zs
    split
    · rename_i hc
      subst hc
      show (b.foldl dstep (dstep [] 0)) = _
      rw [dstep_zero]
      show dig58 b = _
      simpa using dig58_zs b
    · rfl
/-- The signs. -/
def alpha : List Int := [49, 50, 51, 52, 53, 54, 55, 56, 57, 65, 66, 67, 68, 69, 70, 71, 72, 74, 75, 76, 77, 78, 80, 81, 82, 83, 84, 85, 86, 87, 88, 89, 90, 97, 98, 99, 100, 101, 102, 103, 104, 105, 106, 107, 109, 110, 111, 112, 113, 114, 115, 116, 117, 118, 119, 120, 121, 122]
def sign (d : Int) : Int := alpha.getD d.toNat 0
/-- The text of bytes. -/
def text58 (b : List Int) : List Int := List.replicate (zs b) 49 ++ (dig58 b).map sign
theorem sign_byt (d : Int) : 0 ≤ sign d ∧ sign d < 256 := by
  unfold sign
  have : ∀ i : Nat, 0 ≤ alpha.getD i 0 ∧ alpha.getD i 0 < 256 := by
    intro i
    rcases Nat.lt_or_ge i 58 with h | h
    · have : ∀ i < 58, 0 ≤ alpha.getD i 0 ∧ alpha.getD i 0 < 256 := by decide
      exact this i h
    · have : alpha.length = 58 := rfl
      rw [List.getD_eq_getElem?_getD, List.getElem?_eq_none (by omega)]; simp
  exact this _
theorem text58_byt (b : List Int) : Byt (text58 b) := by
  intro x hx
  unfold text58 at hx
  rcases List.mem_append.1 hx with hx | hx
  · have := List.eq_of_mem_replicate hx; omega
  · obtain ⟨d, _, rfl⟩ := List.mem_map.1 hx
    exact sign_byt d
end Go.Proofs.YthdbchahmbcfeaaDoor
