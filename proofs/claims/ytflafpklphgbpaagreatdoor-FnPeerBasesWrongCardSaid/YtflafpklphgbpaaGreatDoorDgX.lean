/- Base 58, plain: the digits of bytes, how they are reckoned. Base 58, plain: unlike bytes have unlike texts. Decoders of bases that are no powers of two, plain: words of 32 bits that are multiplied by the base; the bytes that come out of them. How the texts of IDs begin, plain: those of SHA2-256 with Qm, those inlined with 1. -/
import Derived.Test.YtflafpklphgbpaaGreatDoorPlA
namespace Go.Proofs.YtflafpklphgbpaaGreatDoor
open Go
set_option linter.unusedVariables false
set_option linter.unusedSimpArgs false
set_option maxRecDepth 100000

/-- The digits times 256, and a byte more: what is carried out, the digits. -/
def mul58 (c : Int) : List Int → Int × List Int
  | [] => (c, [])
  | d :: N => (((mul58 c N).1 + d * 256) / 58, ((mul58 c N).1 + d * 256) % 58 :: (mul58 c N).2)
/-- What is carried, ahead of the digits. -/
def pre58 (k : Int) (M : List Int) : List Int := if k ≤ 0 then M else if k < 58 then k :: M else k / 58 :: k % 58 :: M
def dstep (N : List Int) (c : Int) : List Int := pre58 (mul58 c N).1 (mul58 c N).2
def dig58 (b : List Int) : List Int := b.foldl dstep []
def Dg8 (N : List Int) : Prop := ∀ d ∈ N, 0 ≤ d ∧ d < 58
theorem Dg8.nil : Dg8 [] := fun _ h => by cases h
theorem Dg8.cons {d : Int} {N : List Int} (h0 : 0 ≤ d) (h1 : d < 58) (h : Dg8 N) : Dg8 (d :: N) := fun x hx => by
  rcases List.mem_cons.1 hx with rfl | hx
  · exact ⟨h0, h1⟩
  · exact h x hx
theorem Dg8.tail {d : Int} {N : List Int} (h : Dg8 (d :: N)) : Dg8 N := fun x hx => h x (List.mem_cons_of_mem _ hx)
theorem Dg8.byt {N : List Int} (h : Dg8 N) : Byt N := fun x hx => by have := h x hx; omega
theorem mul58_ok {c : Int} (c0 : 0 ≤ c) (c1 : c ≤ 255) : ∀ {N : List Int}, Dg8 N → 0 ≤ (mul58 c N).1 ∧ (mul58 c N).1 ≤ 255 ∧ Dg8 (mul58 c N).2 ∧ (mul58 c N).2.length = N.length
  | [], _ => ⟨c0, c1, Dg8.nil, rfl⟩
  | d :: N, h => by
    obtain ⟨a, b, e, f⟩ := mul58_ok c0 c1 h.tail
    have hd := h d (by simp)
    refine ⟨?_, ?_, Dg8.cons ?_ ?_ e, by simp [mul58, f]⟩ <;> (try simp only [mul58]) <;> omega
theorem pre58_ok {k : Int} {M : List Int} (h0 : 0 ≤ k) (h1 : k ≤ 255) (h : Dg8 M) : Dg8 (pre58 k M) := by
  unfold pre58
  split
  · exact h
  · split
    · exact Dg8.cons (by omega) (by omega) h
    · exact Dg8.cons (by omega) (by omega) (Dg8.cons (by omega) (by omega) h)
theorem dstep_ok {N : List Int} {c : Int} (c0 : 0 ≤ c) (c1 : c ≤ 255) (h : Dg8 N) : Dg8 (dstep N c) := by
  obtain ⟨a, b, e, _⟩ := mul58_ok c0 c1 h
  exact pre58_ok a b e
theorem fold_ok : ∀ (b : List Int) {N : List Int}, Byt b → Dg8 N → Dg8 (b.foldl dstep N)
  | [], N, _, h => h
  | c :: b, N, hb, h => by
    have hc := hb c (by simp)
    exact fold_ok b (fun x hx => hb x (List.mem_cons_of_mem _ hx)) (dstep_ok hc.1 (by omega) h)
theorem dig58_ok {b : List Int} (hb : Byt b) : Dg8 (dig58 b) := fold_ok b hb Dg8.nil
theorem dig58_take (b : List Int) (i : Nat) (hi : i < b.length) : dig58 (b.take (i + 1)) = dstep (dig58 (b.take i)) (b.getD i 0) := by
  unfold dig58
  rw [List.take_succ_eq_append_getElem hi, List.foldl_append]
  simp [List.getD_eq_getElem?_getD, List.getElem?_eq_getElem hi]
/-- What they are worth. -/
def v58 : List Int → Int
  | [] => 0
  | d :: N => d * 58 ^ N.length + v58 N
theorem p58_pos (n : Nat) : (0 : Int) < 58 ^ n := Int.pow_pos (by omega)
theorem v58_nonneg : ∀ {N : List Int}, Dg8 N → 0 ≤ v58 N
  | [], _ => by simp [v58]
  | d :: N, h => by
    have hd := h d (by simp)
    have hp := p58_pos N.length
    have ih := v58_nonneg h.tail
    simp only [v58]
    have := Int.mul_nonneg hd.1 (Int.le_of_lt hp)
    omega
theorem v58_mul (c : Int) : ∀ (N : List Int), (mul58 c N).1 * 58 ^ (mul58 c N).2.length + v58 (mul58 c N).2 = v58 N * 256 + c
  | [] => by simp [mul58, v58]
  | d :: N => by
    have ih := v58_mul c N
    have hl : (mul58 c N).2.length = N.length := by
      clear ih
      induction N with
      | nil => rfl
      | cons d N ih => simp [mul58, ih]
    simp only [mul58, v58, List.length_cons, Int.pow_succ]
    rw [hl] at ih ⊢
    have h := Int.emod_add_mul_ediv ((mul58 c N).1 + d * 256) 58
    generalize (58 : Int) ^ N.length = p at *
    generalize (mul58 c N).1 = k at *
    generalize v58 (mul58 c N).2 = VM at *
    generalize (k + d * 256) / 58 = q at *
    generalize (k + d * 256) % 58 = r at *
    generalize v58 N = VN at *
    grind
theorem v58_pre {k : Int} {M : List Int} (h0 : 0 ≤ k) (h1 : k ≤ 255) : v58 (pre58 k M) = k * 58 ^ M.length + v58 M := by
  unfold pre58
  split
  · obtain rfl : k = 0 := by omega
    simp
  · split
    · simp [v58]
    · simp only [v58, List.length_cons, Int.pow_succ]
      have h := Int.emod_add_mul_ediv k 58
      generalize (58 : Int) ^ M.length = p at *
      generalize k / 58 = q at *
      generalize k % 58 = r at *
      grind
theorem v58_step {N : List Int} {c : Int} (c0 : 0 ≤ c) (c1 : c ≤ 255) (h : Dg8 N) : v58 (dstep N c) = v58 N * 256 + c := by
  obtain ⟨a, b, _, _⟩ := mul58_ok c0 c1 h
  unfold dstep
  rw [v58_pre a b, v58_mul]
/-- None of them is too many. -/
def Tip (N : List Int) : Prop := N = [] ∨ 1 ≤ N.headD 0
theorem v58_tip {d : Int} {N : List Int} (h : Dg8 (d :: N)) (h1 : 1 ≤ d) : (58 : Int) ^ N.length ≤ v58 (d :: N) := by
  have := v58_nonneg h.tail
  have hp := p58_pos N.length
  simp only [v58]
  have : (58 : Int) ^ N.length * 1 ≤ (58 : Int) ^ N.length * d := Int.mul_le_mul_of_nonneg_left h1 (Int.le_of_lt hp)
  rw [Int.mul_comm d]
  omega
theorem mul58_tip {c d : Int} {N : List Int} (c0 : 0 ≤ c) (c1 : c ≤ 255) (h : Dg8 (d :: N)) (h1 : 1 ≤ d) : 1 ≤ (mul58 c (d :: N)).1 := by
  obtain ⟨a, _, _, _⟩ := mul58_ok c0 c1 h.tail
  simp only [mul58]
  omega
theorem pre58_tip {k : Int} {M : List Int} (h : 1 ≤ k) : Tip (pre58 k M) := by
  unfold pre58 Tip
  right
  rw [if_neg (by omega)]
  split
  · simpa using h
  · simp; omega
theorem dstep_tip {N : List Int} {c : Int} (c0 : 0 ≤ c) (c1 : c ≤ 255) (h : Dg8 N) (ht : Tip N) : Tip (dstep N c) := by
  cases N with
  | nil =>
    unfold dstep
    simp only [mul58]
    by_cases hc : 1 ≤ c
    · exact pre58_tip hc
    · unfold pre58; rw [if_pos (by omega)]; exact .inl rfl
  | cons d N =>
    rcases ht with ht | ht
    · cases ht
    · exact pre58_tip (mul58_tip c0 c1 h (by simpa using ht))
theorem fold_tip : ∀ (b : List Int) {N : List Int}, Byt b → Dg8 N → Tip N → Tip (b.foldl dstep N)
  | [], N, _, _, h => h
  | c :: b, N, hb, h, ht => by
    have hc := hb c (by simp)
    exact fold_tip b (fun x hx => hb x (List.mem_cons_of_mem _ hx)) (dstep_ok hc.1 (by omega) h) (dstep_tip hc.1 (by omega) h ht)
theorem dig58_tip {b : List Int} (hb : Byt b) : Tip (dig58 b) := fold_tip b hb Dg8.nil (.inl rfl)
theorem fold_val : ∀ (b : List Int) {N : List Int} (m : Int), Byt b → Dg8 N → v58 N < m → 0 ≤ m → v58 (b.foldl dstep N) < m * 256 ^ b.length
  | [], N, m, _, _, h, _ => by simpa using h
  | c :: b, N, m, hb, h, hm, h0 => by
    have hc := hb c (by simp)
    have h2 := fold_val b (N := dstep N c) (m * 256) (fun x hx => hb x (List.mem_cons_of_mem _ hx)) (dstep_ok hc.1 (by omega) h) (by rw [v58_step hc.1 (by omega) h]; omega) (by omega)
    simp only [List.foldl_cons, List.length_cons, Int.pow_succ]
    have e : m * (256 ^ b.length * 256) = m * 256 * 256 ^ b.length := by rw [Int.mul_comm (256 ^ b.length) 256, Int.mul_assoc]
    rw [e]; exact h2
theorem dig58_val {b : List Int} (hb : Byt b) : v58 (dig58 b) < 256 ^ b.length := by
  have := fold_val b 1 hb Dg8.nil (by simp [v58]) (by omega)
  simpa [dig58] using this
theorem p58_mono (m : Nat) : ∀ k : Nat, (58 : Int) ^ m ≤ 58 ^ (m + k)
  | 0 => Int.le_refl _
  | k + 1 => by
    have := p58_mono m k
    have hp := p58_pos (m + k)
    rw [← Nat.add_assoc, Int.pow_succ]
    omega
theorem room58 : ∀ n : Nat, n < 128 → (256 : Int) ^ n ≤ 58 ^ (n * 138 / 100 + 1) := by decide +kernel
/-- They fit into the room that the code makes for them. -/
theorem dig58_len {b : List Int} (hb : Byt b) (hn : b.length < 128) : (dig58 b).length ≤ b.length * 138 / 100 + 1 := by
  have hv := dig58_val hb
  have hr := room58 b.length hn
  have hd := dig58_ok hb
  rcases dig58_tip hb with h | h
  · rw [h]; simp
  · cases hN : dig58 b with
    | nil => simp
    | cons d N =>
      rw [hN] at hv hd h
      have ht := v58_tip hd (by simpa using h)
      have hlt : (58 : Int) ^ N.length < 58 ^ (b.length * 138 / 100 + 1) := by omega
      rcases Nat.lt_or_ge N.length (b.length * 138 / 100 + 1) with hh | hh
      · simp only [List.length_cons]; omega
      · have := p58_mono (b.length * 138 / 100 + 1) (N.length - (b.length * 138 / 100 + 1))
        rw [show b.length * 138 / 100 + 1 + (N.length - (b.length * 138 / 100 + 1)) = N.length from by omega] at this
        omega
/-- Zeros ahead tell nothing. -/
theorem dstep_zero : dstep [] 0 = [] := by simp [dstep, mul58, pre58]
/-- How many zeros stand ahead. -/
def zs : List Int → Nat
  | [] => 0
  | c :: b => if c = 0 then zs b + 1 else 0
theorem zs_le : ∀ b : List Int, zs b ≤ b.length
  | [] => Nat.le_refl _
  | c :: b => by unfold zs; split <;> simp; have := zs_le b; omega
theorem zs_zero : ∀ (b : List Int) (i : Nat), i < zs b → b.getD i 0 = 0
  | [], i, h => by simp
  | c :: b, i, h => by
    unfold zs at h
    split at h
    · rename_i hc
      cases i with
      | zero => simpa using hc
      | succ i => simpa using zs_zero b i (by omega)
    · omega
theorem zs_stop : ∀ (b : List Int), zs b < b.length → b.getD (zs b) 0 ≠ 0
  | [], h => by simp [zs] at h
  | c :: b, h => by
    unfold zs at h ⊢
    split at h
    · rename_i hc
      rw [if_pos hc]
      simp only [List.length_cons] at h
      simpa using zs_stop b (by omega)
    · rename_i hc
      rw [if_neg hc]
      simpa using hc
theorem dig58_zs : ∀ (b : List Int), dig58 b = dig58 (b.drop (zs b))
  | [] => rfl
  | c :: b => by
    unfold zs
    split
    · rename_i hc
      subst hc
      show (b.foldl dstep (dstep [] 0)) = _
      rw [dstep_zero]
      show dig58 b = _
      simpa using dig58_zs b
    · rfl
/-- The signs. -/
def alpha : List Int := [49, 50, 51, 52, 53, 54, 55, 56, 57, 65, 66, 67, 68, 69, 70, 71, 72, 74, 75, 76, 77, 78, 80, 81, 82, 83, 84, 85, 86, 87, 88, 89, 90, 97, 98, 99, 100, 101, 102, 103, 104, 105, 106, 107, 109, 110, 111, 112, 113, 114, 115, 116, 117, 118, 119, 120, 121, 122]
def sign (d : Int) : Int := alpha.getD d.toNat 0
/-- The text of bytes. -/
def text58 (b : List Int) : List Int := List.replicate (zs b) 49 ++ (dig58 b).map sign
theorem sign_byt (d : Int) : 0 ≤ sign d ∧ sign d < 256 := by
  unfold sign
  have : ∀ i : Nat, 0 ≤ alpha.getD i 0 ∧ alpha.getD i 0 < 256 := by
    intro i
    rcases Nat.lt_or_ge i 58 with h | h
    · have : ∀ i < 58, 0 ≤ alpha.getD i 0 ∧ alpha.getD i 0 < 256 := by decide
      exact this i h
    · have : alpha.length = 58 := rfl
      rw [List.getD_eq_getElem?_getD, List.getElem?_eq_none (by omega)]; simp
  exact this _
theorem text58_byt (b : List Int) : Byt (text58 b) := by
  intro x hx
  unfold text58 at hx
  rcases List.mem_append.1 hx with hx | hx
  · have := List.eq_of_mem_replicate hx; omega
  · obtain ⟨d, _, rfl⟩ := List.mem_map.1 hx
    exact sign_byt d
end Go.Proofs.YtflafpklphgbpaaGreatDoor
namespace Go.Proofs.YtflafpklphgbpaaGreatDoor
open Go
set_option linter.unusedVariables false
set_option linter.unusedSimpArgs false
set_option maxRecDepth 100000

/-- Bytes as a number. -/
def v256 (b : List Int) : Int := b.foldl (fun m c => m * 256 + c) 0
theorem fold_v256 : ∀ (b : List Int) {N : List Int}, Byt b → Dg8 N → v58 (b.foldl dstep N) = b.foldl (fun m c => m * 256 + c) (v58 N)
  | [], N, _, _ => rfl
  | c :: b, N, hb, h => by
    have hc := hb c (by simp)
    simp only [List.foldl_cons]
    rw [fold_v256 b (fun x hx => hb x (List.mem_cons_of_mem _ hx)) (dstep_ok hc.1 (by omega) h), v58_step hc.1 (by omega) h]
theorem v58_dig58 {b : List Int} (hb : Byt b) : v58 (dig58 b) = v256 b := fold_v256 b hb Dg8.nil
/-- The last one is not 0. -/
def okl : List Int → Prop
  | [] => True
  | [x] => 1 ≤ x
  | _ :: y :: r => okl (y :: r)
def r256 : List Int → Int
  | [] => 0
  | x :: r => r256 r * 256 + x
theorem r256_nonneg : ∀ {p : List Int}, Byt p → 0 ≤ r256 p
  | [], _ => by simp [r256]
  | x :: r, h => by
    have hx := h x (by simp)
    have := r256_nonneg (p := r) fun y hy => h y (List.mem_cons_of_mem _ hy)
    simp only [r256]; omega
theorem r256_pos : ∀ {p : List Int}, Byt p → okl p → p ≠ [] → 1 ≤ r256 p
  | [], _, _, h => absurd rfl h
  | [x], _, h, _ => by have h : 1 ≤ x := h; simp only [r256]; omega
  | x :: y :: r, hb, h, _ => by
    have hx := hb x (by simp)
    have := r256_pos (p := y :: r) (fun y hy => hb y (List.mem_cons_of_mem _ hy)) h (by simp)
    rw [r256]; omega
theorem okl_tail {x : Int} {r : List Int} (h : okl (x :: r)) : okl r := by
  cases r with
  | nil => trivial
  | cons y r => exact h
theorem r256_inj : ∀ {p q : List Int}, Byt p → Byt q → okl p → okl q → r256 p = r256 q → p = q
  | [], [], _, _, _, _, _ => rfl
  | [], y :: r, _, hq, _, kq, e => by have := r256_pos hq kq (by simp); simp only [r256] at e this; omega
  | x :: r, [], hp, _, kp, _, e => by have := r256_pos hp kp (by simp); simp only [r256] at e this; omega
  | x :: r, y :: s, hp, hq, kp, kq, e => by
    have hx := hp x (by simp)
    have hy := hq y (by simp)
    simp only [r256] at e
    have h1 : x = y := by omega
    have h2 : r256 r = r256 s := by omega
    rw [h1, r256_inj (fun y hy => hp y (List.mem_cons_of_mem _ hy)) (fun y hy => hq y (List.mem_cons_of_mem _ hy)) (okl_tail kp) (okl_tail kq) h2]
theorem okl_snoc : ∀ (l : List Int) (x : Int), 1 ≤ x → okl (l ++ [x])
  | [], x, h => h
  | [y], x, h => h
  | y :: z :: l, x, h => okl_snoc (z :: l) x h
theorem v256_rev (b : List Int) : v256 b = r256 b.reverse := by
  unfold v256
  rw [← List.foldr_reverse]
  generalize b.reverse = p
  induction p with
  | nil => rfl
  | cons x r ih => simp only [List.foldr_cons, r256, ih]
theorem v256_inj {a b : List Int} (ha : Byt a) (hb : Byt b) (ta : a = [] ∨ 1 ≤ a.headD 0) (tb : b = [] ∨ 1 ≤ b.headD 0) (e : v256 a = v256 b) : a = b := by
  have key : ∀ {a : List Int}, (a = [] ∨ 1 ≤ a.headD 0) → okl a.reverse := by
    intro a h
    cases a with
    | nil => trivial
    | cons x r =>
      rcases h with h | h
      · cases h
      · rw [List.reverse_cons]; exact okl_snoc _ _ (by simpa using h)
  rw [v256_rev, v256_rev] at e
  have := r256_inj (fun x hx => ha x (List.mem_reverse.1 hx)) (fun x hx => hb x (List.mem_reverse.1 hx)) (key ta) (key tb) e
  exact List.reverse_inj.1 this
theorem sign_inj {d e : Int} (h0 : 0 ≤ d) (h1 : d < 58) (k0 : 0 ≤ e) (k1 : e < 58) (h : sign d = sign e) : d = e := by
  have key : ∀ i < 58, ∀ j < 58, alpha.getD i 0 = alpha.getD j 0 → i = j := by decide
  have := key d.toNat (by omega) e.toNat (by omega) h
  omega
theorem sign_map_inj : ∀ {M N : List Int}, Dg8 M → Dg8 N → M.map sign = N.map sign → M = N
  | [], [], _, _, _ => rfl
  | [], _ :: _, _, _, e => by simp at e
  | _ :: _, [], _, _, e => by simp at e
  | d :: M, f :: N, h, k, e => by
    simp only [List.map_cons, List.cons.injEq] at e
    have h1 := h d (by simp)
    have h2 := k f (by simp)
    rw [sign_inj h1.1 h1.2 h2.1 h2.2 e.1, sign_map_inj h.tail k.tail e.2]
theorem split49 : ∀ (p q : Nat) (M N : List Int), M.head? ≠ some 49 → N.head? ≠ some 49 → List.replicate p 49 ++ M = List.replicate q 49 ++ N → p = q ∧ M = N
  | 0, 0, M, N, _, _, e => ⟨rfl, e⟩
  | 0, q + 1, M, N, h, _, e => by
    simp only [List.replicate_succ, List.replicate_zero, List.nil_append, List.cons_append] at e
    rw [e] at h; simp at h
  | p + 1, 0, M, N, _, k, e => by
    simp only [List.replicate_succ, List.replicate_zero, List.nil_append, List.cons_append] at e
    rw [← e] at k; simp at k
  | p + 1, q + 1, M, N, h, k, e => by
    simp only [List.replicate_succ, List.cons_append, List.cons.injEq, true_and] at e
    obtain ⟨rfl, h2⟩ := split49 p q M N h k e
    exact ⟨rfl, h2⟩
theorem map_head {N : List Int} (h : Dg8 N) (t : Tip N) : (N.map sign).head? ≠ some 49 := by
  cases N with
  | nil => simp
  | cons d N =>
    have hd := h d (by simp)
    rcases t with t | t
    · cases t
    · have h1 : 1 ≤ d := by simpa using t
      simp only [List.map_cons, List.head?_cons, ne_eq, Option.some.injEq]
      intro e
      have := sign_inj hd.1 hd.2 (by omega) (by omega) (e.trans (show (49 : Int) = sign 0 from rfl))
      omega
theorem zs_drop_tip : ∀ (b : List Int), Byt b → b.drop (zs b) = [] ∨ 1 ≤ (b.drop (zs b)).headD 0
  | [], _ => .inl rfl
  | c :: b, h => by
    unfold zs
    split
    · simpa using zs_drop_tip b fun x hx => h x (List.mem_cons_of_mem _ hx)
    · right
      have := h c (by simp)
      simp; omega
theorem zs_take : ∀ (b : List Int), b.take (zs b) = List.replicate (zs b) 0
  | [] => rfl
  | c :: b => by
    unfold zs
    split
    · rename_i hc; subst hc; simp [List.replicate_succ, zs_take b]
    · rfl
theorem v256_zs : ∀ (b : List Int), v256 b = v256 (b.drop (zs b))
  | [] => rfl
  | c :: b => by
    unfold zs
    split
    · rename_i hc
      subst hc
      show v256 b = _
      simpa using v256_zs b
    · rfl
/-- Unlike bytes have unlike texts. -/
theorem text58_inj {a b : List Int} (ha : Byt a) (hb : Byt b) (e : text58 a = text58 b) : a = b := by
  unfold text58 at e
  obtain ⟨hz, hm⟩ := split49 _ _ _ _ (map_head (dig58_ok ha) (dig58_tip ha)) (map_head (dig58_ok hb) (dig58_tip hb)) e
  have hd := sign_map_inj (dig58_ok ha) (dig58_ok hb) hm
  have hv : v256 (a.drop (zs a)) = v256 (b.drop (zs b)) := by rw [← v256_zs, ← v256_zs, ← v58_dig58 ha, ← v58_dig58 hb, hd]
  have hr := v256_inj (ha.drop _) (hb.drop _) (zs_drop_tip a ha) (zs_drop_tip b hb) hv
  rw [← List.take_append_drop (zs a) a, ← List.take_append_drop (zs b) b, zs_take, zs_take, hr, hz]
end Go.Proofs.YtflafpklphgbpaaGreatDoor
namespace Go.Proofs.YtflafpklphgbpaaGreatDoor
open Go
set_option linter.unusedVariables false
set_option linter.unusedSimpArgs false
set_option maxRecDepth 100000

/-- Words as a number. -/
def v32 : List Int → Int
  | [] => 0
  | x :: r => x * 4294967296 ^ r.length + v32 r
def W32 (L : List Int) : Prop := ∀ x ∈ L, 0 ≤ x ∧ x < 4294967296
theorem W32.tail {d : Int} {N : List Int} (h : W32 (d :: N)) : W32 N := fun x hx => h x (List.mem_cons_of_mem _ hx)
theorem W32.zero (m : Nat) : W32 (List.replicate m 0) := fun x hx => by
  have := (List.mem_replicate.1 hx).2; omega
theorem W32.getD {N : List Int} (h : W32 N) (i : Nat) : 0 ≤ N.getD i 0 ∧ N.getD i 0 < 4294967296 := by
  rw [List.getD_eq_getElem?_getD]
  by_cases hi : i < N.length
  · rw [List.getElem?_eq_getElem hi]; exact h _ (List.getElem_mem hi)
  · rw [List.getElem?_eq_none (by omega)]; simp
theorem p32_pos (n : Nat) : (0 : Int) < 4294967296 ^ n := Int.pow_pos (by omega)
theorem v32_nonneg : ∀ {N : List Int}, W32 N → 0 ≤ v32 N
  | [], _ => by simp [v32]
  | d :: N, h => by
    have hd := h d (by simp)
    have hp := p32_pos N.length
    have ih := v32_nonneg h.tail
    simp only [v32]
    have := Int.mul_nonneg hd.1 (Int.le_of_lt hp)
    omega
theorem v32_zero : ∀ m : Nat, v32 (List.replicate m 0) = 0
  | 0 => rfl
  | m + 1 => by simp [List.replicate_succ, v32, v32_zero m]
/-- Words times b, and c on top. -/
def mulw (b c : Int) : List Int → Int × List Int
  | [] => (c, [])
  | d :: N => ((d * b + (mulw b c N).1) / 4294967296, (d * b + (mulw b c N).1) % 4294967296 :: (mulw b c N).2)
theorem mulw_len (b c : Int) : ∀ N : List Int, (mulw b c N).2.length = N.length
  | [] => rfl
  | d :: N => by simp [mulw, mulw_len b c N]
theorem mulw_ok {b c : Int} (b0 : 1 ≤ b) (b1 : b ≤ 256) (c0 : 0 ≤ c) (c1 : c < b) : ∀ {N : List Int}, W32 N → 0 ≤ (mulw b c N).1 ∧ (mulw b c N).1 < b ∧ W32 (mulw b c N).2
  | [], _ => ⟨c0, c1, fun _ h => by cases h⟩
  | d :: N, h => by
    obtain ⟨h1, h2, h3⟩ := mulw_ok b0 b1 c0 c1 h.tail
    have hd := h d (by simp)
    have h4 : 0 ≤ d * b := Int.mul_nonneg hd.1 (by omega)
    have h5 : d * b ≤ 4294967295 * b := Int.mul_le_mul_of_nonneg_right (by omega) (by omega)
    simp only [mulw]
    generalize (mulw b c N).1 = k at *
    generalize d * b = e at *
    refine ⟨by omega, by omega, fun x hx => ?_⟩
    rcases List.mem_cons.1 hx with rfl | hx
    · omega
    · exact h3 x hx
theorem mulw_val (b c : Int) : ∀ (N : List Int), (mulw b c N).1 * 4294967296 ^ N.length + v32 (mulw b c N).2 = v32 N * b + c
  | [] => by simp [mulw, v32]
  | d :: N => by
    have ih := mulw_val b c N
    have hl := mulw_len b c N
    simp only [mulw, v32, List.length_cons, Int.pow_succ]
    rw [hl]
    have h := Int.emod_add_mul_ediv (d * b + (mulw b c N).1) 4294967296
    generalize (4294967296 : Int) ^ N.length = p at *
    generalize (mulw b c N).1 = k at *
    generalize v32 (mulw b c N).2 = VM at *
    generalize (d * b + k) / 4294967296 = q at *
    generalize (d * b + k) % 4294967296 = r at *
    generalize v32 N = VN at *
    grind
/-- The inner loop's next word. -/
theorem mulw_next (b y : Int) (N : List Int) (r : Nat) (hr : r < N.length) :
    mulw b y (N.drop r) = ((N.getD r 0 * b + (mulw b y (N.drop (r + 1))).1) / 4294967296, (N.getD r 0 * b + (mulw b y (N.drop (r + 1))).1) % 4294967296 :: (mulw b y (N.drop (r + 1))).2) := by
  rw [List.drop_eq_getElem_cons hr]
  simp [mulw, List.getD_eq_getElem?_getD, List.getElem?_eq_getElem hr]
/-- Digits as a number, behind a number. -/
def vf (b : Int) (D : List Int) (v : Int) : Int := D.foldl (fun v d => v * b + d) v
theorem vf_app (b : Int) (D E : List Int) (v : Int) : vf b (D ++ E) v = vf b E (vf b D v) := by simp [vf, List.foldl_append]
def DgB (b : Int) (D : List Int) : Prop := ∀ d ∈ D, 0 ≤ d ∧ d < b
theorem DgB.tail {b d : Int} {N : List Int} (h : DgB b (d :: N)) : DgB b N := fun x hx => h x (List.mem_cons_of_mem _ hx)
theorem DgB.take {b : Int} {N : List Int} (h : DgB b N) (k : Nat) : DgB b (N.take k) := fun x hx => h x (List.mem_of_mem_take hx)
theorem DgB.getD {b : Int} {N : List Int} (h : DgB b N) {i : Nat} (hi : i < N.length) : 0 ≤ N.getD i 0 ∧ N.getD i 0 < b := by
  rw [List.getD_eq_getElem?_getD, List.getElem?_eq_getElem hi]; exact h _ (List.getElem_mem hi)
theorem vf_ge {b : Int} (b0 : 1 ≤ b) : ∀ (D : List Int) (v : Int), DgB b D → 0 ≤ v → v ≤ vf b D v
  | [], v, _, _ => Int.le_refl _
  | d :: D, v, h, h0 => by
    have hd := h d (by simp)
    have h1 : v * 1 ≤ v * b := Int.mul_le_mul_of_nonneg_left b0 h0
    have := vf_ge b0 D (v * b + d) h.tail (by omega)
    simp only [vf, List.foldl_cons] at this ⊢
    omega
theorem vf_more {b : Int} (b0 : 2 ≤ b) (E : List Int) {v : Int} (h : DgB b E) (hE : E ≠ []) (hv : 1 ≤ v) : v < vf b E v := by
  cases E with
  | nil => exact absurd rfl hE
  | cons d E =>
    have hd := h d (by simp)
    have h1 : v * 2 ≤ v * b := Int.mul_le_mul_of_nonneg_left b0 (by omega)
    have := vf_ge (show 1 ≤ b by omega) E (v * b + d) h.tail (by omega)
    simp only [vf, List.foldl_cons] at this ⊢
    omega
theorem vf_lt {b : Int} (b0 : 1 ≤ b) : ∀ (D : List Int) (v : Int), DgB b D → 0 ≤ v → vf b D v < (v + 1) * b ^ D.length
  | [], v, _, _ => by simp [vf]; omega
  | d :: D, v, h, h0 => by
    have hd := h d (by simp)
    have h1 : 0 ≤ v * b := Int.mul_nonneg h0 (by omega)
    have h2 := vf_lt b0 D (v * b + d) h.tail (by omega)
    have h3 : (v * b + d + 1) * b ^ D.length ≤ (v * b + b) * b ^ D.length := Int.mul_le_mul_of_nonneg_right (by omega) (Int.le_of_lt (Int.pow_pos (by omega)))
    have h4 : (v + 1) * b ^ (d :: D).length = (v * b + b) * b ^ D.length := by
      rw [List.length_cons, Int.pow_succ]; grind
    simp only [vf, List.foldl_cons] at h2 ⊢
    omega
theorem vf_v58 : ∀ (D : List Int) (v : Int), vf 58 D v = v * 58 ^ D.length + v58 D
  | [], v => by simp [vf, v58]
  | d :: D, v => by
    have := vf_v58 D (v * 58 + d)
    simp only [vf, List.foldl_cons] at this ⊢
    rw [this]
    simp only [v58, List.length_cons, Int.pow_succ]
    generalize (58 : Int) ^ D.length = p
    grind
theorem v256_vf (l : List Int) : v256 l = vf 256 l 0 := rfl
/-- The words behind digits. -/
def rowF (b : Int) (D N : List Int) : List Int := D.foldl (fun N d => (mulw b d N).2) N
theorem rowF_len (b : Int) : ∀ (D N : List Int), (rowF b D N).length = N.length
  | [], N => rfl
  | d :: D, N => by
    have := rowF_len b D (mulw b d N).2
    rw [mulw_len] at this
    exact this
theorem rowF_ok {b : Int} (b0 : 1 ≤ b) (b1 : b ≤ 256) : ∀ (D N : List Int), DgB b D → W32 N → W32 (rowF b D N)
  | [], N, _, h => h
  | d :: D, N, hD, h => by
    have hd := hD d (by simp)
    exact rowF_ok b0 b1 D _ hD.tail (mulw_ok b0 b1 hd.1 hd.2 h).2.2
theorem mulw_fit {b c : Int} (b0 : 1 ≤ b) (b1 : b ≤ 256) (c0 : 0 ≤ c) (c1 : c < b) {N : List Int} (h : W32 N) (hf : v32 N * b + c < 4294967296 ^ N.length) : (mulw b c N).1 = 0 ∧ v32 (mulw b c N).2 = v32 N * b + c := by
  obtain ⟨h1, h2, h3⟩ := mulw_ok b0 b1 c0 c1 h
  have hv := mulw_val b c N
  have hn := v32_nonneg h3
  have hp := p32_pos N.length
  have hz : (mulw b c N).1 = 0 := by
    rcases Int.lt_or_le 0 (mulw b c N).1 with hk | hk
    · have : 1 * 4294967296 ^ N.length ≤ (mulw b c N).1 * 4294967296 ^ N.length := Int.mul_le_mul_of_nonneg_right (by omega) (Int.le_of_lt hp)
      omega
    · omega
  refine ⟨hz, ?_⟩
  rw [hz] at hv
  omega
theorem rowF_val {b : Int} (b0 : 1 ≤ b) (b1 : b ≤ 256) : ∀ (D N : List Int), DgB b D → W32 N → vf b D (v32 N) < 4294967296 ^ N.length → v32 (rowF b D N) = vf b D (v32 N)
  | [], N, _, _, _ => rfl
  | d :: D, N, hD, h, hf => by
    have hd := hD d (by simp)
    have hn := v32_nonneg h
    have h1 : 0 ≤ v32 N * b := Int.mul_nonneg hn (by omega)
    have hge := vf_ge b0 D (v32 N * b + d) hD.tail (by omega)
    have e : vf b (d :: D) (v32 N) = vf b D (v32 N * b + d) := rfl
    rw [e] at hf ⊢
    obtain ⟨h2, h3⟩ := mulw_fit b0 b1 hd.1 hd.2 h (by omega)
    have := rowF_val b0 b1 D (mulw b d N).2 hD.tail (mulw_ok b0 b1 hd.1 hd.2 h).2.2 (by rw [h3, mulw_len]; exact hf)
    rw [h3] at this
    exact this
/-- The bytes of words. -/
def wb4 (x : Int) : List Int := [x / 16777216 % 256, x / 65536 % 256, x / 256 % 256, x % 256]
def full (L : List Int) : List Int := L.flatMap wb4
theorem full_len : ∀ L : List Int, (full L).length = 4 * L.length
  | [] => rfl
  | x :: L => by
    have := full_len L
    simp only [full, List.flatMap_cons, List.length_append, List.length_cons] at this ⊢
    rw [this]; simp [wb4]; omega
theorem wb4_byt (x : Int) : Byt (wb4 x) := fun y hy => by
  simp only [wb4, List.mem_cons, List.not_mem_nil, or_false] at hy
  rcases hy with rfl | rfl | rfl | rfl <;> omega
theorem full_byt (L : List Int) : Byt (full L) := fun y hy => by
  obtain ⟨x, _, hx⟩ := List.mem_flatMap.1 hy
  exact wb4_byt x y hx
theorem full_get : ∀ (L : List Int) (j p : Nat), j < L.length → p < 4 → (full L).getD (4 * j + p) 0 = L.getD j 0 / 2 ^ (24 - 8 * p) % 256
  | [], j, p, h, _ => by simp at h
  | x :: L, 0, p, _, hp => by
    simp only [full, List.flatMap_cons]
    rw [List.getD_eq_getElem?_getD, List.getElem?_append_left (by simp [wb4]; omega)]
    rcases (show p = 0 ∨ p = 1 ∨ p = 2 ∨ p = 3 by omega) with rfl | rfl | rfl | rfl <;> simp [wb4]
  | x :: L, j + 1, p, h, hp => by
    have ih := full_get L j p (by simpa using h) hp
    simp only [full, List.flatMap_cons] at ih ⊢
    rw [List.getD_eq_getElem?_getD, List.getElem?_append_right (by simp [wb4]; omega), ← List.getD_eq_getElem?_getD]
    rw [show 4 * (j + 1) + p - (wb4 x).length = 4 * j + p from by simp [wb4]; omega, ih]
    simp
theorem vf_wb4 (x v : Int) (h0 : 0 ≤ x) (h1 : x < 4294967296) : vf 256 (wb4 x) v = v * 4294967296 + x := by
  simp only [vf, wb4, List.foldl_cons, List.foldl_nil]
  omega
theorem vf_full : ∀ (L : List Int) (v : Int), W32 L → vf 256 (full L) v = v * 4294967296 ^ L.length + v32 L
  | [], v, _ => by simp [full, vf, v32]
  | x :: L, v, h => by
    have hx := h x (by simp)
    have ih := vf_full L (v * 4294967296 + x) h.tail
    have e : full (x :: L) = wb4 x ++ full L := by simp [full]
    rw [e, vf_app, vf_wb4 x v hx.1 hx.2, ih]
    simp only [v32, List.length_cons, Int.pow_succ]
    generalize (4294967296 : Int) ^ L.length = p
    grind
theorem v256_full (L : List Int) (h : W32 L) : v256 (full L) = v32 L := by
  rw [v256_vf, vf_full L 0 h]; simp
/-- .. the last n of them. -/
def outB (L : List Int) (n : Nat) : List Int := (full L).drop (4 * L.length - n)
theorem outB_len {L : List Int} {n : Nat} (h : n ≤ 4 * L.length) : (outB L n).length = n := by
  simp [outB, full_len]; omega
theorem outB_byt (L : List Int) (n : Nat) : Byt (outB L n) := (full_byt L).drop _
theorem outB_get {L : List Int} {n j p i : Nat} (hn : n ≤ 4 * L.length) (hj : j < L.length) (hp : p < 4) (hi : i + (4 * L.length - n) = 4 * j + p) : (outB L n).getD i 0 = L.getD j 0 / 2 ^ (24 - 8 * p) % 256 := by
  rw [← full_get L j p hj hp, ← hi]
  unfold outB
  rw [List.getD_eq_getElem?_getD, List.getElem?_drop, List.getD_eq_getElem?_getD, Nat.add_comm]
theorem v256_nonneg {l : List Int} (h : Byt l) : 0 ≤ v256 l := vf_ge (b := 256) (by omega) l 0 (fun x hx => h x hx) (by omega)
theorem v256_lt {l : List Int} (h : Byt l) : v256 l < 256 ^ l.length := by
  have := vf_lt (b := 256) (by omega) l 0 (fun x hx => h x hx) (by omega)
  rw [v256_vf]
  simpa using this
/-- Where a number is small, its first bytes are zeros. -/
theorem v256_split (l : List Int) (k : Nat) (hk : k ≤ l.length) : v256 l = v256 (l.take k) * 256 ^ (l.length - k) + v256 (l.drop k) := by
  have h : ∀ (D : List Int) (v : Int), vf 256 D v = v * 256 ^ D.length + vf 256 D 0 := by
    intro D
    induction D with
    | nil => intro v; simp [vf]
    | cons d D ih =>
      intro v
      have h1 := ih (v * 256 + d)
      have h2 := ih (0 * 256 + d)
      simp only [vf, List.foldl_cons] at h1 h2 ⊢
      rw [h1, h2]
      simp only [List.length_cons, Int.pow_succ]
      generalize (256 : Int) ^ D.length = p
      grind
  rw [v256_vf, v256_vf, v256_vf]
  conv => lhs; rw [← List.take_append_drop k l, vf_app, h]
  rw [List.length_drop]
theorem v256_small {l : List Int} (h : Byt l) {k : Nat} (hk : k ≤ l.length) (hv : v256 l < 256 ^ (l.length - k)) : v256 (l.take k) = 0 ∧ v256 (l.drop k) = v256 l := by
  have hs := v256_split l k hk
  have h1 := v256_nonneg (h.take k)
  have h2 := v256_nonneg (h.drop k)
  have hp : (0 : Int) < 256 ^ (l.length - k) := Int.pow_pos (by omega)
  have hz : v256 (l.take k) = 0 := by
    rcases Int.lt_or_le 0 (v256 (l.take k)) with hh | hh
    · have : 1 * 256 ^ (l.length - k) ≤ v256 (l.take k) * 256 ^ (l.length - k) := Int.mul_le_mul_of_nonneg_right (by omega) (Int.le_of_lt hp)
      omega
    · omega
  rw [hz] at hs ⊢
  exact ⟨rfl, by omega⟩
theorem v256_zeros : ∀ {l : List Int}, Byt l → v256 l = 0 → zs l = l.length
  | [], _, _ => rfl
  | x :: l, h, hv => by
    have hx := h x (by simp)
    have hs := v256_split (x :: l) 1 (by simp)
    have h1 := v256_nonneg (h.drop 1)
    have hp : (0 : Int) < 256 ^ ((x :: l).length - 1) := Int.pow_pos (by omega)
    have e1 : v256 ((x :: l).take 1) = x := by simp [v256]
    rw [hv, e1] at hs
    have h2 : 0 ≤ x * 256 ^ ((x :: l).length - 1) := Int.mul_nonneg hx.1 (Int.le_of_lt hp)
    have hz : x = 0 := by
      rcases Int.lt_or_le 0 x with hh | hh
      · have : 1 * 256 ^ ((x :: l).length - 1) ≤ x * 256 ^ ((x :: l).length - 1) := Int.mul_le_mul_of_nonneg_right (by omega) (Int.le_of_lt hp)
        omega
      · omega
    have hl : v256 l = 0 := by
      have e2 : (x :: l).drop 1 = l := rfl
      rw [e2] at hs h1
      rw [hz] at hs
      omega
    have := v256_zeros (l := l) (fun y hy => h y (List.mem_cons_of_mem _ hy)) hl
    unfold zs
    rw [if_pos hz, this]; simp
theorem zs_take_ge : ∀ (l : List Int) (k : Nat), k ≤ l.length → zs (l.take k) = (l.take k).length → k ≤ zs l
  | _, 0, _, _ => Nat.zero_le _
  | [], k + 1, h, _ => by simp at h
  | x :: l, k + 1, h, hz => by
    simp only [List.take_succ_cons, zs, List.length_cons] at hz ⊢
    split at hz
    · rename_i hx
      rw [if_pos hx]
      have := zs_take_ge l k (by simpa using h) (by omega)
      omega
    · omega
theorem v256_dropz : ∀ (l : List Int) (j : Nat), j ≤ zs l → v256 (l.drop j) = v256 l
  | _, 0, _ => by simp
  | [], j + 1, h => by simp
  | x :: l, j + 1, h => by
    unfold zs at h
    split at h
    · rename_i hx
      subst hx
      have := v256_dropz l j (by omega)
      rw [List.drop_succ_cons, this]
      show v256 l = _
      rfl
    · omega
/-- What a decoder tells of digits: the number's bytes, as many as there are digits; of the zeros ahead as many as there are digits 0 ahead. -/
def decB (b : Int) (D : List Int) : List Int :=
  (fun o : List Int => if zs o = o.length then o else o.drop (zs o - zs D)) (outB (rowF b D (List.replicate ((D.length + 3) / 4) 0)) D.length)
theorem decB_len (b : Int) (D : List Int) : (decB b D).length ≤ D.length := by
  have h : (outB (rowF b D (List.replicate ((D.length + 3) / 4) 0)) D.length).length = D.length := outB_len (by rw [rowF_len, List.length_replicate]; omega)
  unfold decB
  simp only
  split
  · omega
  · rw [List.length_drop]; omega
theorem pow_le (b : Int) (b0 : 1 ≤ b) (b1 : b ≤ 256) : ∀ n : Nat, b ^ n ≤ 256 ^ n
  | 0 => by simp
  | n + 1 => by
    have ih := pow_le b b0 b1 n
    have hp : (0 : Int) < b ^ n := Int.pow_pos (by omega)
    have h1 : b ^ n * b ≤ b ^ n * 256 := Int.mul_le_mul_of_nonneg_left b1 (Int.le_of_lt hp)
    rw [Int.pow_succ, Int.pow_succ]
    omega
theorem p256_mono (m : Nat) : ∀ k : Nat, (256 : Int) ^ m ≤ 256 ^ (m + k)
  | 0 => Int.le_refl _
  | k + 1 => by
    have := p256_mono m k
    have hp : (0 : Int) < 256 ^ (m + k) := Int.pow_pos (by omega)
    rw [← Nat.add_assoc, Int.pow_succ]
    omega
theorem p32_256 (m : Nat) : (4294967296 : Int) ^ m = 256 ^ (4 * m) := by rw [Int.pow_mul]; rfl
theorem p256_room {b : Int} (b0 : 1 ≤ b) (b1 : b ≤ 256) {n m : Nat} (h : n ≤ 4 * m) : b ^ n ≤ 4294967296 ^ m := by
  have h1 := pow_le b b0 b1 n
  have h2 := p256_mono n (4 * m - n)
  rw [p32_256, show 4 * m = n + (4 * m - n) from by omega]
  omega
theorem vf_lt0 {b : Int} (b0 : 1 ≤ b) {D : List Int} (hD : DgB b D) : vf b D 0 < b ^ D.length := by
  have := vf_lt b0 D 0 hD (by omega)
  simpa using this
theorem rowF_v {b : Int} (b0 : 1 ≤ b) (b1 : b ≤ 256) {D : List Int} (hD : DgB b D) {m : Nat} (hm : D.length ≤ 4 * m) : v32 (rowF b D (List.replicate m 0)) = vf b D 0 := by
  have h := vf_lt0 b0 hD
  have h2 := p256_room b0 b1 hm
  have := rowF_val b0 b1 D (List.replicate m 0) hD (W32.zero m) (by rw [v32_zero, List.length_replicate]; omega)
  rw [v32_zero] at this
  exact this
theorem v256_outB {L : List Int} {n : Nat} (h : W32 L) (hn : n ≤ 4 * L.length) (hv : v32 L < 256 ^ n) : v256 (outB L n) = v32 L := by
  have hf := full_len L
  have hv2 := v256_full L h
  have := v256_small (full_byt L) (k := 4 * L.length - n) (by omega) (by rw [hv2, hf, show 4 * L.length - (4 * L.length - n) = n from by omega]; exact hv)
  unfold outB
  rw [this.2, hv2]
theorem v256_decB {b : Int} (b0 : 1 ≤ b) (b1 : b ≤ 256) {D : List Int} (hD : DgB b D) : v256 (decB b D) = vf b D 0 := by
  have hr := rowF_v b0 b1 hD (m := (D.length + 3) / 4) (by omega)
  have hw := rowF_ok b0 b1 D _ hD (W32.zero ((D.length + 3) / 4))
  have hlt := vf_lt0 b0 hD
  have hp := pow_le b b0 b1 D.length
  have ho := v256_outB hw (n := D.length) (by rw [rowF_len, List.length_replicate]; omega) (by rw [hr]; omega)
  unfold decB
  simp only
  split
  · rw [ho, hr]
  · rw [v256_dropz _ _ (by omega), ho, hr]
/-- The digits of a text in base 58. -/
def tdig (l : List Int) : List Int := List.replicate (zs l) 0 ++ dig58 l
theorem tdig_ok {l : List Int} (h : Byt l) : DgB 58 (tdig l) := fun x hx => by
  rcases List.mem_append.1 hx with hx | hx
  · have := (List.mem_replicate.1 hx).2; omega
  · exact dig58_ok h x hx
theorem text58_tdig (l : List Int) : text58 l = (tdig l).map sign := by
  unfold text58 tdig
  rw [List.map_append, List.map_replicate]; rfl
theorem vf_zeros (b : Int) : ∀ (n : Nat) (v : Int), v = 0 → vf b (List.replicate n 0) v = 0
  | 0, v, h => h
  | n + 1, v, h => by
    subst h
    have := vf_zeros b n (0 * b + 0) (by simp)
    simpa [vf, List.replicate_succ] using this
theorem vf_tdig {l : List Int} (h : Byt l) : vf 58 (tdig l) 0 = v256 l := by
  unfold tdig
  rw [vf_app, vf_zeros 58 _ _ rfl, vf_v58, ← v58_dig58 h]; simp
/-- A text that is cut tells other bytes. -/
theorem cut_other {l : List Int} (h : Byt l) {k : Nat} (hk : k < (tdig l).length) : decB 58 ((tdig l).take k) ≠ l := by
  intro e
  have hD := tdig_ok h
  have hv := v256_decB (b := 58) (by omega) (by omega) (hD.take k)
  have hw := vf_tdig h
  have hs := vf_app 58 ((tdig l).take k) ((tdig l).drop k) 0
  rw [List.take_append_drop] at hs
  rw [e] at hv
  have hge := vf_ge (b := 58) (by omega) ((tdig l).take k) 0 (hD.take k) (by omega)
  have hl := decB_len 58 ((tdig l).take k)
  rw [e, List.length_take] at hl
  rcases Int.lt_or_le 0 (v256 l) with hh | hh
  · have hne : (tdig l).drop k ≠ [] := fun h0 => by
      have := congrArg List.length h0
      simp at this
      omega
    have := vf_more (b := 58) (by omega) ((tdig l).drop k) (v := vf 58 ((tdig l).take k) 0) (fun x hx => hD x (List.mem_of_mem_drop hx)) hne (by omega)
    omega
  · have h0 : v256 l = 0 := by omega
    have hz := v256_zeros h h0
    have hd : dig58 l = [] := by
      rw [dig58_zs, hz]; simp [dig58]
    have : (tdig l).length = l.length := by
      unfold tdig; rw [hd, hz]; simp
    omega
end Go.Proofs.YtflafpklphgbpaaGreatDoor
namespace Go.Proofs.YtflafpklphgbpaaGreatDoor
open Go
set_option linter.unusedVariables false
set_option linter.unusedSimpArgs false
set_option maxRecDepth 100000

theorem vf_lin (b : Int) : ∀ (D : List Int) (v : Int), vf b D v = v * b ^ D.length + vf b D 0
  | [], v => by simp [vf]
  | d :: D, v => by
    have h1 := vf_lin b D (v * b + d)
    have h2 := vf_lin b D (0 * b + d)
    simp only [vf, List.foldl_cons] at h1 h2 ⊢
    rw [h1, h2]
    simp only [List.length_cons, Int.pow_succ]
    generalize b ^ D.length = p
    grind
theorem v256_two (x y : Int) (S : List Int) : v256 (x :: y :: S) = (x * 256 + y) * 256 ^ S.length + v256 S := by
  rw [v256_vf]
  show vf 256 S ((0 * 256 + x) * 256 + y) = _
  rw [vf_lin]
  simp [v256_vf]
theorem p58_lt {m n : Nat} (h : m < n) : (58 : Int) ^ m * 58 ≤ 58 ^ n := by
  have := p58_mono (m + 1) (n - (m + 1))
  rw [show m + 1 + (n - (m + 1)) = n from by omega, Int.pow_succ] at this
  exact this
theorem dig58_sha {S : List Int} (hS : S.length = 32) (hb : Byt S) : ∃ E, dig58 (18 :: 32 :: S) = 23 :: 44 :: E ∧ E.length = 44 := by
  have hB : Byt (18 :: 32 :: S) := fun x hx => by
    rcases List.mem_cons.1 hx with rfl | hx
    · omega
    rcases List.mem_cons.1 hx with rfl | hx
    · omega
    exact hb x hx
  have hv := v58_dig58 hB
  rw [v256_two, hS] at hv
  have h0 := v256_nonneg hb
  have h1 := v256_lt hb
  rw [hS] at h1
  have hD := dig58_ok hB
  have hT := dig58_tip hB
  generalize dig58 (18 :: 32 :: S) = D at *
  generalize v256 S = V at *
  have c1 : (1378 : Int) * 58 ^ 44 ≤ 4640 * 256 ^ 32 := by decide +kernel
  have c2 : (4641 : Int) * 256 ^ 32 ≤ 1379 * 58 ^ 44 := by decide +kernel
  have c3 : (1379 : Int) * 58 ^ 44 ≤ 58 ^ 46 := by decide +kernel
  have c4 : (58 : Int) ^ 45 ≤ 1378 * 58 ^ 44 := by decide +kernel
  have c5 : (58 : Int) ^ 45 = 58 ^ 44 * 58 := by decide +kernel
  have hlt : v58 D < 58 ^ D.length := by
    have := vf_lt0 (b := 58) (by omega) (D := D) (fun x hx => hD x hx)
    rw [vf_v58] at this
    simpa using this
  have hlen : D.length = 46 := by
    rcases Nat.lt_trichotomy D.length 46 with h | h | h
    · have := p58_mono D.length (45 - D.length)
      rw [show D.length + (45 - D.length) = 45 from by omega] at this
      omega
    · exact h
    · rcases hT with hT | hT
      · rw [hT] at h; simp at h
      · cases D with
        | nil => simp at h
        | cons d D =>
          have ht := v58_tip hD (by simpa using hT)
          have := p58_mono 46 (D.length - 46)
          rw [show 46 + (D.length - 46) = D.length from by simp only [List.length_cons] at h; omega] at this
          omega
  match D, hlen, hD, hv with
  | d0 :: d1 :: E, hlen, hD, hv =>
    have hE : E.length = 44 := by simpa using hlen
    refine ⟨E, ?_, hE⟩
    have hd0 := hD d0 (by simp)
    have hd1 := hD d1 (by simp)
    have hE0 := v58_nonneg hD.tail.tail
    have hE1 : v58 E < 58 ^ 44 := by
      have := vf_lt0 (b := 58) (by omega) (D := E) (fun x hx => hD.tail.tail x hx)
      rw [vf_v58, hE] at this
      simpa using this
    simp only [v58, List.length_cons, hE] at hv
    rw [show (58 : Int) ^ (44 + 1) = 58 ^ 44 * 58 from by decide +kernel] at hv
    have h2 : d0 * (58 ^ 44 * 58) + (d1 * 58 ^ 44 + v58 E) = (d0 * 58 + d1) * 58 ^ 44 + v58 E := by
      generalize (58 : Int) ^ 44 = p; grind
    rw [h2] at hv
    generalize hq : d0 * 58 + d1 = q at *
    have hp : (0 : Int) < 58 ^ 44 := by decide +kernel
    have hqq : q = 1378 := by
      rcases Int.lt_trichotomy q 1378 with h | h | h
      · have : (q + 1) * 58 ^ 44 ≤ 1378 * 58 ^ 44 := Int.mul_le_mul_of_nonneg_right (by omega) (Int.le_of_lt hp)
        rw [Int.add_mul] at this
        omega
      · exact h
      · have : 1379 * 58 ^ 44 ≤ q * 58 ^ 44 := Int.mul_le_mul_of_nonneg_right (by omega) (Int.le_of_lt hp)
        omega
    have e0 : d0 = 23 := by omega
    have e1 : d1 = 44 := by omega
    rw [e0, e1]
theorem text_sha {S : List Int} (hS : S.length = 32) (hb : Byt S) : ∃ T, text58 (18 :: 32 :: S) = 81 :: 109 :: T := by
  obtain ⟨E, hE, _⟩ := dig58_sha hS hb
  refine ⟨E.map sign, ?_⟩
  unfold text58
  rw [hE, show zs (18 :: 32 :: S) = 0 from by simp [zs]]
  rfl
theorem text_inl (x : Int) (S : List Int) : ∃ T, text58 (0 :: x :: S) = 49 :: T := by
  refine ⟨List.replicate (zs (x :: S)) 49 ++ (dig58 (0 :: x :: S)).map sign, ?_⟩
  unfold text58
  rw [show zs (0 :: x :: S) = zs (x :: S) + 1 from by simp [zs], List.replicate_succ]
  rfl
end Go.Proofs.YtflafpklphgbpaaGreatDoor
