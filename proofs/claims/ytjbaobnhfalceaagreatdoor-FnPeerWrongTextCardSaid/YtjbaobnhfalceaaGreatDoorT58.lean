/- Base 58, plain: unlike bytes have unlike texts. -/
import Derived.Test.YtjbaobnhfalceaaGreatDoorB58P
namespace Go.Proofs.YtjbaobnhfalceaaGreatDoor
open Go
set_option linter.unusedVariables false
set_option linter.unusedSimpArgs false
set_option maxRecDepth 100000

/-- Bytes as a number. -/
def v256 (b : List Int) : Int := b.foldl (fun m c => m * 256 + c) 0
theorem fold_v256 : ∀ (b : List Int) {N : List Int}, Byt b → Dg N → v58 (b.foldl dstep N) = b.foldl (fun m c => m * 256 + c) (v58 N)
  | [], N, _, _ => rfl
  | c :: b, N, hb, h => by
    have hc := hb c (by simp)
    simp only [List.foldl_cons]
    rw [fold_v256 b (fun x hx => hb x (List.mem_cons_of_mem _ hx)) (dstep_ok hc.1 (by omega) h), v58_step hc.1 (by omega) h]
theorem v58_dig58 {b : List Int} (hb : Byt b) : v58 (dig58 b) = v256 b := fold_v256 b hb Dg.nil
/-- The last one is not 0. -/
def okl : List Int → Prop
  | [] => True
  | [x] => 1 ≤ x
  | _ :: y :: r => okl (y :: r)
def r256 : List Int → Int
  | [] => 0
  | x :: r => r256 r * 256 + x
theorem r256_nonneg : ∀ {p : List Int}, Byt p → 0 ≤ r256 p
  | [], _ => by simp [r256]
  | x :: r, h => by
    have hx := h x (by simp)
    have := r256_nonneg (p := r) fun y hy => h y (List.mem_cons_of_mem _ hy)
    simp only [r256]; omega
theorem r256_pos : ∀ {p : List Int}, Byt p → okl p → p ≠ [] → 1 ≤ r256 p
  | [], _, _, h => absurd rfl h
  | [x], _, h, _ => by have h : 1 ≤ x := h; simp only [r256]; omega
  | x :: y :: r, hb, h, _ => by
    have hx := hb x (by simp)
    have := r256_pos (p := y :: r) (fun y hy => hb y (List.mem_cons_of_mem _ hy)) h (by simp)
    rw [r256]; omega
theorem okl_tail {x : Int} {r : List Int} (h : okl (x :: r)) : okl r := by
  cases r with
  | nil => trivial
  | cons y r => exact h
theorem r256_inj : ∀ {p q : List Int}, Byt p → Byt q → okl p → okl q → r256 p = r256 q → p = q
  | [], [], _, _, _, _, _ => rfl
  | [], y :: r, _, hq, _, kq, e => by have := r256_pos hq kq (by simp); simp only [r256] at e this; omega
  | x :: r, [], hp, _, kp, _, e => by have := r256_pos hp kp (by simp); simp only [r256] at e this; omega
  | x :: r, y :: s, hp, hq, kp, kq, e => by
    have hx := hp x (by simp)
    have hy := hq y (by simp)
    simp only [r256] at e
    have h1 : x = y := by omega
    have h2 : r256 r = r256 s := by omega
    rw [h1, r256_inj (fun y hy => hp y (List.mem_cons_of_mem _ hy)) (fun y hy => hq y (List.mem_cons_of_mem _ hy)) (okl_tail kp) (okl_tail kq) h2]
theorem okl_snoc : ∀ (l : List Int) (x : Int), 1 ≤ x → okl (l ++ [x])
  | [], x, h => h
  | [y], x, h => h
  | y :: z :: l, x, h => okl_snoc (z :: l) x h
theorem v256_rev (b : List Int) : v256 b = r256 b.reverse := by
  unfold v256
  rw [← List.foldr_reverse]
  generalize b.reverse = p
  induction p with
  | nil => rfl
  | cons x r ih => simp only [List.foldr_cons, r256, ih]
theorem v256_inj {a b : List Int} (ha : Byt a) (hb : Byt b) (ta : a = [] ∨ 1 ≤ a.headD 0) (tb : b = [] ∨ 1 ≤ b.headD 0) (e : v256 a = v256 b) : a = b := by
  have key : ∀ {a : List Int}, (a = [] ∨ 1 ≤ a.headD 0) → okl a.reverse := by
    intro a h
    cases a with
    | nil => trivial
    | cons x r =>
      rcases h with h | h
      · cases h
      · rw [List.reverse_cons]; exact okl_snoc _ _ (by simpa using h)
  rw [v256_rev, v256_rev] at e
  have := r256_inj (fun x hx => ha x (List.mem_reverse.1 hx)) (fun x hx => hb x (List.mem_reverse.1 hx)) (key ta) (key tb) e
  exact List.reverse_inj.1 this
theorem sign_inj {d e : Int} (h0 : 0 ≤ d) (h1 : d < 58) (k0 : 0 ≤ e) (k1 : e < 58) (h : sign d = sign e) : d = e := by
  have key : ∀ i < 58, ∀ j < 58, alpha.getD i 0 = alpha.getD j 0 → i = j := by decide
  have := key d.toNat (by omega) e.toNat (by omega) h
  omega
theorem sign_map_inj : ∀ {M N : List Int}, Dg M → Dg N → M.map sign = N.map sign → M = N
  | [], [], _, _, _ => rfl
  | [], _ :: _, _, _, e => by simp at e
  | _ :: _, [], _, _, e => by simp at e
  | d :: M, f :: N, h, k, e => by
    simp only [List.map_cons, List.cons.injEq] at e
    have h1 := h d (by simp)
    have h2 := k f (by simp)
    rw [sign_inj h1.1 h1.2 h2.1 h2.2 e.1, sign_map_inj h.tail k.tail e.2]
theorem split49 : ∀ (p q : Nat) (M N : List Int), M.head? ≠ some 49 → N.head? ≠ some 49 → List.replicate p 49 ++ M = List.replicate q 49 ++ N → p = q ∧ M = N
  | 0, 0, M, N, _, _, e => ⟨rfl, e⟩
  | 0, q + 1, M, N, h, _, e => by
    simp only [List.replicate_succ, List.replicate_zero, List.nil_append, List.cons_append] at e
    rw [e] at h; simp at h
  | p + 1, 0, M, N, _, k, e => by
    simp only [List.replicate_succ, List.replicate_zero, List.nil_append, List.cons_append] at e
    rw [← e] at k; simp at k
  | p + 1, q + 1, M, N, h, k, e => by
    simp only [List.replicate_succ, List.cons_append, List.cons.injEq, true_and] at e
    obtain ⟨rfl, h2⟩ := split49 p q M N h k e
    exact ⟨rfl, h2⟩
theorem map_head {N : List Int} (h : Dg N) (t : Tip N) : (N.map sign).head? ≠ some 49 := by
  cases N with
  | nil => simp
  | cons d N =>
    have hd := h d (by simp)
    rcases t with t | t
    · cases t
    · have h1 : 1 ≤ d := by simpa using t
      simp only [List.map_cons, List.head?_cons, ne_eq, Option.some.injEq]
      intro e
      have := sign_inj hd.1 hd.2 (by omega) (by omega) (e.trans (show (49 : Int) = sign 0 from rfl))
      omega
theorem zs_drop_tip : ∀ (b : List Int), Byt b → b.drop (zs b) = [] ∨ 1 ≤ (b.drop (zs b)).headD 0
  | [], _ => .inl rfl
  | c :: b, h => by
    unfold zs
    split
    · simpa using zs_drop_tip b fun x hx => h x (List.mem_cons_of_mem _ hx)
    · right
      have := h c (by simp)
      simp; omega
theorem zs_take : ∀ (b : List Int), b.take (zs b) = List.replicate (zs b) 0
  | [] => rfl
  | c :: b => by
    unfold zs
    split
    · rename_i hc; subst hc; simp [List.replicate_succ, zs_take b]
    · rfl
theorem v256_zs : ∀ (b : List Int), v256 b = v256 (b.drop (zs b))
  | [] => rfl
  | c :: b => by
    unfold zs
    split
    · rename_i hc
      subst hc
      show v256 b = _
      simpa using v256_zs b
    · rfl
/-- Unlike bytes have unlike texts. -/
theorem text58_inj {a b : List Int} (ha : Byt a) (hb : Byt b) (e : text58 a = text58 b) : a = b := by
  unfold text58 at e
  obtain ⟨hz, hm⟩ := split49 _ _ _ _ (map_head (dig58_ok ha) (dig58_tip ha)) (map_head (dig58_ok hb) (dig58_tip hb)) e
  have hd := sign_map_inj (dig58_ok ha) (dig58_ok hb) hm
  have hv : v256 (a.drop (zs a)) = v256 (b.drop (zs b)) := by rw [← v256_zs, ← v256_zs, ← v58_dig58 ha, ← v58_dig58 hb, hd]
  have hr := v256_inj (ha.drop _) (hb.drop _) (zs_drop_tip a ha) (zs_drop_tip b hb) hv
  rw [← List.take_append_drop (zs a) a, ← List.take_append_drop (zs b) b, zs_take, zs_take, hr, hz]
end Go.Proofs.YtjbaobnhfalceaaGreatDoor
