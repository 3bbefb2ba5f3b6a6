/- Rows of one's own, one cell an element; append of one element; lists of bytes in such rows. -/
import Derived.Test.YtnbpliccenanpaaDoorAppend
import Derived.Test.YtnbpliccenanpaaDoorConcat
namespace Go.Proofs.YtnbpliccenanpaaDoor
open Go Go.RowKit
set_option linter.unusedVariables false
set_option linter.unusedSimpArgs false
set_option maxRecDepth 100000

/-- A row of one's own: one cell an element. -/
structure VOwn (w : World) (e : TypeId) (B : Nat) (v : Value) (us : List Value) : Prop where
  row : w.ownsRow B e 1 v us.length us
theorem VOwn.nil (w : World) (e : TypeId) (B : Nat) : VOwn w e B (.slice none 0 0) [] := ⟨⟨rfl, .inl ⟨rfl, rfl⟩⟩⟩
theorem VOwn.base {w : World} {e : TypeId} {B : Nat} {v : Value} {us : List Value} (h : VOwn w e B v us) (k : Nat) (hk : v.ownBlock = some k) : B ≤ k ∧ k < w.heap.size := h.row.lt k hk
theorem VOwn.mono {w : World} {e : TypeId} {B B' : Nat} {v : Value} {us : List Value} (h : VOwn w e B v us) (hb : B' ≤ B) : VOwn w e B' v us := by
  refine ⟨⟨h.row.1, ?_⟩⟩
  rcases h.row.2 with h2 | ⟨g, cap, cur, hv, hg, r⟩
  · exact .inl h2
  · exact .inr ⟨g, cap, cur, hv, by omega, r⟩
theorem VOwn.keep {w w' : World} {S : Nat → Prop} {e : TypeId} {B : Nat} {v : Value} {us : List Value} (h : VOwn w e B v us) (k : Kp S w w') (hs : ∀ i, v.ownBlock = some i → ¬ S i) : VOwn w' e B v us := by
  refine ⟨⟨h.row.1, ?_⟩⟩
  rcases h.row.2 with h2 | ⟨g, cap, cur, hv, hg, hh, r⟩
  · exact .inl h2
  · exact .inr ⟨g, cap, cur, hv, hg, (k.block g (Array.getElem?_eq_some_iff.1 hh).1 (hs g (by rw [hv]; rfl))).trans hh, r⟩
theorem VOwn.keepN {w w' : World} {e : TypeId} {B : Nat} {v : Value} {us : List Value} (h : VOwn w e B v us) (k : Kp no w w') : VOwn w' e B v us := h.keep k (fun _ _ h => h)
theorem VOwn.form {w : World} {e : TypeId} {B : Nat} {v : Value} {us : List Value} (h : VOwn w e B v us) : ∃ A c, v = .slice A us.length c ∧ us.length ≤ c ∧ c ≤ 9223372036854775807 ∧ (0 < us.length → ∃ g, A = some ⟨g, 0, none⟩ ∧ ∀ j (hj : j < us.length), w.cell? ⟨g, j, none⟩ = some us[j]) := by
  rcases h.row.2 with ⟨rfl, h0⟩ | ⟨g, cap, cur, hv, hb, hh, hnc, hcm, hsz, ht⟩
  · exact ⟨none, 0, by rw [h0], by omega, by omega, fun hp => absurd hp (by omega)⟩
  · simp only [maxLen] at hcm
    refine ⟨_, _, hv, hnc, by omega, fun hp => ⟨g, rfl, fun j hj => ?_⟩⟩
    rw [cell_of_row w g _ cur e (0, 0) hh]
    have h2 : us[j]? = cur.toList[j]? := by rw [← ht, List.getElem?_take, if_pos (by omega)]
    rw [List.getElem?_eq_getElem hj] at h2
    simpa using h2.symm

section
variable {P : Program} {ops : Array Oper} {rest : List Oper} {o : Oper} {a : Act} {Q : Exit → Act → World → Prop}
/-- 'append(v, u)', behind 'at_builtin'; u lies in a new block of its own. -/
theorem one_append {W : World} (B : Nat) (hgd : o.guard = none) (s x : Operand) (t e : TypeId)
    (ho : o.op = .call { callee := .builtin .append, args := #[s, x], argTypes := #[t, t] })
    (ht : P.underlying t = some (.slice e)) (z : Value) (by_ : Nat) (hinfo : (P.info? e).map (fun i => (i.zero, i.size, i.bytes)) = some (some z, 1, by_)) (hz : z.cells.size = 1) (hby : by_ ≤ 24)
    (v : Value) (us : List Value) (u : Value) (b0 : Nat) (hs : a.eval s = v) (hx : a.eval x = .slice (some ⟨b0, 0, none⟩) 1 1) (hc : W.cell? ⟨b0, 0, none⟩ = some u) (h1 : u.oneCell' = true)
    (HO : VOwn W e B v us) (hB : B ≤ W.heap.size) (hl : us.length ≤ 1099511627776)
    (h : ∀ A1 c1 w1, VOwn w1 e B (.slice A1 (us.length + 1) c1) (us ++ [u]) → Kp (Of v) W w1 → Went W v (.slice A1 (us.length + 1) c1) → wpList P ops Q rest (a.put o.dst (.slice A1 (us.length + 1) c1)) w1) :
    wpList P ops Q (o :: rest) a W := by
  obtain ⟨i0, hi, hzz⟩ := Option.map_eq_some_iff.1 hinfo
  simp only [Prod.mk.injEq] at hzz
  obtain ⟨hz0, hz1, hz2⟩ := hzz
  have hcells : ∀ j u', [u][j]? = some u' → W.cell? ((⟨b0, 0, none⟩ : Addr).add j) = some u' := by
    intro j u' hu
    cases j with
    | zero =>
      have ha : (⟨b0, 0, none⟩ : Addr).add 0 = ⟨b0, 0, none⟩ := by unfold Addr.add; split <;> simp_all
      rw [ha, hc]; simpa using hu
    | succ j => simp at hu
  obtain ⟨v1, w1, hr, h2, h3, h4, h5⟩ := run_append_own_at (P := P) W B t o.type e i0 z 1 by_ ht hi hz0 hz1 hz2 hz (by omega) v us.length us HO.row ⟨b0, 0, none⟩ 1 1 [u] rfl hcells
    (by intro u' hu; simp only [List.mem_cons, List.not_mem_nil, or_false] at hu; rw [hu]; exact h1) (by simp only [maxLen]; omega)
    (Nat.le_trans (Nat.mul_le_mul_left _ hby) (by omega)) hB
  refine wpList_plain hgd fun K hK => ?_
  unfold Oper.wp execOp
  simp only [ho, resolve, invoke, builtin, Sem.run_bind, Sem.run_pure, Result.andThen_ok, List.map_toArray, List.map_cons, List.map_nil, hs, hx, hr]
  obtain ⟨A1, c1, rfl⟩ : ∃ A1 c1, v1 = .slice A1 (us.length + 1) c1 := by
    rcases h2.2 with ⟨rfl, h0⟩ | ⟨g, cap, cur, rfl, _⟩
    · omega
    · exact ⟨_, _, rfl⟩
  exact hK _ _ (h A1 c1 w1 ⟨by simpa using h2⟩ ((Kp.refl _ _).grown h3 fun k hk _ => hk) (h5.imp_right fun h => ⟨_, h, Nat.le_refl _⟩))
end
theorem Kp.vown {S : Nat → Prop} {w0 w w' : World} {e : TypeId} {B : Nat} {v : Value} {us : List Value} (h : Kp S w0 w) (ho : VOwn w e B v us) (hb : w0.heap.size ≤ B) (k : Kp (Of v) w w') : Kp S w0 w' :=
  h.trans k fun i hi hv => absurd (ho.base i hv).1 (by omega)

/-! ### Lists of bytes -/
/-- The value u reads as the bytes l, outside of v's own row. -/
def ElAt (w : World) (v u : Value) (l : List Int) : Prop := ∃ A c, u = .slice A l.length c ∧ Rd w A l.length c l ∧ ∀ a, A = some a → a.block < w.heap.size ∧ v.ownBlock ≠ some a.block
theorem ElAt.keepN {w w' : World} {v u : Value} {l : List Int} (h : ElAt w v u l) (k : Kp no w w') : ElAt w' v u l := by
  obtain ⟨A, c, rfl, hr, ho⟩ := h
  exact ⟨A, c, rfl, hr.keepN k, fun a ha => ⟨Nat.lt_of_lt_of_le (ho a ha).1 k.size, (ho a ha).2⟩⟩
theorem ElAt.went {w w1 : World} {v v1 u : Value} {l : List Int} (h : ElAt w v u l) (k : Kp (Of v) w w1) (hw : Went w v v1) : ElAt w1 v1 u l := by
  obtain ⟨A, c, rfl, hr, ho⟩ := h
  refine ⟨A, c, rfl, hr.keep k (fun a ha hs => (ho a ha).2 hs), fun a ha => ⟨Nat.lt_of_lt_of_le (ho a ha).1 k.size, fun he => ?_⟩⟩
  rcases hw with hw | ⟨b, hw, hb⟩
  · exact (ho a ha).2 (hw ▸ he)
  · rw [hw] at he
    injection he with he
    have := (ho a ha).1
    omega
/-- v's own row holds lists of bytes. -/
structure VS (w : World) (B : Nat) (v : Value) (L : List (List Int)) : Prop where
  ex : ∃ us : List Value, VOwn w 22 B v us ∧ us.length = L.length ∧ ∀ (j : Nat) (hj : j < us.length), ElAt w v us[j] (L.getD j [])
theorem VS.nil (w : World) (B : Nat) : VS w B (.slice none 0 0) [] := ⟨[], VOwn.nil _ _ _, rfl, fun j hj => absurd hj (by simp)⟩
theorem VS.keepN {w w' : World} {B : Nat} {v : Value} {L : List (List Int)} (h : VS w B v L) (k : Kp no w w') : VS w' B v L := by
  obtain ⟨us, ho, hl, he⟩ := h.ex
  exact ⟨us, ho.keepN k, hl, fun j hj => (he j hj).keepN k⟩
theorem VS.form {w : World} {B : Nat} {v : Value} {L : List (List Int)} (h : VS w B v L) : ∃ A c, v = .slice A L.length c ∧ L.length ≤ c ∧ c ≤ 9223372036854775807 := by
  obtain ⟨us, ho, hl, _⟩ := h.ex
  obtain ⟨A, c, hv, h1, h2, _⟩ := ho.form
  exact ⟨A, c, by rw [← hl]; exact hv, by omega, h2⟩
theorem VS.app {w w1 : World} {B : Nat} {v v1 u : Value} {us : List Value} {L : List (List Int)} {l : List Int} (hl : us.length = L.length) (he : ∀ (j : Nat) (hj : j < us.length), ElAt w v us[j] (L.getD j []))
    (hu : ElAt w v u l) (ho : VOwn w1 22 B v1 (us ++ [u])) (k : Kp (Of v) w w1) (hw : Went w v v1) : VS w1 B v1 (L ++ [l]) := by
  refine ⟨us ++ [u], ho, by simp [hl], fun j hj => ?_⟩
  by_cases hjl : j < us.length
  · rw [List.getElem_append_left hjl, show (L ++ [l]).getD j [] = L.getD j [] from by rw [List.getD_eq_getElem?_getD, List.getD_eq_getElem?_getD, List.getElem?_append_left (by omega)]]
    exact (he j hjl).went k hw
  · have hj' : j = us.length := by simp at hj; omega
    subst hj'
    rw [List.getElem_append_right (Nat.le_refl _), show (L ++ [l]).getD us.length [] = l from by rw [List.getD_eq_getElem?_getD, List.getElem?_append_right (by omega), hl]; simp]
    simpa using hu.went k hw
theorem VS.rd {w : World} {B : Nat} {v : Value} {L : List (List Int)} (h : VS w B v L) : ∃ A c, v = .slice A L.length c ∧ RdS w A L.length c L := by
  obtain ⟨us, ho, hl, he⟩ := h.ex
  obtain ⟨A, c, hv, h1, h2, h3⟩ := ho.form
  refine ⟨A, c, by rw [← hl]; exact hv, rfl, by omega, h2, fun hp => ?_⟩
  obtain ⟨g, rfl, hc⟩ := h3 (by omega)
  refine ⟨g, 0, rfl, fun j hj => ?_⟩
  obtain ⟨A', c', hu, hr, _⟩ := he j (by omega)
  exact ⟨A', c', by rw [Nat.zero_add, hc j (by omega), hu], hr⟩
theorem Tryd.und_bytess' : Tryd.prog.underlying 38 = some (.slice 22) := by kernel_rfl
theorem Tryd.info_bytes : (Tryd.prog.info? 22).map (fun i => (i.zero, i.size, i.bytes)) = some (some (.slice none 0 0), 1, 24) := by kernel_rfl
end Go.Proofs.YtnbpliccenanpaaDoor
