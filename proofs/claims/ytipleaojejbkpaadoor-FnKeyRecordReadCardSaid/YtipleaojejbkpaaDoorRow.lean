/- Rows of one's own, one cell an element; append of one element. -/
import Derived.Test.YtipleaojejbkpaaDoorAppend
import Derived.Test.YtipleaojejbkpaaDoorEnvA
namespace Go.Proofs.YtipleaojejbkpaaDoor
open Go Go.RowKit
set_option linter.unusedVariables false
set_option linter.unusedSimpArgs false
set_option maxRecDepth 100000

/-- A row of one's own: one cell an element. -/
structure VOwn (w : World) (e : TypeId) (B : Nat) (v : Value) (us : List Value) : Prop where
  row : w.ownsRow B e 1 v us.length us
theorem VOwn.nil (w : World) (e : TypeId) (B : Nat) : VOwn w e B (.slice none 0 0) [] := ⟨⟨rfl, .inl ⟨rfl, rfl⟩⟩⟩
theorem VOwn.base {w : World} {e : TypeId} {B : Nat} {v : Value} {us : List Value} (h : VOwn w e B v us) (k : Nat) (hk : v.ownBlock = some k) : B ≤ k ∧ k < w.heap.size := h.row.lt k hk
theorem VOwn.mono {w : World} {e : TypeId} {B B' : Nat} {v : Value} {us : List Value} (h : VOwn w e B v us) (hb : B' ≤ B) : VOwn w e B' v us := by
  refine ⟨⟨h.row.1, ?_⟩⟩
  rcases h.row.2 with h2 | ⟨g, cap, cur, hv, hg, r⟩
  · exact .inl h2
  · exact .inr ⟨g, cap, cur, hv, by omega, r⟩
theorem VOwn.keep {w w' : World} {S : Nat → Prop} {e : TypeId} {B : Nat} {v : Value} {us : List Value} (h : VOwn w e B v us) (k : Kp S w w') (hs : ∀ i, v.ownBlock = some i → ¬ S i) : VOwn w' e B v us := by
  refine ⟨⟨h.row.1, ?_⟩⟩
  rcases h.row.2 with h2 | ⟨g, cap, cur, hv, hg, hh, r⟩
  · exact .inl h2
  · exact .inr ⟨g, cap, cur, hv, hg, (k.block g (Array.getElem?_eq_some_iff.1 hh).1 (hs g (by rw [hv]; rfl))).trans hh, r⟩
theorem VOwn.keepN {w w' : World} {e : TypeId} {B : Nat} {v : Value} {us : List Value} (h : VOwn w e B v us) (k : Kp no w w') : VOwn w' e B v us := h.keep k (fun _ _ h => h)
theorem VOwn.form {w : World} {e : TypeId} {B : Nat} {v : Value} {us : List Value} (h : VOwn w e B v us) : ∃ A c, v = .slice A us.length c ∧ us.length ≤ c ∧ c ≤ 9223372036854775807 ∧ (0 < us.length → ∃ g, A = some ⟨g, 0, none⟩ ∧ ∀ j (hj : j < us.length), w.cell? ⟨g, j, none⟩ = some us[j]) := by
  rcases h.row.2 with ⟨rfl, h0⟩ | ⟨g, cap, cur, hv, hb, hh, hnc, hcm, hsz, ht⟩
  · exact ⟨none, 0, by rw [h0], by omega, by omega, fun hp => absurd hp (by omega)⟩
  · simp only [maxLen] at hcm
    refine ⟨_, _, hv, hnc, by omega, fun hp => ⟨g, rfl, fun j hj => ?_⟩⟩
    rw [cell_of_row w g _ cur e (0, 0) hh]
    have h2 : us[j]? = cur.toList[j]? := by rw [← ht, List.getElem?_take, if_pos (by omega)]
    rw [List.getElem?_eq_getElem hj] at h2
    simpa using h2.symm

section
variable {P : Program} {ops : Array Oper} {rest : List Oper} {o : Oper} {a : Act} {Q : Exit → Act → World → Prop}
/-- 'append(v, u)', behind 'at_builtin'; u lies in a new block of its own. -/
theorem one_append {W : World} (B : Nat) (hgd : o.guard = none) (s x : Operand) (t e : TypeId)
    (ho : o.op = .call { callee := .builtin .append, args := #[s, x], argTypes := #[t, t] })
    (ht : P.underlying t = some (.slice e)) (z : Value) (by_ : Nat) (hinfo : (P.info? e).map (fun i => (i.zero, i.size, i.bytes)) = some (some z, 1, by_)) (hz : z.cells.size = 1) (hby : by_ ≤ 24)
    (v : Value) (us : List Value) (u : Value) (b0 : Nat) (hs : a.eval s = v) (hx : a.eval x = .slice (some ⟨b0, 0, none⟩) 1 1) (hc : W.cell? ⟨b0, 0, none⟩ = some u) (h1 : u.oneCell' = true)
    (HO : VOwn W e B v us) (hB : B ≤ W.heap.size) (hl : us.length ≤ 1099511627776)
    (h : ∀ A1 c1 w1, VOwn w1 e B (.slice A1 (us.length + 1) c1) (us ++ [u]) → Kp (Of v) W w1 → Went W v (.slice A1 (us.length + 1) c1) → wpList P ops Q rest (a.put o.dst (.slice A1 (us.length + 1) c1)) w1) :
    wpList P ops Q (o :: rest) a W := by
  obtain ⟨i0, hi, hzz⟩ := Option.map_eq_some_iff.1 hinfo
  simp only [Prod.mk.injEq] at hzz
  obtain ⟨hz0, hz1, hz2⟩ := hzz
  have hcells : ∀ j u', [u][j]? = some u' → W.cell? ((⟨b0, 0, none⟩ : Addr).add j) = some u' := by
    intro j u' hu
    cases j with
    | zero =>
      have ha : (⟨b0, 0, none⟩ : Addr).add 0 = ⟨b0, 0, none⟩ := by unfold Addr.add; split <;> simp_all
      rw [ha, hc]; simpa using hu
    | succ j => simp at hu
  obtain ⟨v1, w1, hr, h2, h3, h4, h5⟩ := run_append_own_at (P := P) W B t o.type e i0 z 1 by_ ht hi hz0 hz1 hz2 hz (by omega) v us.length us HO.row ⟨b0, 0, none⟩ 1 1 [u] rfl hcells
    (by intro u' hu; simp only [List.mem_cons, List.not_mem_nil, or_false] at hu; rw [hu]; exact h1) (by simp only [maxLen]; omega)
    (Nat.le_trans (Nat.mul_le_mul_left _ hby) (by omega)) hB
  refine wpList_plain hgd fun K hK => ?_
  unfold Oper.wp execOp
  simp only [ho, resolve, invoke, builtin, Sem.run_bind, Sem.run_pure, Result.andThen_ok, List.map_toArray, List.map_cons, List.map_nil, hs, hx, hr]
  obtain ⟨A1, c1, rfl⟩ : ∃ A1 c1, v1 = .slice A1 (us.length + 1) c1 := by
    rcases h2.2 with ⟨rfl, h0⟩ | ⟨g, cap, cur, rfl, _⟩
    · omega
    · exact ⟨_, _, rfl⟩
  exact hK _ _ (h A1 c1 w1 ⟨by simpa using h2⟩ ((Kp.refl _ _).grown h3 fun k hk _ => hk) (h5.imp_right fun h => ⟨_, h, Nat.le_refl _⟩))
end
end Go.Proofs.YtipleaojejbkpaaDoor
