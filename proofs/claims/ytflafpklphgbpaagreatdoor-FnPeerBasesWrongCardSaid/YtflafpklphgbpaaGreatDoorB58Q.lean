/- The rows that the encoder goes through, plain. -/
import Derived.Test.YtflafpklphgbpaaGreatDoorB58S
namespace Go.Proofs.YtflafpklphgbpaaGreatDoor
open Go
set_option linter.unusedVariables false
set_option linter.unusedSimpArgs false
set_option maxRecDepth 100000

theorem zget (a i : Nat) (X : List Int) : (List.replicate a (0 : Int) ++ X).getD (a + i) 0 = X.getD i 0 := by
  rw [List.getD_eq_getElem?_getD, List.getElem?_append_right (by simp), List.getD_eq_getElem?_getD]; simp
theorem zget0 (a i : Nat) (X : List Int) (h : i < a) : (List.replicate a (0 : Int) ++ X).getD i 0 = 0 := by
  rw [List.getD_eq_getElem?_getD, List.getElem?_append_left (by simpa using h)]; simp [h]
theorem zset (a i : Nat) (X : List Int) (v : Int) : (List.replicate a (0 : Int) ++ X).set (a + i) v = List.replicate a 0 ++ X.set i v := by
  rw [List.set_append_right _ _ (by simp)]; simp
theorem zset1 (a : Nat) (M : List Int) (v : Int) : (List.replicate (a + 1) (0 : Int) ++ M).set a v = List.replicate a 0 ++ v :: M := by
  rw [List.replicate_succ', List.append_assoc, List.set_append_right _ _ (by simp)]; simp

/-- The row within one round of the encoder: p digits are done. -/
def In58 (N : List Int) (y k : Int) (m p : Nat) (L : List Int) : Prop :=
  (∃ r M, 0 < r ∧ r + p = N.length ∧ M.length = p ∧ (k, M) = mul58 y (N.drop r) ∧ L = List.replicate (m - N.length) 0 ++ (N.take r ++ M)) ∨ (∃ M, M.length = p ∧ N.length ≤ p ∧ pre58 k M = dstep N y ∧ L = List.replicate (m - p) 0 ++ M)
theorem In58.len {N : List Int} {y k : Int} {m p : Nat} {L : List Int} (h : In58 N y k m p L) (hm : N.length ≤ m) (hp : p ≤ m) : L.length = m := by
  rcases h with ⟨r, M, h0, h1, h2, h3, rfl⟩ | ⟨M, h1, h2, h3, rfl⟩ <;> simp <;> omega
theorem In58.start (N : List Int) (y : Int) (m : Nat) : In58 N y y m 0 (List.replicate (m - N.length) 0 ++ N) := by
  cases N with
  | nil => exact .inr ⟨[], rfl, by simp, rfl, by simp⟩
  | cons d N => exact .inl ⟨(d :: N).length, [], by simp, by simp, rfl, by simp [mul58], by simp⟩
theorem In58.digit {N : List Int} {y k : Int} {m p : Nat} {L : List Int} (h : In58 N y k m p L) (hN : Dg8 N) (hm : N.length ≤ m) (hp : p < m) : 0 ≤ L.getD (m - 1 - p) 0 ∧ L.getD (m - 1 - p) 0 < 58 := by
  rcases h with ⟨r, M, h0, h1, h2, h3, rfl⟩ | ⟨M, h1, h2, h3, rfl⟩
  · rw [show m - 1 - p = (m - N.length) + (r - 1) from by omega, zget]
    obtain ⟨r, rfl⟩ : ∃ s, r = s + 1 := ⟨r - 1, by omega⟩
    rw [Nat.add_sub_cancel, getD_mid N M r (by omega)]
    exact hN _ (by rw [List.getD_eq_getElem?_getD, List.getElem?_eq_getElem (by omega)]; simp)
  · rw [zget0 _ _ _ (by omega)]; omega
theorem In58.step {N : List Int} {y k : Int} {m p : Nat} {L : List Int} (h : In58 N y k m p L) (hm : N.length ≤ m) (hp : p < m) (hk0 : 0 ≤ k) (hk1 : k ≤ 255) (hgo : p < N.length ∨ 0 < k) :
    In58 N y ((k + 256 * L.getD (m - 1 - p) 0) / 58) m (p + 1) (L.set (m - 1 - p) ((k + 256 * L.getD (m - 1 - p) 0) % 58)) := by
  rcases h with ⟨r, M, h0, h1, h2, h3, rfl⟩ | ⟨M, h1, h2, h3, rfl⟩
  · rw [show m - 1 - p = (m - N.length) + (r - 1) from by omega, zget, zset]
    obtain ⟨r, rfl⟩ : ∃ s, r = s + 1 := ⟨r - 1, by omega⟩
    rw [Nat.add_sub_cancel, getD_mid N M r (by omega), set_last N M r (by omega), Int.mul_comm 256]
    have hx := mul58_next y N r (by omega)
    rw [← h3] at hx
    rcases Nat.eq_zero_or_pos r with hr | hr
    · subst hr
      refine .inr ⟨((k + N.getD 0 0 * 256) % 58) :: M, by simp [h2], by omega, ?_, ?_⟩
      · simp only [List.drop_zero] at hx
        unfold dstep
        rw [hx]
      · simp only [List.take_zero, List.nil_append]
        rw [show m - N.length = m - (p + 1) from by omega]
    · exact .inl ⟨r, _ :: M, hr, by omega, by simp [h2], hx.symm, rfl⟩
  · rw [zget0 _ _ _ (by omega), show m - p = (m - 1 - p) + 1 from by omega, zset1]
    refine .inr ⟨(k % 58) :: M, by simp [h1], by omega, ?_, ?_⟩
    · rw [← h3, pre58_step (by omega) hk1]; simp
    · rw [show m - 1 - p = m - (p + 1) from by omega]; simp
theorem In58.more {N : List Int} {y k : Int} {m p sz : Nat} {L : List Int} (h : In58 N y k m p L) (hk1 : k ≤ 255) (hgo : p < N.length ∨ 0 < k) (hN : N.length ≤ sz) (hs : (dstep N y).length ≤ sz) : p < sz := by
  rcases h with ⟨r, M, h0, h1, h2, h3, rfl⟩ | ⟨M, h1, h2, h3, rfl⟩
  · omega
  · rw [← h3] at hs
    have : M.length < (pre58 k M).length := by
      unfold pre58
      rw [if_neg (by omega)]
      split <;> simp only [List.length_cons] <;> omega
    omega
theorem In58.stop {N : List Int} {y k : Int} {m p : Nat} {L : List Int} (h : In58 N y k m p L) (h0 : ¬ p < N.length) (hk : k = 0) : (dstep N y).length = p ∧ L = List.replicate (m - (dstep N y).length) 0 ++ dstep N y := by
  rcases h with ⟨r, M, h0, h1, h2, h3, rfl⟩ | ⟨M, h1, h2, h3, rfl⟩
  · omega
  · have : M = dstep N y := by rw [← h3]; unfold pre58; rw [if_pos (by omega)]
    rw [← this]; exact ⟨h1, by rw [h1]⟩
theorem take_step (l : List Int) (z i : Nat) (hzi : z ≤ i) (hi : i < l.length) : dig58 ((l.drop z).take (i + 1 - z)) = dstep (dig58 ((l.drop z).take (i - z))) (l.getD i 0) := by
  rw [show i + 1 - z = (i - z) + 1 from by omega, dig58_take _ _ (by rw [List.length_drop]; omega)]
  congr 1
  rw [List.getD_eq_getElem?_getD, List.getD_eq_getElem?_getD, List.getElem?_drop]
  congr 2
  omega

/-- The row as the signs are written. -/
def Out58 (D : List Int) (m z t : Nat) : List Int := List.replicate z 49 ++ ((D.take t).map sign ++ (List.replicate (m - z - t - D.length) 0 ++ D))
theorem Out58.first (D : List Int) (m : Nat) : List.replicate (m - D.length) 0 ++ D = Out58 D m 0 0 := by simp [Out58]
theorem Out58.len {D : List Int} {m z t : Nat} (ht : t ≤ D.length) (hm : z + t + D.length ≤ m) : (Out58 D m z t).length = m := by
  simp [Out58]; omega
theorem Out58.sets {D : List Int} {m z : Nat} (hm : z + D.length < m) : (Out58 D m z 0).set z 49 = Out58 D m (z + 1) 0 := by
  unfold Out58
  rw [List.set_append_right _ _ (by simp), List.replicate_succ', List.append_assoc]
  congr 1
  simp only [List.length_replicate, Nat.sub_self, List.take_zero, List.map_nil, List.nil_append]
  rw [show m - z - 0 - D.length = (m - (z + 1) - 0 - D.length) + 1 from by omega, List.replicate_succ]
  simp
theorem Out58.get {D : List Int} {m z t : Nat} (ht : t ≤ D.length) (hm : z + t + D.length ≤ m) (i : Nat) : (Out58 D m z t).getD (m - D.length + i) 0 = D.getD i 0 := by
  unfold Out58
  rw [List.getD_eq_getElem?_getD, List.getElem?_append_right (by simp; omega), List.getElem?_append_right (by simp; omega), List.getElem?_append_right (by simp; omega), List.getD_eq_getElem?_getD]
  congr 2
  simp
  omega
theorem Out58.next {D : List Int} {m z t : Nat} (ht : t < D.length) (hm : z + t + D.length < m) : (Out58 D m z t).set (z + t) (sign (D.getD t 0)) = Out58 D m z (t + 1) := by
  unfold Out58
  rw [List.set_append_right _ _ (by simp), List.set_append_right _ _ (by simp; omega), List.take_succ_eq_append_getElem ht, List.map_append]
  congr 1
  rw [List.append_assoc]
  congr 1
  rw [show m - z - t - D.length = (m - z - (t + 1) - D.length) + 1 from by omega, List.replicate_succ]
  have : z + t - (List.replicate z (49 : Int)).length - ((D.take t).map sign).length = 0 := by simp; omega
  rw [this]
  simp [List.getD_eq_getElem?_getD, List.getElem?_eq_getElem ht]
theorem Out58.done {D : List Int} {m z : Nat} : (Out58 D m z D.length).take (D.length + z) = List.replicate z 49 ++ D.map sign := by
  unfold Out58
  rw [List.take_length, ← List.append_assoc, List.take_left' (by simp; omega)]
theorem Out58.zero {D : List Int} {m z : Nat} (hm : z + D.length ≤ m) (i : Nat) (h0 : z ≤ i) (h1 : i < m - D.length) : (Out58 D m z 0).getD i 0 = 0 := by
  unfold Out58
  rw [List.getD_eq_getElem?_getD, List.getElem?_append_right (by simpa using h0)]
  simp only [List.take_zero, List.map_nil, List.nil_append, List.length_replicate]
  rw [← List.getD_eq_getElem?_getD]
  exact zget0 _ _ _ (by omega)
end Go.Proofs.YtflafpklphgbpaaGreatDoor
