/- Messages as they are written, plain: what is read of them. -/
import Derived.Test.YtddofkeajinjpaaGreatDoorMar
namespace Go.Proofs.YtddofkeajinjpaaGreatDoor
open Go
set_option linter.unusedVariables false
set_option linter.unusedSimpArgs false

theorem tag_of (f t : Int) (r : List Int) (h0 : 1 ≤ f) (h1 : f ≤ 536870911) (t0 : 0 ≤ t) (t1 : t < 8) : tag (vint (f * 8 + t) ++ r) = some (f, t, ((vint (f * 8 + t)).length : Int)) := by
  unfold tag
  rw [rv_vint _ r (by omega) (by omega)]
  simp only
  rw [if_neg (by omega), show (f * 8 + t) / 8 = f from by omega, show (f * 8 + t) % 8 = t from by omega]
theorem drop_app (a r : List Int) : (a ++ r).drop ((a.length : Int)).toNat = r := by simp
/-- A number's field at the head. -/
theorem hd_num (f v : Int) (r : List Int) (h0 : 1 ≤ f) (h1 : f ≤ 536870911) (v0 : 0 ≤ v) (v1 : v < 18446744073709551616) : hd (vint (f * 8) ++ (vint v ++ r)) = .fld ⟨f, 0, v, []⟩ r := by
  have ht := tag_of f 0 (vint v ++ r) h0 h1 (by omega) (by omega)
  rw [Int.add_zero] at ht
  rw [hd_of ht (by omega), drop_app, hdv_num (rv_vint v r v0 v1), drop_app]
theorem bsz_of (l r : List Int) (hn : l.length ≤ 1099511627776) : bsz (vint l.length ++ (l ++ r)) = some ((l.length : Int), ((vint l.length).length : Int)) := by
  unfold bsz
  rw [rv_vint _ _ (by omega) (by omega)]
  simp only
  rw [if_pos (by simp; omega)]
theorem bval_of (l r : List Int) : bval (vint l.length ++ (l ++ r)) l.length (vint l.length).length = l := by
  unfold bval
  rw [drop_app]; simp
/-- A field of bytes at the head. -/
theorem hd_bytes (f : Int) (l r : List Int) (h0 : 1 ≤ f) (h1 : f ≤ 536870911) (hn : l.length ≤ 1099511627776) : hd (vint (f * 8 + 2) ++ (vint l.length ++ (l ++ r))) = .fld ⟨f, 2, 0, l⟩ r := by
  rw [hd_of (tag_of f 2 _ h0 h1 (by omega) (by omega)) (by omega), drop_app, hdv_bytes (bsz_of l r hn), bval_of]
  congr 1
  rw [show (((vint l.length).length : Int) + (l.length : Int)).toNat = (vint l.length ++ l).length from by simp; omega, ← List.append_assoc, List.drop_left]
theorem vint_1 (v : Int) (h : v < 128) : vint v = [v] := by rw [vint_eq, vi, if_pos h]
theorem hd_wb (f : Int) (l r : List Int) (h0 : 1 ≤ f) (h1 : f ≤ 15) (hn : l.length ≤ 1099511627776) : hd (wb f l ++ r) = .fld ⟨f, 2, 0, l⟩ r := by
  have := hd_bytes f l r h0 (by omega) hn
  rw [vint_1 _ (by omega)] at this
  rw [← this]; simp [wb]
theorem hd_small (f v : Int) (r : List Int) (h0 : 1 ≤ f) (h1 : f ≤ 15) (v0 : 0 ≤ v) (v1 : v < 18446744073709551616) : hd ([f * 8] ++ vint v ++ r) = .fld ⟨f, 0, v, []⟩ r := by
  have := hd_num f v r h0 (by omega) v0 v1
  rw [vint_1 _ (by omega)] at this
  rw [← this]; simp
theorem wb_pos (f : Int) (l : List Int) : 0 < (wb f l).length := by rw [wb_len]; omega
theorem ku_wrap (k : Int) (h0 : -2147483648 ≤ k) (h1 : k ≤ 2147483647) : IntKind.i32.wrap (ku k) = k := by
  rw [IntKind.wrap_i32]; unfold ku; split <;> omega
theorem From.kb {b r : List Int} {p : List Fld} {k : Int} {l : List Int} (h : From b p (kb k l ++ r)) (h0 : -2147483648 ≤ k) (h1 : k ≤ 2147483647) (hl : Byt l) (hn : l.length ≤ 1099511620000) (hr : Byt r) :
    From b (p ++ [⟨1, 0, ku k, []⟩, ⟨2, 2, 0, l⟩]) r := by
  have hku := ku_range k h0 h1
  have e : Proofs.YtddofkeajinjpaaGreatDoor.kb k l ++ r = [1 * 8] ++ vint (ku k) ++ (wb 2 l ++ r) := by simp [Proofs.YtddofkeajinjpaaGreatDoor.kb]
  have hb : Byt (wb 2 l ++ r) := (wb_byt (by omega) (by omega) hl (by omega)).app hr
  rw [e] at h
  have a := h.step (((Byt.one (by omega) (by omega)).app (vint_byt _ hku.1 hku.2)).app hb) (by simp) (hd_small 1 (ku k) (wb 2 l ++ r) (by omega) (by omega) hku.1 hku.2)
  have b := a.step hb (by have := wb_pos 2 l; rw [List.length_append]; omega) (hd_wb 2 l r (by omega) (by omega) (by omega))
  simpa using b
theorem wf_kb {k : Int} {l : List Int} (h0 : -2147483648 ≤ k) (h1 : k ≤ 2147483647) (hl : Byt l) (hn : l.length ≤ 1099511620000) : wf (kb k l) = .ok [⟨1, 0, ku k, []⟩, ⟨2, 2, 0, l⟩] := by
  have h := From.start (kb k l ++ [])
  have := From.kb h h0 h1 hl hn Byt.nil
  rw [List.append_nil] at this
  simpa using this.done
theorem kall_kb (k : Int) (l : List Int) (h0 : -2147483648 ≤ k) (h1 : k ≤ 2147483647) : kall [⟨1, 0, ku k, []⟩, ⟨2, 2, 0, l⟩] = (some k, some l) := by
  simp [kall, kstep, ku_wrap k h0 h1]
theorem KRes.kb {k k' : Int} {l d : List Int} {ok : Bool} (h : KRes (kb k l) k' d ok) (h0 : -2147483648 ≤ k) (h1 : k ≤ 2147483647) (hl : Byt l) (hn : l.length ≤ 1099511620000) : ok = true ∧ k' = k ∧ d = l := by
  unfold KRes at h
  rw [wf_kb h0 h1 hl hn] at h
  simp only [kall_kb k l h0 h1, okS, Option.isSome_some, Bool.and_self, if_true, Prod.mk.injEq, Option.some.injEq] at h
  exact ⟨h.1, h.2.1.symm, h.2.2.symm⟩
theorem kb_live : kb 1 [7] = [8, 1, 18, 1, 7] := by
  simp [kb, wb, ku, vint_1]
end Go.Proofs.YtddofkeajinjpaaGreatDoor
