/- Keys' messages as the laws join them, plain: what is read of them. -/
import Derived.Test.YtddofkeajinjpaaGreatDoorLaw
namespace Go.Proofs.YtddofkeajinjpaaGreatDoor
open Go
set_option linter.unusedVariables false
set_option linter.unusedSimpArgs false
set_option maxRecDepth 100000

theorem KRes_fs {l d l' : List Int} {k k' : Int} {ok : Bool} {fs : List Fld} (h : KRes l k' d ok) (hw : wf l = .ok fs) (hk : kall fs = (some k, some l')) : ok = true ∧ k' = k ∧ d = l' := by
  unfold KRes at h
  rw [hw] at h
  simp only [hk, okS, Option.isSome_some, Bool.and_self, if_true, Prod.mk.injEq, Option.some.injEq] at h
  exact ⟨h.1, h.2.1.symm, h.2.2.symm⟩
theorem kall_app (p : List Fld) {k : Int} (l : List Int) (h0 : -2147483648 ≤ k) (h1 : k ≤ 2147483647) : kall (p ++ [⟨1, 0, ku k, []⟩, ⟨2, 2, 0, l⟩]) = (some k, some l) := by
  simp [kall, List.foldl_append, kstep, ku_wrap k h0 h1]
theorem kall_turn (p : List Fld) {k : Int} (l : List Int) (h0 : -2147483648 ≤ k) (h1 : k ≤ 2147483647) : kall (p ++ [⟨2, 2, 0, l⟩, ⟨1, 0, ku k, []⟩]) = (some k, some l) := by
  simp [kall, List.foldl_append, kstep, ku_wrap k h0 h1]
theorem kall_more (p : List Fld) (f : Fld) (h : 3 ≤ f.num) : kall (p ++ [f]) = kall p := by
  unfold kall
  rw [List.foldl_append, List.foldl_cons, List.foldl_nil]
  generalize List.foldl kstep _ p = s
  unfold kstep
  rw [if_neg (by omega), if_neg (by omega)]
theorem kb_drop (k : Int) (l : List Int) : (kb k l).drop (1 + (vint (ku k)).length) = wb 2 l := by
  have e : kb k l = ([8] ++ vint (ku k)) ++ wb 2 l := rfl
  rw [e, show 1 + (vint (ku k)).length = ([8] ++ vint (ku k)).length from by simp; omega, List.drop_left]
theorem kb_take (k : Int) (l : List Int) : (kb k l).take (1 + (vint (ku k)).length) = [8] ++ vint (ku k) := by
  have e : kb k l = ([8] ++ vint (ku k)) ++ wb 2 l := rfl
  rw [e, show 1 + (vint (ku k)).length = ([8] ++ vint (ku k)).length from by simp; omega, List.take_left]
theorem kk_byt {k : Int} (h0 : -2147483648 ≤ k) (h1 : k ≤ 2147483647) : Byt ([8] ++ vint (ku k)) := (Byt.one (by omega) (by omega)).app (vint_byt _ (ku_range k h0 h1).1 (ku_range k h0 h1).2)
theorem From_turned {b r : List Int} {p : List Fld} {k : Int} {l : List Int} (h : From b p (wb 2 l ++ (([8] ++ vint (ku k)) ++ r))) (h0 : -2147483648 ≤ k) (h1 : k ≤ 2147483647) (hl : Byt l) (hn : l.length ≤ 1099511620000) (hr : Byt r) :
    From b (p ++ [⟨2, 2, 0, l⟩, ⟨1, 0, ku k, []⟩]) r := by
  have hku := ku_range k h0 h1
  have hk := (kk_byt h0 h1).app hr
  have a := h.step ((wb_byt (by omega) (by omega) hl (by omega)).app hk) (by have := wb_pos 2 l; rw [List.length_append]; omega) (hd_wb 2 l _ (by omega) (by omega) (by omega))
  have b := a.step hk (by simp) (hd_small 1 (ku k) r (by omega) (by omega) hku.1 hku.2)
  simpa using b
/-- Two keys, one behind the other: the second counts. -/
theorem KRes_last {o k k' : Int} {m l d : List Int} {ok : Bool} (h : KRes (kb o m ++ kb k l) k' d ok) (o0 : -2147483648 ≤ o) (o1 : o ≤ 2147483647) (h0 : -2147483648 ≤ k) (h1 : k ≤ 2147483647)
    (hm : Byt m) (hmn : m.length ≤ 1099511620000) (hl : Byt l) (hn : l.length ≤ 1099511620000) : ok = true ∧ k' = k ∧ d = l := by
  have hk := kb_byt h0 h1 hl (by omega)
  have F := (From.start (kb o m ++ kb k l)).kb o0 o1 hm hmn hk
  have G := From.kb (r := []) (by rw [List.append_nil]; exact F) h0 h1 hl hn Byt.nil
  exact KRes_fs h G.done (kall_app _ l h0 h1)
theorem KRes_lastTurned {o k k' : Int} {m l d : List Int} {ok : Bool} (h : KRes (kb o m ++ (wb 2 l ++ ([8] ++ vint (ku k)))) k' d ok) (o0 : -2147483648 ≤ o) (o1 : o ≤ 2147483647) (h0 : -2147483648 ≤ k) (h1 : k ≤ 2147483647)
    (hm : Byt m) (hmn : m.length ≤ 1099511620000) (hl : Byt l) (hn : l.length ≤ 1099511620000) : ok = true ∧ k' = k ∧ d = l := by
  have hk := (wb_byt (f := 2) (by omega) (by omega) hl (by omega)).app (kk_byt h0 h1)
  have F := (From.start (kb o m ++ (wb 2 l ++ ([8] ++ vint (ku k))))).kb o0 o1 hm hmn hk
  have G := From_turned (r := []) (by rw [List.append_nil]; exact F) h0 h1 hl hn Byt.nil
  exact KRes_fs h G.done (kall_turn _ l h0 h1)
/-- A field that a key does not have: a number, or bytes. -/
def other (f v : Int) (m : List Int) (b : Bool) : List Int := if b then vint (f * 8) ++ vint v else vint (f * 8 + 2) ++ (vint m.length ++ m)
theorem other_byt {f v : Int} {m : List Int} {b : Bool} (f0 : 1 ≤ f) (f1 : f ≤ 100000) (v0 : 0 ≤ v) (v1 : v < 18446744073709551616) (hm : Byt m) (hn : m.length ≤ 1099511620000) : Byt (other f v m b) := by
  unfold other
  split
  · exact (vint_byt _ (by omega) (by omega)).app (vint_byt _ v0 v1)
  · exact (vint_byt _ (by omega) (by omega)).app ((vint_byt _ (by omega) (by omega)).app hm)
theorem hd_other {f v : Int} {m : List Int} (b : Bool) (r : List Int) (f0 : 1 ≤ f) (f1 : f ≤ 100000) (v0 : 0 ≤ v) (v1 : v < 18446744073709551616) (hn : m.length ≤ 1099511620000) :
    ∃ x, x.num = f ∧ hd (other f v m b ++ r) = .fld x r := by
  cases b with
  | true => exact ⟨⟨f, 0, v, []⟩, rfl, by have := hd_num f v r f0 (by omega) v0 v1; rw [← this]; simp [other]⟩
  | false => exact ⟨⟨f, 2, 0, m⟩, rfl, by have := hd_bytes f m r f0 (by omega) (by omega); rw [← this]; simp [other]⟩
theorem other_pos (f v : Int) (m : List Int) (b : Bool) : 0 < (other f v m b).length := by
  unfold other
  split
  · have := vint_len (f * 8); rw [List.length_append]; omega
  · have := vint_len (f * 8 + 2); rw [List.length_append]; omega
theorem From_other {b r : List Int} {p : List Fld} {f v : Int} {m : List Int} {x : Bool} (h : From b p (other f v m x ++ r)) (f0 : 1 ≤ f) (f1 : f ≤ 100000) (v0 : 0 ≤ v) (v1 : v < 18446744073709551616) (hm : Byt m) (hn : m.length ≤ 1099511620000) (hr : Byt r) :
    ∃ y : Fld, y.num = f ∧ From b (p ++ [y]) r := by
  obtain ⟨y, hy, hh⟩ := hd_other x r f0 f1 v0 v1 hn
  exact ⟨y, hy, h.step ((other_byt f0 f1 v0 v1 hm hn).app hr) (by have := other_pos f v m x; rw [List.length_append]; omega) hh⟩
theorem KRes_ahead {k k' f v : Int} {m l d : List Int} {ok x : Bool} (h : KRes (other f v m x ++ kb k l) k' d ok) (h0 : -2147483648 ≤ k) (h1 : k ≤ 2147483647) (hl : Byt l) (hn : l.length ≤ 1099511620000)
    (f0 : 3 ≤ f) (f1 : f ≤ 100000) (v0 : 0 ≤ v) (v1 : v < 18446744073709551616) (hm : Byt m) (hmn : m.length ≤ 1099511620000) : ok = true ∧ k' = k ∧ d = l := by
  obtain ⟨y, hy, F⟩ := From_other (From.start (other f v m x ++ kb k l)) (by omega) f1 v0 v1 hm hmn (kb_byt h0 h1 hl (by omega))
  have G := From.kb (r := []) (by rw [List.append_nil]; exact F) h0 h1 hl hn Byt.nil
  exact KRes_fs h G.done (kall_app _ l h0 h1)
theorem KRes_behind {k k' f v : Int} {m l d : List Int} {ok x : Bool} (h : KRes (kb k l ++ other f v m x) k' d ok) (h0 : -2147483648 ≤ k) (h1 : k ≤ 2147483647) (hl : Byt l) (hn : l.length ≤ 1099511620000)
    (f0 : 3 ≤ f) (f1 : f ≤ 100000) (v0 : 0 ≤ v) (v1 : v < 18446744073709551616) (hm : Byt m) (hmn : m.length ≤ 1099511620000) : ok = true ∧ k' = k ∧ d = l := by
  have F := (From.start (kb k l ++ other f v m x)).kb h0 h1 hl hn (other_byt (by omega) f1 v0 v1 hm hmn)
  obtain ⟨y, hy, G⟩ := From_other (r := []) (by rw [List.append_nil]; exact F) (by omega) f1 v0 v1 hm hmn Byt.nil
  refine KRes_fs h G.done ?_
  rw [kall_more _ y (by omega)]
  exact kall_app [] l h0 h1
/-- A number with groups of zeros behind it. -/
structure Wide (v : Int) (n : List Int) : Prop where
  ex : ∃ xs c, n = xs ++ [c] ∧ (∀ x ∈ xs, 128 ≤ x ∧ x < 256) ∧ 0 ≤ c ∧ c < 128
  rv : ∀ r, rv 10 (n ++ r) = some (v, (n.length : Int))
theorem vi_shape : ∀ (k : Nat) (v : Int), 0 ≤ v → v < 128 ^ (k + 1) → ∃ xs c, vi k v = xs ++ [c] ∧ (∀ x ∈ xs, 128 ≤ x ∧ x < 256) ∧ 0 ≤ c ∧ c < 128
  | 0, v, h0, h1 => ⟨[], v, rfl, (fun _ h => by cases h), h0, by omega⟩
  | k + 1, v, h0, h1 => by
    unfold vi
    split
    · exact ⟨[], v, rfl, (fun _ h => by cases h), h0, by omega⟩
    · have hp : (128 : Int) ^ (k + 1 + 1) = 128 ^ (k + 1) * 128 := Int.pow_succ ..
      obtain ⟨xs, c, e, hx, hc⟩ := vi_shape k (v / 128) (by omega) (by omega)
      refine ⟨_ :: xs, c, by rw [e]; rfl, fun x h => ?_, hc⟩
      rcases List.mem_cons.1 h with rfl | h
      · omega
      · exact hx x h
theorem Wide.start (v : Int) (h0 : 0 ≤ v) (h1 : v < 2147483648) : Wide v (vint v) :=
  ⟨by rw [vint_eq]; exact vi_shape 9 v h0 (by omega), fun r => rv_vint v r h0 (by omega)⟩
theorem rv_wide : ∀ (xs : List Int) (k : Nat) (c v m : Int) (r r' : List Int), (∀ x ∈ xs, 128 ≤ x ∧ x < 256) → 0 ≤ c → c < 128 → xs.length + 2 ≤ k → rv k (xs ++ c :: r) = some (v, m) → rv k (xs ++ (c + 128) :: 0 :: r') = some (v, m + 1)
  | [], k + 2, c, v, m, r, r', _, c0, c1, hk, h => by
    simp only [List.nil_append, rv] at h ⊢
    rw [if_pos c1, if_neg (by omega)] at h
    simp only [Option.some.injEq, Prod.mk.injEq] at h
    rw [if_neg (by omega), if_neg (by omega), if_pos (by omega), if_neg (by omega)]
    simp; omega
  | x :: xs, k + 1, c, v, m, r, r', hx, c0, c1, hk, h => by
    have hx0 := (hx x (by simp)).1
    simp only [List.cons_append, rv] at h ⊢
    simp only [List.length_cons] at hk
    rw [if_neg (by omega), if_neg (by omega)] at h ⊢
    cases hr : rv k (xs ++ c :: r) with
    | none => rw [hr] at h; cases h
    | some p =>
      obtain ⟨v', m'⟩ := p
      rw [hr] at h
      rw [rv_wide xs k c v' m' r r' (fun y hy => hx y (by simp [hy])) c0 c1 (by omega) hr]
      simp only [Option.map_some, Option.some.injEq, Prod.mk.injEq] at h ⊢
      omega
/-- One group more. -/
theorem Wide.more {v : Int} {n : List Int} (h : Wide v n) (hn : n.length < 10) : ∃ xs c, n = xs ++ [c] ∧ 0 ≤ c ∧ c < 128 ∧ Wide v (xs ++ [c + 128, 0]) := by
  obtain ⟨⟨xs, c, rfl, hx, c0, c1⟩, hrv⟩ := h
  refine ⟨xs, c, rfl, c0, c1, ⟨⟨xs ++ [c + 128], 0, by simp, ?_, by omega, by omega⟩, fun r => ?_⟩⟩
  · intro y hy
    rcases List.mem_append.1 hy with hy | hy
    · exact hx y hy
    · simp at hy; omega
  · have := hrv []
    rw [List.append_nil] at this
    have := rv_wide xs 10 c v _ [] r hx c0 c1 (by simp at hn; omega) this
    rw [show (xs ++ [c + 128, 0]) ++ r = xs ++ (c + 128) :: 0 :: r from by simp, this]
    simp; omega
theorem hd_wide {v : Int} {n r : List Int} (h : Wide v n) : hd ([8] ++ n ++ r) = .fld ⟨1, 0, v, []⟩ r := by
  have ht := tag_of 1 0 (n ++ r) (by omega) (by omega) (by omega) (by omega)
  rw [show ((1 : Int) * 8 + 0) = 8 from by omega, vint_1 8 (by omega)] at ht
  rw [show [8] ++ n ++ r = [8] ++ (n ++ r) from by simp, hd_of ht (by omega), drop_app, hdv_num (h.rv r), drop_app]
theorem Wide.byt {v : Int} {n : List Int} (h : Wide v n) : Byt n := by
  obtain ⟨⟨xs, c, rfl, hx, c0, c1⟩, _⟩ := h
  exact Byt.app (fun y hy => by have := hx y hy; omega) (Byt.one c0 (by omega))
theorem KRes_wide {k' v : Int} {n l d : List Int} {ok : Bool} (h : KRes ([8] ++ n ++ wb 2 l) k' d ok) (hw : Wide v n) (v0 : 0 ≤ v) (v1 : v < 2147483648) (hl : Byt l) (hn : l.length ≤ 1099511620000) : ok = true ∧ k' = v ∧ d = l := by
  have hb := wb_byt (f := 2) (by omega) (by omega) hl (by omega)
  have F := (From.start ([8] ++ n ++ wb 2 l)).step (((Byt.one (by omega) (by omega)).app hw.byt).app hb) (by simp) (hd_wide hw)
  have G := F.step (r := []) hb (wb_pos 2 l) (by have := hd_wb 2 l [] (by omega) (by omega) (by omega); rwa [List.append_nil] at this)
  refine KRes_fs h G.done ?_
  have e := IntKind.wrap_i32 v
  simp [kall, kstep]
  rw [e]; omega
end Go.Proofs.YtddofkeajinjpaaGreatDoor
