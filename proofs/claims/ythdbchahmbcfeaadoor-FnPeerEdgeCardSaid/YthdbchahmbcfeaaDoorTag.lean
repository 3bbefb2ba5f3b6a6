/- EncodeTag, AppendTag, AppendBytes. -/
import Derived.Test.YthdbchahmbcfeaaDoorAv
import Derived.Test.YthdbchahmbcfeaaDoorSpecA
namespace Go.Proofs.YthdbchahmbcfeaaDoor
open Go Go.RowKit
set_option linter.unusedVariables false
set_option linter.unusedSimpArgs false
set_option maxRecDepth 100000

/-- The tags that are written. -/
def tagOk (f t : Int) : Prop := (f = 1 ∧ t = 0) ∨ (f = 2 ∧ t = 2) ∨ (f = 1 ∧ t = 2) ∨ (f = 2 ∧ t = 0) ∨ (f = 3 ∧ t = 2) ∨ (f = 5 ∧ t = 2)
theorem ET_calls {w : World} (f t : Int) (h : tagOk f t) :
    Calls Tryd.prog 45 #[.int .i32 f, .int .i8 t] w fun e w' => e = .returned (.int .u64 (f * 8 + t)) ∧ w' = w := by
  rcases h with ⟨rfl, rfl⟩ | ⟨rfl, rfl⟩ | ⟨rfl, rfl⟩ | ⟨rfl, rfl⟩ | ⟨rfl, rfl⟩ | ⟨rfl, rfl⟩
  all_goals
    go_enter Tryd.func45, Tryd.ntmps45
    go_wp2
    go_ret
    exact ⟨rfl, rfl⟩
theorem tag_vint (f t : Int) (h : tagOk f t) : vint (f * 8 + t) = [f * 8 + t] ∧ 0 ≤ f * 8 + t ∧ f * 8 + t < 128 := by
  unfold tagOk at h
  have : f * 8 + t < 128 := by omega
  rw [vint_eq, vi, if_pos this]
  exact ⟨rfl, by omega, this⟩

theorem AT_calls {w : World} {B : Nat} {u : Value} {l : List Int} (h : Own w 5 B u l) (hB : B ≤ w.heap.size) (hl : l.length ≤ 1099511627776) (f t : Int) (ht : tagOk f t) :
    Calls Tryd.prog 35 #[u, .int .i32 f, .int .i8 t] w (Grown1 w B u (l ++ [f * 8 + t])) := by
  obtain ⟨hv, h0, h1⟩ := tag_vint f t ht
  have D1 := Lib.hid (ET_calls (w := w) f t ht)
  have D2 := Lib.hid (AV_calls h hB hl (f * 8 + t) h0 (by omega))
  rw [hv] at D2
  generalize f * 8 + t = q at *
  go_enter Tryd.func35, Tryd.ntmps35
  go_wp2_with (first | (go_at_call 45; refine D1.out.mono ?_; rintro e w' ⟨rfl, rfl⟩) | (go_at_call 36; refine D2.out.mono ?_; rintro e w2 ⟨A2, c2, rfl, hM2⟩))
  go_ret
  exact ⟨A2, c2, by simp, hM2⟩

theorem AB_calls {w : World} {B : Nat} {u : Value} {l ys : List Int} {A : Option Addr} {n c : Nat} (h : Own w 5 B u l) (hB : B ≤ w.heap.size) (hl : l.length ≤ 1099511627776) (hR : Rd w A n c ys) (hn : n ≤ 1099511627776) (hlo : Lo B A) :
    Calls Tryd.prog 37 #[u, .slice A n c] w (Grown1 w B u (l ++ vint n ++ ys)) := by
  have D2 := Lib.hid (AV_calls h hB hl n (by omega) (by omega))
  have hvl : (l ++ vint (n : Int)).length ≤ l.length + 10 := by rw [List.length_append]; have := (vint_len n).2; omega
  have hb := h.base
  generalize l ++ vint (n : Int) = q at *
  go_enter Tryd.func37, Tryd.ntmps37
  go_wp2_with (first | (go_at_call 36; refine D2.out.mono ?_; rintro e w2 ⟨A2, c2, rfl, hM2⟩; have hR2 := hR.keep hM2.kp (fun a ha hv => by have := hlo a ha; have := (hb _ hv).1; omega)) | (at_builtin; refine own_append B rfl (.tmp 9) (.tmp 10) 22 5 rfl Tryd.und_bytes Tryd.info_byte (.slice A2 q.length c2) q ys A n c rfl rfl hM2.own hR2 (by have := hM2.kp.size; omega) (by omega) ?_; intro v3 w3 hO3 hk3 hw3 _))
  go_ret
  exact Grown1.of hO3 (hM2.kp.grew hM2.went hk3) (hM2.went.trans hw3 hM2.kp.size)
end Go.Proofs.YthdbchahmbcfeaaDoor
