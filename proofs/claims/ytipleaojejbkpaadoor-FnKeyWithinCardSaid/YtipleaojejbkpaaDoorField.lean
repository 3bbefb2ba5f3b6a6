/- The laws' fields: keyField, keyNumber. -/
import Derived.Test.YtipleaojejbkpaaDoorSpecB
import Derived.Test.YtipleaojejbkpaaDoorPlain
namespace Go.Proofs.YtipleaojejbkpaaDoor
open Go Go.RowKit
set_option linter.unusedVariables false
set_option linter.unusedSimpArgs false
set_option maxRecDepth 100000

theorem u64_or2 (x : Int) (h0 : 0 ≤ x) (h1 : x < 1152921504606846976) : bits .or .u64 (x * 8) 2 = x * 8 + 2 := by
  rw [u64_or _ 2 (by omega) (by omega) (by omega) (by omega)]
  have : (x * 8).toNat ||| (2 : Int).toNat = (x * 8).toNat + 2 := nat_join 3 _ 2 (by omega) (by decide)
  rw [this]; omega

theorem keyField_calls {w : World} {A : Option Addr} {n c : Nat} {l : List Int} (h : Rd w A n c l) (hn : n ≤ 1099511600000) (f : Int) (f0 : 0 ≤ f) (f1 : f ≤ 100000) :
    Calls Tryd.prog 29 #[.int .u64 f, .slice A n c] w (Made w (other f 0 l false)) := by
  obtain rfl := h.len
  have hmax := h.max
  have hcap := h.cap
  have e1 : IntKind.u64.wrap (f * 8) = f * 8 := IntWalk.u64_in _ (by omega)
  have e2 : bits .or .u64 (f * 8) 2 = f * 8 + 2 := u64_or2 _ (by omega) (by omega)
  have e3 : IntKind.u64.wrap (l.length : Int) = l.length := IntWalk.u64_in _ (by omega)
  have D1 := Lib.hid (sWireNumber_calls (w := w) (f * 8 + 2) (by omega) (by omega))
  go_enter Tryd.func29, Tryd.ntmps29
  go_wp2_with (fail)
  refine D1.out.mono ?_
  rintro e w1 ⟨A1, c1, rfl, M1⟩
  have D2 := Lib.hid (sWireNumber_calls (w := w1) (l.length : Int) (by omega) (by omega))
  go_wp2_with (fail)
  refine D2.out.mono ?_
  rintro e w2 ⟨A2, c2, rfl, M2⟩
  have k2 := M1.kp.then M2.kp
  have D3 := Lib.hid (Concat_to (RdS.lit w2 24 [⟨A1, _, c1, _⟩, ⟨A2, _, c2, _⟩, ⟨A, _, c, l⟩] (by
    intro s hs
    simp only [List.mem_cons, List.not_mem_nil, or_false] at hs
    rcases hs with rfl | rfl | rfl
    · exact M1.rd.keepN M2.kp
    · exact M2.rd
    · exact h.keepN k2) (by simp)) (l := other f 0 l false) (by have := (vint_len (f * 8 + 2)).2; have := (vint_len (l.length : Int)).2; simp; omega) (by simp [other]))
  go_wp2_with (fail)
  refine D3.out.mono ?_
  rintro e w3 ⟨A3, c3, rfl, M3⟩
  have hM := M3.up (k2.alloc _)
  go_wp2
  go_ret
  exact ⟨A3, c3, rfl, hM⟩

theorem keyNumber_calls {w : World} (f v : Int) (f0 : 0 ≤ f) (f1 : f ≤ 100000) (v0 : 0 ≤ v) (v1 : v < 18446744073709551616) :
    Calls Tryd.prog 39 #[.int .u64 f, .int .u64 v] w (Made w (other f v [] true)) := by
  have e1 : IntKind.u64.wrap (f * 8) = f * 8 := IntWalk.u64_in _ (by omega)
  have D1 := Lib.hid (sWireNumber_calls (w := w) (f * 8) (by omega) (by omega))
  go_enter Tryd.func39, Tryd.ntmps39
  go_wp2_with (fail)
  refine D1.out.mono ?_
  rintro e w1 ⟨A1, c1, rfl, M1⟩
  have D2 := Lib.hid (sWireNumber_calls (w := w1) v v0 v1)
  go_wp2_with (fail)
  refine D2.out.mono ?_
  rintro e w2 ⟨A2, c2, rfl, M2⟩
  have k2 := M1.kp.then M2.kp
  have D3 := Lib.hid (Concat_to (RdS.lit w2 24 [⟨A1, _, c1, _⟩, ⟨A2, _, c2, _⟩] (by
    intro s hs
    simp only [List.mem_cons, List.not_mem_nil, or_false] at hs
    rcases hs with rfl | rfl
    · exact M1.rd.keepN M2.kp
    · exact M2.rd) (by simp)) (l := other f v [] true) (by have := (vint_len (f * 8)).2; have := (vint_len v).2; simp; omega) (by simp [other]))
  go_wp2_with (fail)
  refine D3.out.mono ?_
  rintro e w3 ⟨A3, c3, rfl, M3⟩
  have hM := M3.up (k2.alloc _)
  go_wp2
  go_ret
  exact ⟨A3, c3, rfl, hM⟩
/-- A field of a small number is as the reference writes it. -/
theorem other_wb (f : Int) (l : List Int) (h : f ≤ 15) : other f 0 l false = wb f l := by
  simp [other, wb, vint_1 (f * 8 + 2) (by omega)]
end Go.Proofs.YtipleaojejbkpaaDoor
