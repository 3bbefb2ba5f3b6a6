/- The reference's key: KeyBytes, KeyKind; the laws' keyField, keyNumber. -/
import Derived.Test.YtipleaojejbkpaaDoorSpecA
namespace Go.Proofs.YtipleaojejbkpaaDoor
open Go Go.RowKit
set_option linter.unusedVariables false
set_option linter.unusedSimpArgs false
set_option maxRecDepth 100000

theorem wrap_ku (k : Int) (h0 : -2147483648 ≤ k) (h1 : k ≤ 2147483647) : IntKind.u64.wrap k = ku k := by
  unfold ku
  have e : IntKind.u64.wrap k = k % 18446744073709551616 := by simp [IntKind.wrap, IntKind.bits, IntKind.signed]
  rw [e]
  split <;> omega
theorem wb_len (f : Int) (l : List Int) : (wb f l).length = 1 + (vint l.length).length + l.length := by simp only [wb, List.length_append, List.length_cons, List.length_nil]
theorem kb_len (k : Int) (l : List Int) : (kb k l).length ≤ 32 + l.length := by
  have a := (vint_len (ku k)).2
  have b := (vint_len l.length).2
  simp only [kb, List.length_append, List.length_cons, List.length_nil, wb_len]; omega
theorem kb_byt {k : Int} {l : List Int} (h0 : -2147483648 ≤ k) (h1 : k ≤ 2147483647) (hl : Byt l) (hn : l.length ≤ 1099511627776) : Byt (kb k l) :=
  ((Byt.one (by omega) (by omega)).app (vint_byt _ (ku_range k h0 h1).1 (ku_range k h0 h1).2)).app (wb_byt (by omega) (by omega) hl hn)

theorem sKeyBytes_calls {w : World} {A : Option Addr} {n c : Nat} {l : List Int} (h : Rd w A n c l) (hn : n ≤ 1099511620000) (k : Int) (h0 : -2147483648 ≤ k) (h1 : k ≤ 2147483647) :
    Calls Tryd.prog 25 #[.int .i32 k, .slice A n c] w (Made w (kb k l)) := by
  have ek := wrap_ku k h0 h1
  have hku := ku_range k h0 h1
  have R1 := Rd.lit w 5 [8] (Byt.one (by omega) (by omega)) (by simp)
  have k1 : Kp no w (w.alloc (.cells (nums .u8 [8]).toArray 5)) := (Kp.refl _ _).alloc _
  have D1 := Lib.hid (sVarint_calls (w := w.alloc (.cells (nums .u8 [8]).toArray 5)) (ku k) hku.1 hku.2)
  have hl := h.len
  have hlen : ([[8], vint (ku k), wb 2 l] : List (List Int)).flatten.length ≤ 1099511627776 := by
    have a := (vint_len (ku k)).2
    have b := (vint_len l.length).2
    simp only [List.flatten_cons, List.flatten_nil, List.length_append, List.length_cons, List.length_nil, wb_len]
    omega
  have HF := Lib.hid (show ([[8], vint (ku k), wb 2 l] : List (List Int)).flatten = kb k l by simp [kb])
  clear hl
  go_enter Tryd.func25, Tryd.ntmps25
  go_wp2_with (first | (go_at_call 56; refine D1.out.mono ?_; rintro e w2 ⟨A2, c2, rfl, hM2⟩))
  have k2 := k1.then hM2.kp
  have D2 := Lib.hid (sBytes_calls (h.keepN k2) (by omega) 2 (by omega) (by omega) true (fun _ => rfl))
  refine D2.out.mono ?_
  rintro e w3 ⟨A3, c3, rfl, hM3⟩
  have k3 := k2.then hM3.kp
  have D3 := Lib.hid (Concat_to (RdS.lit w3 24 [⟨some ⟨w.heap.size, 0, none⟩, 1, 1, [8]⟩, ⟨A2, _, c2, _⟩, ⟨A3, _, c3, _⟩] (by
      intro s hs
      simp only [List.mem_cons, List.not_mem_nil, or_false] at hs
      rcases hs with rfl | rfl | rfl
      · exact R1.keepN (hM2.kp.then hM3.kp)
      · exact hM2.rd.keepN hM3.kp
      · exact hM3.rd) (by simp)) hlen HF.out)
  clear R1
  go_wp2_with (first | (go_at_call 27; refine D3.out.mono ?_; rintro e w4 ⟨A4, c4, rfl, hM4⟩))
  have hM := hM4.up (k3.alloc _)
  go_ret
  exact ⟨A4, c4, rfl, hM⟩

/-- How many bytes the kind takes. -/
theorem sKeyKind_calls {w : World} (k : Int) (h0 : -2147483648 ≤ k) (h1 : k ≤ 2147483647) :
    Calls Tryd.prog 26 #[.int .i32 k] w fun e w' => e = .returned (.int .i64 ((1 + (vint (ku k)).length : Nat) : Int)) ∧ Kp no w w' := by
  have ek := wrap_ku k h0 h1
  have hku := ku_range k h0 h1
  have D1 := Lib.hid (sVarint_calls (w := w) (ku k) hku.1 hku.2)
  have hv := (vint_len (ku k)).2
  have HV : ((1 + (vint (ku k)).length : Nat) : Int) = 1 + ((vint (ku k)).length : Int) := by omega
  have HVH := Lib.hid HV
  clear HV
  go_enter Tryd.func26, Tryd.ntmps26
  go_wp2_with (first | (go_at_call 56; refine D1.out.mono ?_; rintro e w2 ⟨A2, c2, rfl, hM2⟩))
  go_ret
  exact ⟨by rw [HVH.out]; rfl, hM2.kp⟩
end Go.Proofs.YtipleaojejbkpaaDoor
