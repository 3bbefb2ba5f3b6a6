/- Records: sameRecord, recordsLive. -/
import Derived.Test.YtipleaojejbkpaaDoorRBytes
import Derived.Test.YtipleaojejbkpaaDoorRecP
namespace Go.Proofs.YtipleaojejbkpaaDoor
open Go Go.RowKit
set_option linter.unusedVariables false
set_option linter.unusedSimpArgs false
set_option maxRecDepth 100000

set_option maxHeartbeats 1000000 in
theorem EqualFunc_same {w : World} {A B : Option Addr} {n c d : Nat} {L : List (List Int)} (h : RdS w A n c L) (h' : RdS w B n d L) :
    Calls Tryd.prog 40 #[.slice A n c, .slice B n d, .func (.func 24) #[] #[]] w fun e w' => e = .returned (.bool true) ∧ w = w' := by
  have hcap := h.cap
  have hmax := h.max
  have hcap' := h'.cap
  have hmax' := h'.max
  go_enter Tryd.func40, Tryd.ntmps40
  go_wp2
  go_loop [17] (fun i => ∃ k : Nat, k ≤ n ∧ i = .int .i64 k) (fun i => n - (intOf i).toNat)
  case atStart => exact ⟨0, Nat.zero_le _, rfl⟩
  case round =>
    obtain ⟨k, hk, rfl⟩ := hrel
    by_cases hlt : k < n
    · obtain ⟨g, o, rfl, hc⟩ := h.at_ (by omega)
      obtain ⟨g', o', rfl, hc'⟩ := h'.at_ (by omega)
      obtain ⟨A', c', h1, h2⟩ := hc k hlt
      obtain ⟨B', d', h1', h2'⟩ := hc' k hlt
      have D := Lib.hid (Equal_same h2 h2')
      clear hc hc' h2 h2'
      generalize (L.getD k []).length = m at *
      go_wp2_with (fail)
      refine D.out.mono ?_
      rintro e w2 ⟨rfl, rfl⟩
      go_wp2
      go_round
      case rel => exact ⟨k + 1, by omega, by go_num⟩
      case measure => simp [intOf]; omega
    · obtain rfl : k = n := by omega
      go_wp2
      go_ret
      exact ⟨rfl, rfl⟩

set_option maxHeartbeats 1000000 in
theorem sameRecord_same {w : World} {A B A' B' : Option Addr} {c e c' e' : Nat} {d : List Int} {q : Int} {L : List (List Int)}
    (h0 : Rd w A d.length c d) (h1 : RdS w B L.length e L) (g0 : Rd w A' d.length c' d) (g1 : RdS w B' L.length e' L) :
    Calls Tryd.prog 37 #[.agg #[.slice A d.length c, .int .u64 q, .slice B L.length e], .agg #[.slice A' d.length c', .int .u64 q, .slice B' L.length e']] w
      fun e w' => e = .returned (.bool true) ∧ Kp no w w' := by
  have ka : Kp no w ((w.alloc (.cells #[.slice A d.length c, .int .u64 q, .slice B L.length e] 47)).alloc (.cells #[.slice A' d.length c', .int .u64 q, .slice B' L.length e'] 47)) := ((Kp.refl _ _).alloc _).alloc _
  have D0 := Lib.hid (Equal_same (h0.keepN ka) (g0.keepN ka))
  have D1 := Lib.hid (EqualFunc_same (h1.keepN ka) (g1.keepN ka))
  go_enter Tryd.func37, Tryd.ntmps37
  go_wp2_with (fail)
  refine D0.out.mono ?_
  rintro e w2 ⟨rfl, rfl⟩
  go_wp2_with (fail)
  refine D1.out.mono ?_
  rintro e w2 ⟨rfl, rfl⟩
  go_wp2
  go_ret
  exact ⟨rfl, ka⟩

set_option maxHeartbeats 4000000 in
theorem recordsLive_calls {w : World} (hE : RErrs w) :
    Calls Tryd.prog 32 #[] w fun e w' => e = .returned (.bool true) ∧ Kp no w w' := by
  have b1 : Byt [5] := Byt.one (by omega) (by omega)
  have b6 : Byt [10, 1, 5, 16, 3] := by intro x hx; simp at hx; omega
  have ka : Kp no w (w.alloc (.cells (nums .u8 [5]).toArray 5)) := (Kp.refl _ _).alloc _
  have R1 := Rd.lit w 5 [5] b1 (by simp)
  have D1 := Lib.hid (RecordBytes_calls ⟨some ⟨w.heap.size, 0, none⟩, 1, [5], 3, none, 0, []⟩ ⟨R1, RdS.nil _ _ _ (by show (0 : Nat) ≤ _; omega)⟩ (by show (0 : Int) ≤ 3; omega) (by show (3 : Int) < _; omega) (by simp) (by simp) (by simp))
  simp only [rlive, RV.cells] at D1
  go_enter Tryd.func32, Tryd.ntmps32
  go_wp2_with (fail)
  refine D1.out.mono ?_
  rintro e w2 ⟨A2, c2, rfl, M2⟩
  have k2 := ka.then M2.kp
  have kc : Kp no w2 (w2.alloc (.cells (nums .u8 [10, 1, 5, 16, 3]).toArray 5)) := (Kp.refl _ _).alloc _
  have D2 := Lib.hid (RecordOf_calls (Rd.lit w2 5 [10, 1, 5, 16, 3] b6 (by simp)) (by simp) (hE.keepN (k2.then kc)))
  go_wp2_with (fail)
  refine D2.out.mono ?_
  rintro e w3 ⟨hk3, ⟨XA, f0, xd, xq, XB, f1, xl⟩, ok, rfl, hat, _, _, hres⟩
  obtain ⟨rfl, hq, hd⟩ := rlive_res hres
  simp only at hq hd
  subst hq hd
  have hp2 := hat.r
  simp only at hp2
  have k3 := (k2.then kc).then hk3
  have kx : Kp no w3 (w3.alloc (.cells #[.slice XA 1 f0, .int .u64 3, .slice XB xl.length f1] 47)) := (Kp.refl _ _).alloc _
  have hs3 : (w3.alloc (.cells #[.slice XA 1 f0, .int .u64 3, .slice XB xl.length f1] 47)).heap.size = w3.heap.size + 1 := by simp
  generalize hW3 : w3.alloc (.cells #[.slice XA 1 f0, .int .u64 3, .slice XB xl.length f1] 47) = W3 at *
  have ky : Kp no W3 (W3.alloc (.cells (nums .u8 [10, 1, 5, 16, 3]).toArray 5)) := (Kp.refl _ _).alloc _
  have RL := Rd.lit W3 5 [10, 1, 5, 16, 3] b6 (by simp)
  have kz : Kp no (W3.alloc (.cells (nums .u8 [10, 1, 5, 16, 3]).toArray 5)) ((W3.alloc (.cells (nums .u8 [10, 1, 5, 16, 3]).toArray 5)).alloc (.cells (nums .u8 [5]).toArray 5)) := (Kp.refl _ _).alloc _
  have R22 := Rd.lit (W3.alloc (.cells (nums .u8 [10, 1, 5, 16, 3]).toArray 5)) 5 [5] b1 (by simp)
  have hs4 : (W3.alloc (.cells (nums .u8 [10, 1, 5, 16, 3]).toArray 5)).heap.size = W3.heap.size + 1 := by simp
  rw [hs4, hs3] at R22
  rw [hs3] at RL
  have D3 := Lib.hid (Equal_same (M2.rd.keepN (kc.then (hk3.then (kx.then ky)))) RL)
  have D4 := Lib.hid (Equal_same (hp2.keepN (kx.then (ky.then kz))) R22)
  have kF := k3.then (kx.then (ky.then kz))
  subst hW3
  clear hs3 hs4 RL R22
  go_wp2_with (fail)
  refine D3.out.mono ?_
  rintro e w4 ⟨rfl, rfl⟩
  go_wp2_with (fail)
  refine D4.out.mono ?_
  rintro e w5 ⟨rfl, rfl⟩
  go_wp2
  go_ret
  exact ⟨rfl, kF⟩
end Go.Proofs.YtipleaojejbkpaaDoor
