/- FnKeyRead walked. -/
import Derived.Test.YtipleaojejbkpaaDoorLive
import Derived.Test.YtipleaojejbkpaaDoorSKeyOf
import Derived.Test.YtipleaojejbkpaaDoorKeyF
namespace Go.Proofs.YtipleaojejbkpaaDoor
open Go Go.RowKit
set_option linter.unusedVariables false
set_option linter.unusedSimpArgs false
set_option maxRecDepth 100000

/-- What the reference tells, and what the code tells. -/
theorem SRes.same {l d d' : List Int} {k k' : Int} {ok ok' : Bool} (h : SRes l k d ok false) (h' : KRes l k' d' ok') : ok' = ok ∧ (ok = true → k' = k ∧ d' = d) := by
  unfold SRes at h
  unfold KRes at h'
  generalize wf l = r at h h'
  cases r with
  | ok fs =>
    change false = false ∧ (if okS (kall fs) = true then ok = true ∧ kall fs = (some k, some d) else ok = false) at h
    change (if okS (kall fs) = true then ok' = true ∧ kall fs = (some k', some d') else ok' = false) at h'
    by_cases hk : okS (kall fs) = true
    · rw [if_pos hk] at h h'
      obtain ⟨_, rfl, e1⟩ := h
      obtain ⟨rfl, e2⟩ := h'
      rw [e1] at e2
      simp only [Prod.mk.injEq, Option.some.injEq] at e2
      exact ⟨rfl, fun _ => ⟨e2.1.symm, e2.2.symm⟩⟩
    · rw [if_neg hk] at h h'
      obtain ⟨_, rfl⟩ := h
      exact ⟨h', fun h => by cases h⟩
  | bad =>
    change ok = false ∧ false = false at h
    change ok' = false at h'
    obtain ⟨rfl, _⟩ := h
    exact ⟨h', fun h => by cases h⟩
  | opn => change false = true at h; cases h

/-- A law's end. -/
def LawOk (w : World) (e : Ending) (w' : World) : Prop := e = .returned (.bool true) ∧ Kp no w w'

set_option maxHeartbeats 4000000 in
theorem fnKeyRead_calls {w : World} {A : Option Addr} {n c : Nat} {l : List Int} (h : Rd w A n c l) (hlo : Lo w.heap.size A) (hE : KErrs w) :
    Calls Tryd.prog 4 #[.slice A n c] w (LawOk w) := by
  have DL := Lib.hid (keysLive_calls hE)
  have hmax := h.max
  obtain rfl := h.len
  by_cases hbig : 2147483647 < (l.length : Int)
  · clear h
    go_enter Tryd.func4, Tryd.ntmps4
    go_wp2
    go_ret
    exact ⟨rfl, Kp.refl _ _⟩
  by_cases hmid : 300 < (l.length : Int)
  · clear h
    go_enter Tryd.func4, Tryd.ntmps4
    go_wp2_with (first | (go_at_call 19; refine DL.out.mono ?_; rintro e w2 ⟨rfl, hk2⟩))
    go_ret
    exact ⟨rfl, hk2⟩
  have D1 := Lib.hid (sKeyOf_calls h (by omega) hlo)
  go_enter Tryd.func4, Tryd.ntmps4
  go_wp2_with (fail)
  refine D1.out.mono ?_
  rintro e w2 ⟨k2, k, A2, c2, d, ok, opn, rfl, R2, r0, r1, hS⟩
  have E2 := hE.keepN k2
  cases opn with
  | true =>
    have DL2 := Lib.hid (keysLive_calls E2)
    go_wp2_with (first | (go_at_call 19; refine DL2.out.mono ?_; rintro e w3 ⟨rfl, hk3⟩))
    go_ret
    exact ⟨rfl, k2.then hk3⟩
  | false =>
    have D2 := Lib.hid (Clone_calls (h.keepN k2) (by omega))
    go_wp2_with (fail)
    refine D2.out.mono ?_
    rintro e w3 ⟨A3, c3, rfl, M3⟩
    have k3 := k2.then M3.kp
    have D3 := Lib.hid (KeyOf_calls M3.rd (by omega) (hE.keepN k3))
    go_wp2_with (fail)
    refine D3.out.mono ?_
    rintro e w4 ⟨hk4, k', A4, c4, d', ok', rfl, R4, r0', r1', hK⟩
    obtain ⟨rfl, hsame⟩ := hS.same hK
    have k4 := k3.then hk4
    have D4 := Lib.hid (Clone_calls (h.keepN k4) (by omega))
    go_wp2_with (fail)
    refine D4.out.mono ?_
    rintro e w5 ⟨A5, c5, rfl, M5⟩
    have k5 := k4.then M5.kp
    have D5 := Lib.hid (SecretOf_calls M5.rd (by omega) (hE.keepN k5))
    go_wp2_with (fail)
    refine D5.out.mono ?_
    rintro e w6 ⟨hk6, k'', A6, c6, d'', ok'', rfl, R6, r0'', r1'', hK'⟩
    obtain ⟨rfl, hsame'⟩ := hS.same hK'
    have k6 := k5.then hk6
    have DL6 := Lib.hid (keysLive_calls (hE.keepN k6))
    cases ok'' with
    | false =>
      go_wp2_with (first | (go_at_call 19; refine DL6.out.mono ?_; rintro e w7 ⟨rfl, hk7⟩))
      go_ret
      exact ⟨rfl, k6.then hk7⟩
    | true =>
      obtain ⟨rfl, rfl⟩ := hsame rfl
      obtain ⟨rfl, rfl⟩ := hsame' rfl
      have D7 := Lib.hid (Equal_same (R4.keepN (M5.kp.then hk6)) (R2.keepN (M3.kp.then (hk4.then (M5.kp.then hk6)))))
      have D8 := Lib.hid (Equal_same R6 (R2.keepN (M3.kp.then (hk4.then (M5.kp.then hk6)))))
      go_wp2_with (fail)
      refine D7.out.mono ?_
      rintro e w7 ⟨rfl, rfl⟩
      go_wp2_with (fail)
      refine D8.out.mono ?_
      rintro e w8 ⟨rfl, rfl⟩
      go_wp2_with (first | (go_at_call 19; refine DL6.out.mono ?_; rintro e w7 ⟨rfl, hk7⟩))
      go_ret
      exact ⟨rfl, k6.then hk7⟩
end Go.Proofs.YtipleaojejbkpaaDoor
