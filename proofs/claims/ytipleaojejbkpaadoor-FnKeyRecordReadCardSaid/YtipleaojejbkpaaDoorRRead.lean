/- FnKeyRecordRead walked. -/
import Derived.Test.YtipleaojejbkpaaDoorRecF
import Derived.Test.YtipleaojejbkpaaDoorRLive
import Derived.Test.YtipleaojejbkpaaDoorRead
namespace Go.Proofs.YtipleaojejbkpaaDoor
open Go Go.RowKit
set_option linter.unusedVariables false
set_option linter.unusedSimpArgs false
set_option maxRecDepth 100000

/-- What the reference tells, and what the code tells. -/
theorem SRRes.same {l : List Int} {x y : RV} {ok ok' : Bool} (h : SRRes l x ok false) (h' : RRes l y ok') : ok' = ok ∧ (ok = true → y.d = x.d ∧ y.seq = x.seq ∧ y.L = x.L) := by
  unfold SRRes at h
  unfold RRes at h'
  generalize whole rstep l RS.zero = r at h h'
  cases r with
  | bad =>
    change ok = false ∧ false = false at h
    change ok' = false at h'
    exact ⟨by rw [h', h.1], fun q => by rw [h.1] at q; cases q⟩
  | opn => change false = true at h; cases h
  | ok s =>
    change ok = true ∧ false = false ∧ RTold s x at h
    change ok' = true ∧ RTold s y at h'
    obtain ⟨rfl, _, hx⟩ := h
    obtain ⟨rfl, hy⟩ := h'
    exact ⟨rfl, fun _ => ⟨by rw [hx.p, hy.p], by rw [hx.q, hy.q], by rw [hx.a, hy.a]⟩⟩

set_option maxHeartbeats 4000000 in
theorem fnKeyRecordRead_calls {w : World} {A : Option Addr} {n c : Nat} {l : List Int} (h : Rd w A n c l) (hlo : Lo w.heap.size A) (hE : RErrs w) :
    Calls Tryd.prog 9 #[.slice A n c] w (LawOk w) := by
  have DL := Lib.hid (recordsLive_calls hE)
  have hmax := h.max
  obtain rfl := h.len
  by_cases hbig : 2147483647 < (l.length : Int)
  · clear h
    go_enter Tryd.func9, Tryd.ntmps9
    go_wp2
    go_ret
    exact ⟨rfl, Kp.refl _ _⟩
  by_cases hmid : 600 < (l.length : Int)
  · clear h
    go_enter Tryd.func9, Tryd.ntmps9
    go_wp2_with (first | (go_at_call 32; refine DL.out.mono ?_; rintro e w2 ⟨rfl, hk2⟩))
    go_ret
    exact ⟨rfl, hk2⟩
  have D1 := Lib.hid (sRecordOf_calls h (by omega) hlo)
  go_enter Tryd.func9, Tryd.ntmps9
  go_wp2_with (fail)
  refine D1.out.mono ?_
  rintro e w2 ⟨k2, ⟨X0, e0, d0, q0, X1, e1, L1⟩, ok, opn, rfl, hat, hS⟩
  have ka : Kp no w2 (w2.alloc (.cells #[.slice X0 d0.length e0, .int .u64 q0, .slice X1 L1.length e1] 47)) := (Kp.refl _ _).alloc _
  have hbx := Blk.new w2 #[.slice X0 d0.length e0, .int .u64 q0, .slice X1 L1.length e1] 47
  have hg0 := hat.r
  have hg1 := hat.s
  simp only at hg0 hg1
  have k3 := k2.then ka
  have E3 := hE.keepN k3
  cases opn with
  | true =>
    have DL2 := Lib.hid (recordsLive_calls E3)
    go_wp2_with (first | (go_at_call 32; refine DL2.out.mono ?_; rintro e w3 ⟨rfl, hk3⟩))
    go_ret
    exact ⟨rfl, k3.then hk3⟩
  | false =>
    have D2 := Lib.hid (Clone_calls (h.keepN k3) (by omega))
    go_wp2_with (fail)
    refine D2.out.mono ?_
    rintro e w3 ⟨A3, c3, rfl, M3⟩
    have k4 := k3.then M3.kp
    have D3 := Lib.hid (RecordOf_calls M3.rd (by omega) (hE.keepN k4))
    go_wp2_with (fail)
    refine D3.out.mono ?_
    rintro e w4 ⟨hk4, ⟨Y0, f0, y0, q1, Y1, f1, M1⟩, ok', rfl, haty, _, _, hR⟩
    obtain ⟨rfl, hsame⟩ := hS.same hR
    have k5 := k4.then hk4
    have kb : Kp no w4 (w4.alloc (.cells #[.slice Y0 y0.length f0, .int .u64 q1, .slice Y1 M1.length f1] 47)) := (Kp.refl _ _).alloc _
    have k6 := k5.then kb
    have DL6 := Lib.hid (recordsLive_calls (hE.keepN k6))
    have bb := ((hbx.keepN M3.kp).keepN hk4).keepN kb
    have z0 := bb.cell 0
    have z1 := bb.cell 1
    have z2 := bb.cell 2
    cases ok' with
    | false =>
      clear hsame
      go_wp2_with (first | (go_at_call 32; refine DL6.out.mono ?_; rintro e w7 ⟨rfl, hk7⟩))
      go_ret
      exact ⟨rfl, k6.then hk7⟩
    | true =>
      obtain ⟨s0, s1, s2⟩ := hsame rfl
      simp only at s0 s1 s2
      subst s0 s1 s2
      have h0 := haty.r
      have h1 := haty.s
      simp only at h0 h1
      have kk6 := (ka.then (M3.kp.then hk4)).then kb
      have D7 := Lib.hid (sameRecord_same (q := q1) (h0.keepN kb) (h1.keepN kb) (hg0.keepN kk6) (hg1.keepN kk6))
      go_wp2_with (fail)
      refine D7.out.mono ?_
      rintro e w7 ⟨rfl, k7⟩
      have DL7 := Lib.hid (recordsLive_calls (hE.keepN (k6.then k7)))
      go_wp2_with (first | (go_at_call 32; refine DL7.out.mono ?_; rintro e w8 ⟨rfl, hk8⟩))
      go_ret
      exact ⟨rfl, (k6.then k7).then hk8⟩
end Go.Proofs.YtipleaojejbkpaaDoor
