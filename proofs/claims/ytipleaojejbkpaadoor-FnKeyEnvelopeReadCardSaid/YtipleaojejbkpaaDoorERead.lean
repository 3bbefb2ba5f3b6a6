/- FnKeyEnvelopeRead walked. -/
import Derived.Test.YtipleaojejbkpaaDoorEnvD
import Derived.Test.YtipleaojejbkpaaDoorEnvE
import Derived.Test.YtipleaojejbkpaaDoorRead
namespace Go.Proofs.YtipleaojejbkpaaDoor
open Go Go.RowKit
set_option linter.unusedVariables false
set_option linter.unusedSimpArgs false
set_option maxRecDepth 100000

/-- What the reference tells, and what the code tells. -/
theorem SERes.same {l : List Int} {x y : EV} {ok ok' : Bool} (h : SERes l x ok false) (h' : ERes l y ok') : ok' = ok ∧ (ok = true → y.has = x.has ∧ y.k = x.k ∧ y.d0 = x.d0 ∧ y.d1 = x.d1 ∧ y.d2 = x.d2 ∧ y.d3 = x.d3) := by
  unfold SERes at h
  unfold ERes at h'
  generalize efin (whole estep l ES.zero) = r at h h'
  cases r with
  | bad =>
    change ok = false ∧ false = false at h
    change ok' = false at h'
    exact ⟨by rw [h', h.1], fun q => by rw [h.1] at q; cases q⟩
  | opn => change false = true at h; cases h
  | ok s =>
    change ok = true ∧ false = false ∧ ETold s x at h
    change ok' = true ∧ ETold s y at h'
    obtain ⟨rfl, _, hx⟩ := h
    obtain ⟨rfl, hy⟩ := h'
    refine ⟨rfl, fun _ => ?_⟩
    have kx := hx.key
    have ky := hy.key
    cases hk : s.key with
    | none =>
      rw [hk] at kx ky
      obtain ⟨a1, a2, a3⟩ := kx
      obtain ⟨b1, b2, b3⟩ := ky
      exact ⟨by rw [a1, b1], by rw [a2, b2], by rw [a3, b3], by rw [hx.ty, hy.ty], by rw [hx.pl, hy.pl], by rw [hx.sg, hy.sg]⟩
    | some ks =>
      rw [hk] at kx ky
      obtain ⟨a1, a2⟩ := kx
      obtain ⟨b1, b2⟩ := ky
      rw [a2] at b2
      simp only [Prod.mk.injEq, Option.some.injEq] at b2
      exact ⟨by rw [a1, b1], b2.1.symm, b2.2.symm, by rw [hx.ty, hy.ty], by rw [hx.pl, hy.pl], by rw [hx.sg, hy.sg]⟩

set_option maxHeartbeats 4000000 in
theorem fnKeyEnvelopeRead_calls {w : World} {A : Option Addr} {n c : Nat} {l : List Int} (h : Rd w A n c l) (hlo : Lo w.heap.size A) (hE : EErrs w) :
    Calls Tryd.prog 13 #[.slice A n c] w (LawOk w) := by
  have DL := Lib.hid (envelopesLive_calls hE)
  have hmax := h.max
  obtain rfl := h.len
  by_cases hbig : 2147483647 < (l.length : Int)
  · clear h
    go_enter Tryd.func13, Tryd.ntmps13
    go_wp2
    go_ret
    exact ⟨rfl, Kp.refl _ _⟩
  by_cases hmid : 600 < (l.length : Int)
  · clear h
    go_enter Tryd.func13, Tryd.ntmps13
    go_wp2_with (first | (go_at_call 41; refine DL.out.mono ?_; rintro e w2 ⟨rfl, hk2⟩))
    go_ret
    exact ⟨rfl, hk2⟩
  have D1 := Lib.hid (sEnvelopeOf_calls h (by omega) hlo)
  go_enter Tryd.func13, Tryd.ntmps13
  go_wp2_with (fail)
  refine D1.out.mono ?_
  rintro e w2 ⟨k2, ⟨has, k, X0, e0, d0, X1, e1, d1, X2, e2, d2, X3, e3, d3⟩, ok, opn, rfl, hat, hS⟩
  have ka : Kp no w2 (w2.alloc (.cells #[.bool has, .int .i32 k, .slice X0 d0.length e0, .slice X1 d1.length e1, .slice X2 d2.length e2, .slice X3 d3.length e3] 64)) := (Kp.refl _ _).alloc _
  have hbx := Blk.new w2 #[.bool has, .int .i32 k, .slice X0 d0.length e0, .slice X1 d1.length e1, .slice X2 d2.length e2, .slice X3 d3.length e3] 64
  have hg0 := hat.r0
  have hg1 := hat.r1
  have hg2 := hat.r2
  have hg3 := hat.r3
  simp only at hg0 hg1 hg2 hg3
  have k3 := k2.then ka
  have E3 := hE.keepN k3
  cases opn with
  | true =>
    have DL2 := Lib.hid (envelopesLive_calls E3)
    go_wp2_with (first | (go_at_call 41; refine DL2.out.mono ?_; rintro e w3 ⟨rfl, hk3⟩))
    go_ret
    exact ⟨rfl, k3.then hk3⟩
  | false =>
    have D2 := Lib.hid (Clone_calls (h.keepN k3) (by omega))
    go_wp2_with (fail)
    refine D2.out.mono ?_
    rintro e w3 ⟨A3, c3, rfl, M3⟩
    have k4 := k3.then M3.kp
    have D3 := Lib.hid (EnvelopeOf_calls M3.rd (by omega) (hE.keepN k4))
    go_wp2_with (fail)
    refine D3.out.mono ?_
    rintro e w4 ⟨hk4, ⟨has', kk, Y0, f0, y0, Y1, f1, y1, Y2, f2, y2, Y3, f3, y3⟩, ok', rfl, haty, hR⟩
    obtain ⟨rfl, hsame⟩ := hS.same hR
    have k5 := k4.then hk4
    have kb : Kp no w4 (w4.alloc (.cells #[.bool has', .int .i32 kk, .slice Y0 y0.length f0, .slice Y1 y1.length f1, .slice Y2 y2.length f2, .slice Y3 y3.length f3] 64)) := (Kp.refl _ _).alloc _
    have k6 := k5.then kb
    have DL6 := Lib.hid (envelopesLive_calls (hE.keepN k6))
    have bb := ((hbx.keepN M3.kp).keepN hk4).keepN kb
    have z0 := bb.cell 0
    have z1 := bb.cell 1
    have z2 := bb.cell 2
    have z3 := bb.cell 3
    have z4 := bb.cell 4
    have z5 := bb.cell 5
    cases ok' with
    | false =>
      clear hsame
      go_wp2_with (first | (go_at_call 41; refine DL6.out.mono ?_; rintro e w7 ⟨rfl, hk7⟩))
      go_ret
      exact ⟨rfl, k6.then hk7⟩
    | true =>
      obtain ⟨s0, s1, s2, s3, s4, s5⟩ := hsame rfl
      simp only at s0 s1 s2 s3 s4 s5
      subst s0 s1 s2 s3 s4 s5
      have h0 := haty.r0
      have h1 := haty.r1
      have h2 := haty.r2
      have h3 := haty.r3
      simp only at h0 h1 h2 h3
      have kk6 := (ka.then (M3.kp.then hk4)).then kb
      have D7 := Lib.hid (sameEnvelope_calls (has := has') (k := kk) (h0.keepN kb) (h1.keepN kb) (h2.keepN kb) (h3.keepN kb) (hg0.keepN kk6) (hg1.keepN kk6) (hg2.keepN kk6) (hg3.keepN kk6))
      go_wp2_with (fail)
      refine D7.out.mono ?_
      rintro e w7 ⟨rfl, k7⟩
      have DL7 := Lib.hid (envelopesLive_calls (hE.keepN (k6.then k7)))
      go_wp2_with (first | (go_at_call 41; refine DL7.out.mono ?_; rintro e w8 ⟨rfl, hk8⟩))
      go_ret
      exact ⟨rfl, (k6.then k7).then hk8⟩
end Go.Proofs.YtipleaojejbkpaaDoor
