/- FnKeyEnvelopeMore walked. -/
import Derived.Test.YtipleaojejbkpaaDoorEMoreA
import Derived.Test.YtipleaojejbkpaaDoorEnvE
import Derived.Test.YtipleaojejbkpaaDoorField
import Derived.Test.YtipleaojejbkpaaDoorRead
namespace Go.Proofs.YtipleaojejbkpaaDoor
open Go Go.RowKit
set_option linter.unusedVariables false
set_option linter.unusedSimpArgs false
set_option maxRecDepth 100000

set_option maxHeartbeats 8000000 in
theorem fnKeyEnvelopeMore_calls {w : World} {A : Option Addr} {n c : Nat} {m : List Int} (x : EV) (f v : Int) (hx : x.At w) (h : Rd w A n c m) (hf : 0 ≤ f ∧ f < 65536) (hv : 0 ≤ v ∧ v < 18446744073709551616) (hE : EErrs w) :
    Calls Tryd.prog 15 #[.agg x.cells, .int .u16 f, .slice A n c, .int .u64 v] w (LawOk w) := by
  obtain ⟨has, k, A0, c0, d0, A1, c1, d1, A2, c2, d2, A3, c3, d3⟩ := x
  obtain ⟨r0, r1, r2, r3, hk⟩ := hx
  simp only at r0 r1 r2 r3 hk
  obtain rfl := h.len
  have hmax := h.max
  have hcap := h.cap
  have k0 : Kp no w (w.alloc (.cells #[.bool has, .int .i32 k, .slice A0 d0.length c0, .slice A1 d1.length c1, .slice A2 d2.length c2, .slice A3 d3.length c3] 64)) := (Kp.refl _ _).alloc _
  have hb0 := Blk.new w #[.bool has, .int .i32 k, .slice A0 d0.length c0, .slice A1 d1.length c1, .slice A2 d2.length c2, .slice A3 d3.length c3] 64
  have E0 := hE.keepN k0
  by_cases hz : (d0.length : Int) ≤ 2147483647 ∧ (d1.length : Int) ≤ 2147483647 ∧ (d2.length : Int) ≤ 2147483647 ∧ (d3.length : Int) ≤ 2147483647
  case neg =>
    have D := Lib.hid (zzFits14_no (w := w.alloc (.cells #[.bool has, .int .i32 k, .slice A0 d0.length c0, .slice A1 d1.length c1, .slice A2 d2.length c2, .slice A3 d3.length c3] 64)) has k A0 A1 A2 A3 d0.length d1.length d2.length d3.length c0 c1 c2 c3 hz)
    clear hz r0 r1 r2 r3 h
    go_enter Tryd.func15, Tryd.ntmps15
    go_wp2_with (fail)
    refine D.out.mono ?_
    rintro e w1 ⟨rfl, k1⟩
    go_wp2
    go_ret
    exact ⟨rfl, k0.then k1⟩
  obtain ⟨z0, z1, z2, z3⟩ := hz
  have D := Lib.hid (zzFits14_yes (w := w.alloc (.cells #[.bool has, .int .i32 k, .slice A0 d0.length c0, .slice A1 d1.length c1, .slice A2 d2.length c2, .slice A3 d3.length c3] 64)) has k A0 A1 A2 A3 d0.length d1.length d2.length d3.length c0 c1 c2 c3 z0 z1 z2 z3)
  by_cases hbig : 2147483647 < (m.length : Int)
  · clear r0 r1 r2 r3 h
    go_enter Tryd.func15, Tryd.ntmps15
    go_wp2_with (fail)
    refine D.out.mono ?_
    rintro e w1 ⟨rfl, k1⟩
    go_wp2
    go_ret
    exact ⟨rfl, k0.then k1⟩
  have q0 : 0 ≤ f % 995 := by omega
  have q1 : f % 995 < 995 := by omega
  have z01 := z0
  go_enter Tryd.func15, Tryd.ntmps15
  go_wp2_with (fail)
  refine D.out.mono ?_
  rintro e w1 ⟨rfl, k01⟩
  have b1 := hb0.keepN k01
  have y0 := b1.cell 0
  have y1 := b1.cell 1
  have y2 := b1.cell 2
  have y3 := b1.cell 3
  have y4 := b1.cell 4
  have y5 := b1.cell 5
  obtain ⟨K, B0, z, L0, HP, HR, hK0, hK1, D2⟩ : ∃ (K : Int) (B0 : Option Addr) (z : Nat) (L0 : List Int), Hid (has = false → K = 0 ∧ L0 = []) ∧ Hid (∀ W, Rd W A0 d0.length c0 d0 → Rd W B0 L0.length z L0) ∧ -2147483648 ≤ K ∧ K ≤ 2147483647 ∧
      Hid (Calls Tryd.prog 48 #[.agg #[.bool has, .int .i32 k, .slice A0 d0.length c0, .slice A1 d1.length c1, .slice A2 d2.length c2, .slice A3 d3.length c3]] w1 fun e w' => e = .returned (.agg #[.bool has, .int .i32 K, .slice B0 L0.length z, .slice A1 d1.length c1, .slice A2 d2.length c2, .slice A3 d3.length c3]) ∧ Kp no w1 w') := by
    have D2 := envelopePlain_calls (w := w1) has k A0 A1 A2 A3 d0.length d1.length d2.length d3.length c0 c1 c2 c3
    cases has with
    | true => exact ⟨k, A0, c0, d0, Lib.hid (fun h => by cases h), Lib.hid (fun W h => h), hk.1, hk.2, Lib.hid D2⟩
    | false => exact ⟨0, none, 0, [], Lib.hid (fun _ => ⟨rfl, rfl⟩), Lib.hid (fun W _ => Rd.nil _), by omega, by omega, Lib.hid D2⟩
  go_wp2_with (fail)
  refine D2.out.mono ?_
  rintro e w2 ⟨rfl, k12⟩
  have k02 := k0.then (k01.then k12)
  have b2 := b1.keepN k12
  have rf0 := b2.free 0
  have rf1 := b2.free 1
  have rf2 := b2.free 2
  have rf3 := b2.free 3
  have rf4 := b2.free 4
  have rf5 := b2.free 5
  have rc0 := b2.cell 0
  have rc1 := b2.cell 1
  have rc2 := b2.cell 2
  have rc3 := b2.cell 3
  have rc4 := b2.cell 4
  have rc5 := b2.cell 5
  have kst := ECut.kps' (Kp.refl (· = w.heap.size) w2) (.bool has) (.int .i32 K) (.slice B0 L0.length z) (.slice A1 d1.length c1) (.slice A2 d2.length c2) (.slice A3 d3.length c3)
  have b3 : Blk ((((((w2.setCell ⟨w.heap.size, 0, none⟩ (.bool has)).setCell ⟨w.heap.size, 1, none⟩ (.int .i32 K)).setCell ⟨w.heap.size, 2, none⟩ (.slice B0 L0.length z)).setCell ⟨w.heap.size, 3, none⟩ (.slice A1 d1.length c1)).setCell ⟨w.heap.size, 4, none⟩ (.slice A2 d2.length c2)).setCell ⟨w.heap.size, 5, none⟩ (.slice A3 d3.length c3)) w.heap.size #[.bool has, .int .i32 K, .slice B0 L0.length z, .slice A1 d1.length c1, .slice A2 d2.length c2, .slice A3 d3.length c3] 64 := ((((((b2.set 0 (.bool has)).set 1 (.int .i32 K)).set 2 (.slice B0 L0.length z)).set 3 (.slice A1 d1.length c1)).set 4 (.slice A2 d2.length c2)).set 5 (.slice A3 d3.length c3))
  have k03 : Kp no w ((((((w2.setCell ⟨w.heap.size, 0, none⟩ (.bool has)).setCell ⟨w.heap.size, 1, none⟩ (.int .i32 K)).setCell ⟨w.heap.size, 2, none⟩ (.slice B0 L0.length z)).setCell ⟨w.heap.size, 3, none⟩ (.slice A1 d1.length c1)).setCell ⟨w.heap.size, 4, none⟩ (.slice A2 d2.length c2)).setCell ⟨w.heap.size, 5, none⟩ (.slice A3 d3.length c3)) := k02.trans kst (fun i hi hh => by omega)
  have R0 : Rd ((((((w2.setCell ⟨w.heap.size, 0, none⟩ (.bool has)).setCell ⟨w.heap.size, 1, none⟩ (.int .i32 K)).setCell ⟨w.heap.size, 2, none⟩ (.slice B0 L0.length z)).setCell ⟨w.heap.size, 3, none⟩ (.slice A1 d1.length c1)).setCell ⟨w.heap.size, 4, none⟩ (.slice A2 d2.length c2)).setCell ⟨w.heap.size, 5, none⟩ (.slice A3 d3.length c3)) B0 L0.length z L0 := HR.out _ (r0.keepN k03)
  have R1 := r1.keepN k03
  have R2 := r2.keepN k03
  have R3 := r3.keepN k03
  have RM := h.keepN k03
  have g0 := b3.cell 0
  have g1 := b3.cell 1
  have g2 := b3.cell 2
  have g3 := b3.cell 3
  have g4 := b3.cell 4
  have g5 := b3.cell 5
  have s3 := k03.size
  by_cases hfit : (L0.length : Int) ≤ 300 ∧ (d1.length : Int) ≤ 300 ∧ (d2.length : Int) ≤ 300 ∧ (d3.length : Int) ≤ 300
  case neg =>
    have D3 := Lib.hid (envelopeFits_no (w := ((((((w2.setCell ⟨w.heap.size, 0, none⟩ (.bool has)).setCell ⟨w.heap.size, 1, none⟩ (.int .i32 K)).setCell ⟨w.heap.size, 2, none⟩ (.slice B0 L0.length z)).setCell ⟨w.heap.size, 3, none⟩ (.slice A1 d1.length c1)).setCell ⟨w.heap.size, 4, none⟩ (.slice A2 d2.length c2)).setCell ⟨w.heap.size, 5, none⟩ (.slice A3 d3.length c3))) has K B0 A1 A2 A3 L0.length d1.length d2.length d3.length z c1 c2 c3 (by simpa using hfit))
    clear hfit kst
    go_wp2_with (fail)
    refine D3.out.mono ?_
    rintro e w4 ⟨rfl, k34⟩
    have DL := Lib.hid (envelopesLive_calls (hE.keepN (k03.then k34)))
    go_wp2_with (first | (go_at_call 41; refine DL.out.mono ?_; rintro e w5 ⟨rfl, hk5⟩))
    go_ret
    exact ⟨rfl, (k03.then k34).then hk5⟩
  obtain ⟨u0, u1, u2, u3⟩ := hfit
  have D3 := Lib.hid (envelopeFits_yes (w := ((((((w2.setCell ⟨w.heap.size, 0, none⟩ (.bool has)).setCell ⟨w.heap.size, 1, none⟩ (.int .i32 K)).setCell ⟨w.heap.size, 2, none⟩ (.slice B0 L0.length z)).setCell ⟨w.heap.size, 3, none⟩ (.slice A1 d1.length c1)).setCell ⟨w.heap.size, 4, none⟩ (.slice A2 d2.length c2)).setCell ⟨w.heap.size, 5, none⟩ (.slice A3 d3.length c3))) has K B0 A1 A2 A3 L0.length d1.length d2.length d3.length z c1 c2 c3 (by simpa using u0) u1 u2 u3)
  by_cases hm : 100 < (m.length : Int)
  · clear kst
    go_wp2_with (fail)
    refine D3.out.mono ?_
    rintro e w4 ⟨rfl, k34⟩
    have DL := Lib.hid (envelopesLive_calls (hE.keepN (k03.then k34)))
    go_wp2_with (first | (go_at_call 41; refine DL.out.mono ?_; rintro e w5 ⟨rfl, hk5⟩))
    go_ret
    exact ⟨rfl, (k03.then k34).then hk5⟩
  clear kst
  go_wp2_with (fail)
  refine D3.out.mono ?_
  rintro e w4 ⟨rfl, k34⟩
  have k04 := k03.then k34
  have S0 := R0.keepN k34
  have S1 := R1.keepN k34
  have S2 := R2.keepN k34
  have S3 := R3.keepN k34
  have SM := RM.keepN k34
  have b4 := b3.keepN k34
  have hok : EOk ⟨has, K, B0, z, L0, A1, c1, d1, A2, c2, d2, A3, c3, d3⟩ := ⟨hK0, hK1, S0.byt, S1.byt, S2.byt, S3.byt, by show L0.length ≤ 300; omega, by show d1.length ≤ 300; omega, by show d2.length ≤ 300; omega, by show d3.length ≤ 300; omega, HP.out⟩
  have hm2 : (m.length : Int) ≤ 100 := by omega
  have hm3 : decide (100 < (m.length : Int)) = false := by simp; omega
  clear hm
  clear R0 R1 R2 R3 RM g0 g1 g2 g3 g4 g5 b3 D3 k34 k03
  have kd : Kp no w4 w4.drew := (Kp.refl _ _).drew
  have C1 := fun W (k : Kp no w4 W) => Lib.hid (keyField_calls (SM.keepN k) (by omega) 4 (by omega) (by omega))
  have C2 := fun W (k : Kp no w4 W) => Lib.hid (sEnvelopeBytes_calls hok (S0.keepN k) (S1.keepN k) (S2.keepN k) (S3.keepN k))
  have C3 := fun (W : World) => Lib.hid (keyNumber_calls (w := W) (f % 995 + 6) v (by omega) (by omega) hv.1 hv.2)
  have C4 := fun W (k : Kp no w4 W) => Lib.hid (keyField_calls (SM.keepN k) (by omega) (f % 995 + 6) (by omega) (by omega))
  have C5 := fun (W : World) => Lib.hid (keyNumber_calls (w := W) 4 v (by omega) (by omega) hv.1 hv.2)
  have hol : ∀ (g u : Int) (l : List Int) (b : Bool), l.length ≤ 100 → (other g u l b).length ≤ 400 := by
    intro g u l b hl
    unfold other
    split
    · have := (vint_len (g * 8)).2; have := (vint_len u).2; rw [List.length_append]; omega
    · have := (vint_len (g * 8 + 2)).2; have := (vint_len (l.length : Int)).2; simp only [List.length_append]; omega
  have hel : (eb ⟨has, K, B0, z, L0, A1, c1, d1, A2, c2, d2, A3, c3, d3⟩).length ≤ 2000 := by
    have ho : ∀ f (l : List Int), l.length ≤ 300 → (ob f l).length ≤ 400 := by
      intro f l hl
      unfold ob
      split
      · simp
      · have := wb_len f l; have := (vint_len l.length).2; omega
    have := ho 2 d1 hok.n1; have := ho 3 d2 hok.n2; have := ho 5 d3 hok.n3
    unfold eb
    simp only [List.length_append]
    split
    · have := kb_len K L0; have := wb_len 1 (kb K L0); have := (vint_len (kb K L0).length).2; have := hok.n0; simp only at *; omega
    · simp only [List.length_nil]; omega
  obtain ⟨P1, hP1⟩ : ∃ P, P = other 4 0 m false := ⟨_, rfl⟩
  obtain ⟨P2, hP2⟩ : ∃ P, P = eb ⟨has, K, B0, z, L0, A1, c1, d1, A2, c2, d2, A3, c3, d3⟩ := ⟨_, rfl⟩
  obtain ⟨P3, hP3⟩ : ∃ P, P = other (f % 995 + 6) v [] true := ⟨_, rfl⟩
  obtain ⟨P4, hP4⟩ : ∃ P, P = other (f % 995 + 6) 0 m false := ⟨_, rfl⟩
  obtain ⟨P5, hP5⟩ : ∃ P, P = other 4 v [] true := ⟨_, rfl⟩
  have l1 := hol 4 0 m false (by omega)
  have l3 := hol (f % 995 + 6) v [] true (by simp)
  have l4 := hol (f % 995 + 6) 0 m false (by omega)
  have l5 := hol 4 v [] true (by simp)
  rw [← hP1] at l1 C1
  rw [← hP2] at hel C2
  rw [← hP3] at l3 C3
  rw [← hP4] at l4 C4
  rw [← hP5] at l5 C5
  obtain ⟨Z, hZ⟩ : ∃ Z, Z = P1 ++ (P2 ++ (P3 ++ (P4 ++ P5))) := ⟨_, rfl⟩
  have hZl : Z.length ≤ 4000 := by rw [hZ]; simp only [List.length_append]; omega
  have HZF := Lib.hid (show ([P1, P2, P3, P4, P5] : List (List Int)).flatten = Z by rw [hZ]; simp)
  have HZS := Lib.hid (show ([P1, P2, P3, P4, P5] : List (List Int)).flatten.length ≤ 1099511627776 by rw [HZF.out]; omega)
  have HZ := Lib.hid (show Z = other 4 0 m false ++ (eb ⟨has, K, B0, z, L0, A1, c1, d1, A2, c2, d2, A3, c3, d3⟩ ++ (other (f % 995 + 6) v [] true ++ (other (f % 995 + 6) 0 m false ++ other 4 v [] true))) by rw [hZ, hP1, hP2, hP3, hP4, hP5])
  clear hZ hP1 hP2 hP3 hP4 hP5 hol
  have bd := b4.keepN kd
  have o0 := bd.cell 0
  have o1 := bd.cell 1
  have o2 := bd.cell 2
  have o3 := bd.cell 3
  have o4 := bd.cell 4
  have o5 := bd.cell 5
  have HC1 := Lib.hid C1
  have HC2 := Lib.hid C2
  have HC3 := Lib.hid C3
  have HC4 := Lib.hid C4
  have HC5 := Lib.hid C5
  have HB4 := Lib.hid b4
  clear C1 C2 C3 C4 C5 D D2 b4 bd
  go_wp2_with (fail)
  go_region_with
    (first
    | (go_at_call 27; refine (Concat_to (l := Z) (RdS.lit w9 24 [⟨A5, _, c5, P1⟩, ⟨A6, _, c6, P2⟩, ⟨A7, _, c7, P3⟩, ⟨A8, _, c8, P4⟩, ⟨A9, _, c9, P5⟩] (by
        intro s hs
        simp only [List.mem_cons, List.not_mem_nil, or_false] at hs
        rcases hs with rfl | rfl | rfl | rfl | rfl
        · exact M5.rd.keepN (M6.kp.then (M7.kp.then (M8.kp.then M9.kp)))
        · exact M6.rd.keepN (M7.kp.then (M8.kp.then M9.kp))
        · exact M7.rd.keepN (M8.kp.then M9.kp)
        · exact M8.rd.keepN M9.kp
        · exact M9.rd) (by simp)) HZS.out HZF.out).mono ?_; rintro e w10 ⟨A10, c10, rfl, M10⟩; have j10 : Kp no w4 w10 := (j9.alloc _).then M10.kp)
    | (go_at_call 39; refine (HC5.out w8).out.mono ?_; rintro e w9 ⟨A9, c9, rfl, M9⟩; have j9 := j8.then M9.kp)
    | (go_at_call 29; refine (HC4.out w7 j7).out.mono ?_; rintro e w8 ⟨A8, c8, rfl, M8⟩; have j8 := j7.then M8.kp)
    | (go_at_call 39; refine (HC3.out w6).out.mono ?_; rintro e w7 ⟨A7, c7, rfl, M7⟩; have j7 := j6.then M7.kp)
    | (go_at_call 49; refine (HC2.out w5 j5).out.mono ?_; rintro e w6 ⟨A6, c6, rfl, M6⟩; have j6 := j5.then M6.kp)
    | (go_at_call 29; refine (HC1.out _ kd).out.mono ?_; rintro e w5 ⟨A5, c5, rfl, M5⟩; have j5 := kd.then M5.kp; have b5 := HB4.out.keepN j5; have p0 := b5.cell 0; have p1 := b5.cell 1; have p2 := b5.cell 2; have p3 := b5.cell 3; have p4 := b5.cell 4; have p5 := b5.cell 5))
  all_goals
    have k10 := k04.then j10
    have DO := Lib.hid (EnvelopeOf_calls M10.rd (by omega) (hE.keepN k10))
    go_wp2_with (fail)
    refine DO.out.mono ?_
    rintro e w11 ⟨hk11, ⟨yh, yk, Y0, f0, y0, Y1, f1, y1, Y2, f2, y2, Y3, f3, y3⟩, ok, rfl, haty, hR⟩
    rw [HZ.out] at hR
    obtain ⟨rfl, e0, e1, e2, e3, e4, e5⟩ := ERes_more hok (by omega) (by omega) hv.1 hv.2 h.byt (by omega) hR
    simp only at e0 e1 e2 e3 e4 e5
    replace e0 := e0.symm
    replace e1 := e1.symm
    replace e2 := e2.symm
    replace e3 := e3.symm
    replace e4 := e4.symm
    replace e5 := e5.symm
    subst e0 e1 e2 e3 e4 e5
    have t0 := haty.r0
    have t1 := haty.r1
    have t2 := haty.r2
    have t3 := haty.r3
    simp only at t0 t1 t2 t3
    have kb : Kp no w11 (w11.alloc (.cells #[.bool has, .int .i32 K, .slice Y0 L0.length f0, .slice Y1 d1.length f1, .slice Y2 d2.length f2, .slice Y3 d3.length f3] 64)) := (Kp.refl _ _).alloc _
    have kk := (j10.then hk11).then kb
    have bb := HB4.out.keepN kk
    have v0 := bb.cell 0
    have v1 := bb.cell 1
    have v2 := bb.cell 2
    have v3 := bb.cell 3
    have v4 := bb.cell 4
    have v5 := bb.cell 5
    have DS := Lib.hid (sameEnvelope_calls (has := has) (k := K) (t0.keepN kb) (t1.keepN kb) (t2.keepN kb) (t3.keepN kb) (S0.keepN kk) (S1.keepN kk) (S2.keepN kk) (S3.keepN kk))
    go_wp2_with (fail)
    refine DS.out.mono ?_
    rintro e w12 ⟨rfl, k12'⟩
    have k12f := (k04.then kk).then k12'
    have DL7 := Lib.hid (envelopesLive_calls (hE.keepN k12f))
    go_wp2_with (first | (go_at_call 41; refine DL7.out.mono ?_; rintro e w13 ⟨rfl, hk13⟩))
    go_ret
    exact ⟨rfl, k12f.then hk13⟩
end Go.Proofs.YtipleaojejbkpaaDoor
