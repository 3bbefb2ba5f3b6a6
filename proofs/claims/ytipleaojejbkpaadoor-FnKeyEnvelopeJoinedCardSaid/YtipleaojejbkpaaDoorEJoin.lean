/- FnKeyEnvelopeJoined walked. -/
import Derived.Test.YtipleaojejbkpaaDoorEByt
import Derived.Test.YtipleaojejbkpaaDoorEJoinP
import Derived.Test.YtipleaojejbkpaaDoorEMoreA
import Derived.Test.YtipleaojejbkpaaDoorRead
import Derived.Deep.Cut
namespace Go.Proofs.YtipleaojejbkpaaDoor
open Go Go.RowKit
set_option linter.unusedVariables false
set_option linter.unusedSimpArgs false
set_option maxRecDepth 100000

/-- A slice of the wanted envelope's: the one's, or the other's. -/
structure JCut (wq : World) (g11 : Nat) (wx : World) (cs : Array Value) (i : Nat) (V : Option Addr) (v : Nat) (l a b : List Int) (w : World) : Prop where
  blk : Blk wx g11 (cs.setIfInBounds i (.slice V l.length v)) 64
  kp : Kp (· = g11) wq wx
  rd : Rd w V l.length v l
  eq : Hid (l = (if b = [] then a else b))

set_option maxHeartbeats 16000000 in
theorem fnKeyEnvelopeJoined_calls {w : World} (x z : EV) (hrx : x.At w) (hrz : z.At w) (hE : EErrs w) :
    Calls Tryd.prog 14 #[.agg x.cells, .agg z.cells] w (LawOk w) := by
  obtain ⟨hx, kx, X0, p0, a0, X1, p1, a1, X2, p2, a2, X3, p3, a3⟩ := x
  obtain ⟨hz, kz, Z0, s0, b0, Z1, s1, b1, Z2, s2, b2, Z3, s3, b3⟩ := z
  have k0 : Kp no w ((w.alloc (.cells #[.bool hx, .int .i32 kx, .slice X0 a0.length p0, .slice X1 a1.length p1, .slice X2 a2.length p2, .slice X3 a3.length p3] 64)).alloc (.cells #[.bool hz, .int .i32 kz, .slice Z0 b0.length s0, .slice Z1 b1.length s1, .slice Z2 b2.length s2, .slice Z3 b3.length s3] 64)) := ((Kp.refl _ _).alloc _).alloc _
  have hbx0 := (Blk.new w #[.bool hx, .int .i32 kx, .slice X0 a0.length p0, .slice X1 a1.length p1, .slice X2 a2.length p2, .slice X3 a3.length p3] 64).alloc (.cells #[.bool hz, .int .i32 kz, .slice Z0 b0.length s0, .slice Z1 b1.length s1, .slice Z2 b2.length s2, .slice Z3 b3.length s3] 64)
  have hbz0 := Blk.new (w.alloc (.cells #[.bool hx, .int .i32 kx, .slice X0 a0.length p0, .slice X1 a1.length p1, .slice X2 a2.length p2, .slice X3 a3.length p3] 64)) #[.bool hz, .int .i32 kz, .slice Z0 b0.length s0, .slice Z1 b1.length s1, .slice Z2 b2.length s2, .slice Z3 b3.length s3] 64
  rw [show (w.alloc (.cells #[.bool hx, .int .i32 kx, .slice X0 a0.length p0, .slice X1 a1.length p1, .slice X2 a2.length p2, .slice X3 a3.length p3] 64)).heap.size = w.heap.size + 1 from by simp] at hbz0
  generalize hW : (w.alloc (.cells #[.bool hx, .int .i32 kx, .slice X0 a0.length p0, .slice X1 a1.length p1, .slice X2 a2.length p2, .slice X3 a3.length p3] 64)).alloc (.cells #[.bool hz, .int .i32 kz, .slice Z0 b0.length s0, .slice Z1 b1.length s1, .slice Z2 b2.length s2, .slice Z3 b3.length s3] 64) = W0 at *
  have cx0 := hbx0.cell 0
  have cx1 := hbx0.cell 1
  have cx2 := hbx0.cell 2
  have cx3 := hbx0.cell 3
  have cx4 := hbx0.cell 4
  have cx5 := hbx0.cell 5
  have cz0 := hbz0.cell 0
  have cz1 := hbz0.cell 1
  have cz2 := hbz0.cell 2
  have cz3 := hbz0.cell 3
  have cz4 := hbz0.cell 4
  have cz5 := hbz0.cell 5
  by_cases hfx : (a0.length : Int) ≤ 2147483647 ∧ (a1.length : Int) ≤ 2147483647 ∧ (a2.length : Int) ≤ 2147483647 ∧ (a3.length : Int) ≤ 2147483647
  case neg =>
    have D := Lib.hid (zzFits14_no (w := W0) hx kx X0 X1 X2 X3 a0.length a1.length a2.length a3.length p0 p1 p2 p3 hfx)
    clear hfx hrx hrz
    go_enter Tryd.func14, Tryd.ntmps14
    go_wp2_with (fail)
    refine D.out.mono ?_
    rintro e w1 ⟨rfl, k1⟩
    go_wp2
    go_ret
    exact ⟨rfl, k0.then k1⟩
  obtain ⟨f0, f1, f2, f3⟩ := hfx
  have D := Lib.hid (zzFits14_yes (w := W0) hx kx X0 X1 X2 X3 a0.length a1.length a2.length a3.length p0 p1 p2 p3 f0 f1 f2 f3)
  clear f0 f1 f2 f3
  go_enter Tryd.func14, Tryd.ntmps14
  go_wp2_with (fail)
  refine D.out.mono ?_
  rintro e w1 ⟨rfl, k1⟩
  have hbx1 := hbx0.keepN k1
  have hbz1 := hbz0.keepN k1
  clear cx0 cx1 cx2 cx3 cx4 cx5 cz0 cz1 cz2 cz3 cz4 cz5
  have cz0 := hbz1.cell 0
  have cz1 := hbz1.cell 1
  have cz2 := hbz1.cell 2
  have cz3 := hbz1.cell 3
  have cz4 := hbz1.cell 4
  have cz5 := hbz1.cell 5
  by_cases hfz : (b0.length : Int) ≤ 2147483647 ∧ (b1.length : Int) ≤ 2147483647 ∧ (b2.length : Int) ≤ 2147483647 ∧ (b3.length : Int) ≤ 2147483647
  case neg =>
    have D := Lib.hid (zzFits14_no (w := w1) hz kz Z0 Z1 Z2 Z3 b0.length b1.length b2.length b3.length s0 s1 s2 s3 hfz)
    clear hfz hrx hrz
    go_wp2_with (fail)
    refine D.out.mono ?_
    rintro e w2 ⟨rfl, k2⟩
    go_wp2
    go_ret
    exact ⟨rfl, (k0.then k1).then k2⟩
  obtain ⟨f0, f1, f2, f3⟩ := hfz
  have D := Lib.hid (zzFits14_yes (w := w1) hz kz Z0 Z1 Z2 Z3 b0.length b1.length b2.length b3.length s0 s1 s2 s3 f0 f1 f2 f3)
  clear f0 f1 f2 f3
  go_wp2_with (fail)
  refine D.out.mono ?_
  rintro e w2 ⟨rfl, k2⟩
  have hbx2 := hbx1.keepN k2
  have hbz2 := hbz1.keepN k2
  clear cz0 cz1 cz2 cz3 cz4 cz5
  have ex0 := hbx2.cell 0
  have ez0 := hbz2.cell 0
  have ef0 := hbx2.free 0
  have eg0 := hbz2.free 0
  have kS : Kp (fun i => i = w.heap.size ∨ i = w.heap.size + 1) w2 ((w2.setCell ⟨w.heap.size, 0, none⟩ (.bool true)).setCell ⟨w.heap.size + 1, 0, none⟩ (.bool true)) := ((Kp.refl _ w2).setCell (p := ⟨w.heap.size, 0, none⟩) (fun _ => .inl rfl) _).setCell (p := ⟨w.heap.size + 1, 0, none⟩) (fun _ => .inr rfl) _
  have hbx3 : Blk ((w2.setCell ⟨w.heap.size, 0, none⟩ (.bool true)).setCell ⟨w.heap.size + 1, 0, none⟩ (.bool true)) w.heap.size #[.bool true, .int .i32 kx, .slice X0 a0.length p0, .slice X1 a1.length p1, .slice X2 a2.length p2, .slice X3 a3.length p3] 64 := (hbx2.set 0 (.bool true)).far (p := ⟨w.heap.size + 1, 0, none⟩) (by show ¬ w.heap.size = w.heap.size + 1; omega) _
  have hbz3 : Blk ((w2.setCell ⟨w.heap.size, 0, none⟩ (.bool true)).setCell ⟨w.heap.size + 1, 0, none⟩ (.bool true)) (w.heap.size + 1) #[.bool true, .int .i32 kz, .slice Z0 b0.length s0, .slice Z1 b1.length s1, .slice Z2 b2.length s2, .slice Z3 b3.length s3] 64 := (hbz2.far (p := ⟨w.heap.size, 0, none⟩) (by show ¬ w.heap.size + 1 = w.heap.size; omega) (.bool true)).set 0 (.bool true)
  have k03 : Kp no w ((w2.setCell ⟨w.heap.size, 0, none⟩ (.bool true)).setCell ⟨w.heap.size + 1, 0, none⟩ (.bool true)) := ((k0.then k1).then k2).trans kS (fun i hi h => by omega)
  have HK03 := Lib.hid k03
  have HBX3 := Lib.hid hbx3
  have HBZ3 := Lib.hid hbz3
  clear k03 kS hbx3 hbz3
  go_upto_region 4 with (fail)
  generalize (w2.setCell ⟨w.heap.size, 0, none⟩ (.bool true)).setCell ⟨w.heap.size + 1, 0, none⟩ (.bool true) = W3 at *
  have k03 := HK03.out
  have hbx3 := HBX3.out
  have hbz3 := HBZ3.out
  clear HK03 HBX3 HBZ3 ex0 ez0 ef0 eg0
  have cx0 := hbx3.cell 0
  have cx1 := hbx3.cell 1
  have cx2 := hbx3.cell 2
  have cx3 := hbx3.cell 3
  have cx4 := hbx3.cell 4
  have cx5 := hbx3.cell 5
  by_cases hfx : (a0.length : Int) ≤ 300 ∧ (a1.length : Int) ≤ 300 ∧ (a2.length : Int) ≤ 300 ∧ (a3.length : Int) ≤ 300
  case neg =>
    have D := Lib.hid (envelopeFits_no (w := W3) true kx X0 X1 X2 X3 a0.length a1.length a2.length a3.length p0 p1 p2 p3 hfx)
    clear hfx hrx hrz
    go_wp2_with (fail)
    refine D.out.mono ?_
    rintro e w4 ⟨rfl, k4⟩
    have DL := Lib.hid (envelopesLive_calls (hE.keepN (k03.then k4)))
    go_wp2_with (first | (go_at_call 41; refine DL.out.mono ?_; rintro e w5 ⟨rfl, hk5⟩))
    go_ret
    exact ⟨rfl, (k03.then k4).then hk5⟩
  obtain ⟨f0, f1, f2, f3⟩ := hfx
  have D := Lib.hid (envelopeFits_yes (w := W3) true kx X0 X1 X2 X3 a0.length a1.length a2.length a3.length p0 p1 p2 p3 f0 f1 f2 f3)
  go_wp2_with (fail)
  refine D.out.mono ?_
  rintro e w4 ⟨rfl, k4⟩
  have hbx4 := hbx3.keepN k4
  have hbz4 := hbz3.keepN k4
  have k04 := k03.then k4
  clear cx0 cx1 cx2 cx3 cx4 cx5
  have cz0 := hbz4.cell 0
  have cz1 := hbz4.cell 1
  have cz2 := hbz4.cell 2
  have cz3 := hbz4.cell 3
  have cz4 := hbz4.cell 4
  have cz5 := hbz4.cell 5
  by_cases hfz : (b0.length : Int) ≤ 300 ∧ (b1.length : Int) ≤ 300 ∧ (b2.length : Int) ≤ 300 ∧ (b3.length : Int) ≤ 300
  case neg =>
    have D := Lib.hid (envelopeFits_no (w := w4) true kz Z0 Z1 Z2 Z3 b0.length b1.length b2.length b3.length s0 s1 s2 s3 hfz)
    clear hfz hrx hrz
    go_wp2_with (fail)
    refine D.out.mono ?_
    rintro e w5 ⟨rfl, k5⟩
    have DL := Lib.hid (envelopesLive_calls (hE.keepN (k04.then k5)))
    go_wp2_with (first | (go_at_call 41; refine DL.out.mono ?_; rintro e w6 ⟨rfl, hk6⟩))
    go_ret
    exact ⟨rfl, (k04.then k5).then hk6⟩
  obtain ⟨g0, g1, g2, g3⟩ := hfz
  have D := Lib.hid (envelopeFits_yes (w := w4) true kz Z0 Z1 Z2 Z3 b0.length b1.length b2.length b3.length s0 s1 s2 s3 g0 g1 g2 g3)
  go_wp2_with (fail)
  refine D.out.mono ?_
  rintro e w5 ⟨rfl, k5⟩
  have hbx5 := hbx4.keepN k5
  have hbz5 := hbz4.keepN k5
  have k05 := k04.then k5
  clear cz0 cz1 cz2 cz3 cz4 cz5
  have okx : EOk ⟨true, kx, X0, p0, a0, X1, p1, a1, X2, p2, a2, X3, p3, a3⟩ := ⟨hrx.kr.1, hrx.kr.2, hrx.r0.byt, hrx.r1.byt, hrx.r2.byt, hrx.r3.byt, by show a0.length ≤ 300; omega, by show a1.length ≤ 300; omega, by show a2.length ≤ 300; omega, by show a3.length ≤ 300; omega, (fun h => by cases h)⟩
  have okz : EOk ⟨true, kz, Z0, s0, b0, Z1, s1, b1, Z2, s2, b2, Z3, s3, b3⟩ := ⟨hrz.kr.1, hrz.kr.2, hrz.r0.byt, hrz.r1.byt, hrz.r2.byt, hrz.r3.byt, by show b0.length ≤ 300; omega, by show b1.length ≤ 300; omega, by show b2.length ≤ 300; omega, by show b3.length ≤ 300; omega, (fun h => by cases h)⟩
  have OKX := Lib.hid okx
  have OKZ := Lib.hid okz
  have hel : ∀ (x : EV), EOk x → (eb x).length ≤ 2000 := by
    intro x hx
    have := ob_len (f := 2) x.d1; have := ob_len (f := 3) x.d2; have := ob_len (f := 5) x.d3
    have := hx.n0; have := hx.n1; have := hx.n2; have := hx.n3
    unfold eb
    simp only [List.length_append]
    split
    · have := kb_len x.k x.d0; have := wb_len 1 (kb x.k x.d0); have := (vint_len (kb x.k x.d0).length).2; omega
    · simp only [List.length_nil]; omega
  have lx := hel _ okx
  have lz := hel _ okz
  have cx0 := hbx5.cell 0
  have cx1 := hbx5.cell 1
  have cx2 := hbx5.cell 2
  have cx3 := hbx5.cell 3
  have cx4 := hbx5.cell 4
  have cx5 := hbx5.cell 5
  have DX := Lib.hid (EnvelopeBytes_key hrx.kr.1 hrx.kr.2 (hrx.r0.keepN k05) (hrx.r1.keepN k05) (hrx.r2.keepN k05) (hrx.r3.keepN k05) okx.n0 okx.n1 okx.n2 okx.n3)
  have ex : (wb 1 (kb kx a0) ++ (ob 2 a1 ++ (ob 3 a2 ++ ob 5 a3))) = eb ⟨true, kx, X0, p0, a0, X1, p1, a1, X2, p2, a2, X3, p3, a3⟩ := rfl
  have ez : (wb 1 (kb kz b0) ++ (ob 2 b1 ++ (ob 3 b2 ++ ob 5 b3))) = eb ⟨true, kz, Z0, s0, b0, Z1, s1, b1, Z2, s2, b2, Z3, s3, b3⟩ := rfl
  simp only at DX
  rw [ex] at DX
  obtain ⟨P, hP⟩ : ∃ P, P = eb ⟨true, kx, X0, p0, a0, X1, p1, a1, X2, p2, a2, X3, p3, a3⟩ := ⟨_, rfl⟩
  obtain ⟨Q, hQ⟩ : ∃ Q, Q = eb ⟨true, kz, Z0, s0, b0, Z1, s1, b1, Z2, s2, b2, Z3, s3, b3⟩ := ⟨_, rfl⟩
  rw [← hP] at DX lx
  rw [← hQ] at lz ez
  have HP := Lib.hid hP
  have HQ := Lib.hid hQ
  have EZ := Lib.hid ez
  clear hP hQ ex ez hel okx f0 f1 f2 f3 g0 g1 g2 g3 D
  go_wp2_with (fail)
  refine DX.out.mono ?_
  rintro e w6 ⟨A6, c6, rfl, M6⟩
  have k06 := k05.then M6.kp
  have hbx6 := hbx5.keepN M6.kp
  have hbz6 := hbz5.keepN M6.kp
  clear cx0 cx1 cx2 cx3 cx4 cx5
  have cz0 := hbz6.cell 0
  have cz1 := hbz6.cell 1
  have cz2 := hbz6.cell 2
  have cz3 := hbz6.cell 3
  have cz4 := hbz6.cell 4
  have cz5 := hbz6.cell 5
  have DZ := Lib.hid (EnvelopeBytes_key hrz.kr.1 hrz.kr.2 (hrz.r0.keepN k06) (hrz.r1.keepN k06) (hrz.r2.keepN k06) (hrz.r3.keepN k06) okz.n0 okz.n1 okz.n2 okz.n3)
  simp only at DZ
  rw [EZ.out] at DZ
  clear okz DX
  go_wp2_with (fail)
  refine DZ.out.mono ?_
  rintro e w7 ⟨A7, c7, rfl, M7⟩
  have k07 := k06.then M7.kp
  have hbx7 := hbx6.keepN M7.kp
  have hbz7 := hbz6.keepN M7.kp
  clear cz0 cz1 cz2 cz3 cz4 cz5 DZ
  obtain ⟨U, hU⟩ : ∃ U, U = P ++ Q := ⟨_, rfl⟩
  have hUl : U.length ≤ 4000 := by rw [hU, List.length_append]; omega
  have D8 := Lib.hid (Concat_to (l := U) (RdS.lit w7 24 [⟨A6, _, c6, P⟩, ⟨A7, _, c7, Q⟩] (by
      intro s hs
      simp only [List.mem_cons, List.not_mem_nil, or_false] at hs
      rcases hs with rfl | rfl
      · exact M6.rd.keepN M7.kp
      · exact M7.rd) (by simp)) (by show ([P, Q] : List (List Int)).flatten.length ≤ _; rw [show ([P, Q] : List (List Int)).flatten = U from by rw [hU]; simp]; omega) (by show ([P, Q] : List (List Int)).flatten = U; rw [hU]; simp))
  have HU := Lib.hid hU
  clear hU M6 M7
  go_wp2_with (fail)
  refine D8.out.mono ?_
  rintro e w8 ⟨A8, c8, rfl, M8⟩
  have k78 := ((Kp.refl no w7).alloc _).then M8.kp
  have k08 := (k07.alloc _).then M8.kp
  have D9 := Lib.hid (EnvelopeOf_calls M8.rd (by omega) (hE.keepN k08))
  clear D8 M8
  go_wp2_with (fail)
  refine D9.out.mono ?_
  rintro e w9 ⟨k9, ⟨yh, yk, Y0, t0, y0, Y1, t1, y1, Y2, t2, y2, Y3, t3, y3⟩, ok, rfl, haty, hR⟩
  rw [HU.out, HP.out, HQ.out] at hR
  obtain ⟨rfl, e0, e1, e2, e3, e4, e5⟩ := ERes_joined OKX.out OKZ.out rfl rfl hR
  clear hR D9
  simp only at e0 e1 e2 e3 e4 e5
  replace e1 := e1.symm
  replace e2 := e2.symm
  subst e0 e1 e2
  have E3 := Lib.hid e3
  have E4 := Lib.hid e4
  have E5 := Lib.hid e5
  clear e3 e4 e5
  have k09 := k08.then k9
  have hq0 := haty.r0
  have hq1 := haty.r1
  have hq2 := haty.r2
  have hq3 := haty.r3
  simp only at hq0 hq1 hq2 hq3
  have kA : Kp no w9 ((w9.alloc (.cells #[.bool true, .int .i32 kz, .slice Y0 b0.length t0, .slice Y1 y1.length t1, .slice Y2 y2.length t2, .slice Y3 y3.length t3] 64)).alloc (.cells #[.bool true, .int .i32 kz, .slice Z0 b0.length s0, .slice Z1 b1.length s1, .slice Z2 b2.length s2, .slice Z3 b3.length s3] 64)) := ((Kp.refl _ _).alloc _).alloc _
  have k79 := k78.then k9
  have hbxq := (hbx7.keepN k79).keepN kA
  have hbzq := (hbz7.keepN k79).keepN kA
  have hbz9 := (hbz7.keepN k79).keepN ((Kp.refl no w9).alloc (.cells #[.bool true, .int .i32 kz, .slice Y0 b0.length t0, .slice Y1 y1.length t1, .slice Y2 y2.length t2, .slice Y3 y3.length t3] 64))
  have cz0 := hbz9.cell 0
  have cz1 := hbz9.cell 1
  have cz2 := hbz9.cell 2
  have cz3 := hbz9.cell 3
  have cz4 := hbz9.cell 4
  have cz5 := hbz9.cell 5
  have byq : Blk ((w9.alloc (.cells #[.bool true, .int .i32 kz, .slice Y0 b0.length t0, .slice Y1 y1.length t1, .slice Y2 y2.length t2, .slice Y3 y3.length t3] 64)).alloc (.cells #[.bool true, .int .i32 kz, .slice Z0 b0.length s0, .slice Z1 b1.length s1, .slice Z2 b2.length s2, .slice Z3 b3.length s3] 64)) w9.heap.size #[.bool true, .int .i32 kz, .slice Y0 b0.length t0, .slice Y1 y1.length t1, .slice Y2 y2.length t2, .slice Y3 y3.length t3] 64 := (Blk.new w9 _ _).alloc _
  have bw0 := Blk.new (w9.alloc (.cells #[.bool true, .int .i32 kz, .slice Y0 b0.length t0, .slice Y1 y1.length t1, .slice Y2 y2.length t2, .slice Y3 y3.length t3] 64)) #[.bool true, .int .i32 kz, .slice Z0 b0.length s0, .slice Z1 b1.length s1, .slice Z2 b2.length s2, .slice Z3 b3.length s3] 64
  rw [show (w9.alloc (.cells #[.bool true, .int .i32 kz, .slice Y0 b0.length t0, .slice Y1 y1.length t1, .slice Y2 y2.length t2, .slice Y3 y3.length t3] 64)).heap.size = w9.heap.size + 1 from by simp] at bw0
  have hs9 : w.heap.size + 2 ≤ w9.heap.size := by have := hbz7.lt; have := k79.size; omega
  have HKA := Lib.hid kA
  have HXQ := Lib.hid hbxq
  have HZQ := Lib.hid hbzq
  have HYQ := Lib.hid byq
  have HW0 := Lib.hid bw0
  clear kA hbxq hbzq byq bw0
  go_upto_region 10 with (fail)
  generalize (w9.alloc (.cells #[.bool true, .int .i32 kz, .slice Y0 b0.length t0, .slice Y1 y1.length t1, .slice Y2 y2.length t2, .slice Y3 y3.length t3] 64)).alloc (.cells #[.bool true, .int .i32 kz, .slice Z0 b0.length s0, .slice Z1 b1.length s1, .slice Z2 b2.length s2, .slice Z3 b3.length s3] 64) = wq at *
  obtain ⟨g11, hg11⟩ : ∃ g, g = w9.heap.size + 1 := ⟨_, rfl⟩
  rw [← hg11] at HW0
  rw [← hg11]
  have HG := Lib.hid hg11
  have hg1 : w.heap.size + 3 ≤ g11 := by omega
  have hg2 : w9.heap.size < g11 := by omega
  clear hg11 cz0 cz1 cz2 cz3 cz4 cz5
  have HBX := Lib.hid (fun wx (k : Kp (· = g11) wq wx) => HXQ.out.keep k (by show ¬ w.heap.size = g11; omega))
  have HBZ := Lib.hid (fun wx (k : Kp (· = g11) wq wx) => HZQ.out.keep k (by show ¬ w.heap.size + 1 = g11; omega))
  have HBY := Lib.hid (fun wx (k : Kp (· = g11) wq wx) => HYQ.out.keep k (by show ¬ w9.heap.size = g11; omega))
  have bw0 := HW0.out
  have kp0 : Kp (· = g11) wq wq := Kp.refl _ _
  have hr1x := hrx.r1
  have hr1z := hrz.r1
  have rx1 := (HBX.out _ kp0).cell 3
  have rz1 := (HBZ.out _ kp0).cell 3
  have rw1 := bw0.cell 3
  have rf1 := bw0.free 3
  go_upto_if 53 with (fail)
  go_cut [] from 50 (fun wx => ∃ V v l, JCut wq g11 wx #[.bool true, .int .i32 kz, .slice Z0 b0.length s0, .slice Z1 b1.length s1, .slice Z2 b2.length s2, .slice Z3 b3.length s3] 3 V v l a1 b1 w)
  case first =>
    by_cases hzz : b1.length = 0
    · have hzi : ((b1.length : Int) == 0) = true := beq_iff_eq.2 (by omega)
      have HL := Lib.hid (show a1 = (if b1 = [] then a1 else b1) by rw [if_pos (List.eq_nil_of_length_eq_zero hzz)])
      clear hzz
      go_wp2_with (fail)
      go_meet
      case rel => exact ⟨X1, p1, a1, bw0.set 3 _, kp0.setCell (p := ⟨g11, 3, none⟩) (fun _ => rfl) _, hrx.r1, HL⟩
    · have hzi : ((b1.length : Int) == 0) = false := beq_eq_false_iff_ne.2 (by omega)
      have HL := Lib.hid (show b1 = (if b1 = [] then a1 else b1) by rw [if_neg (by intro h; rw [h] at hzz; exact hzz rfl)])
      clear hzz
      go_wp2_with (fail)
      go_meet
      case rel => exact ⟨Z1, s1, b1, bw0, kp0, hrz.r1, HL⟩
  case rest =>
    obtain ⟨V1, v1, l1, bw1, kp1, rv1, HL1⟩ := hcut
    change Blk wc g11 #[.bool true, .int .i32 kz, .slice Z0 b0.length s0, .slice V1 l1.length v1, .slice Z2 b2.length s2, .slice Z3 b3.length s3] 64 at bw1
    clear rx1 rz1 rw1 rf1
    have rx2 := (HBX.out _ kp1).cell 4
    have rz2 := (HBZ.out _ kp1).cell 4
    have rw2 := bw1.cell 4
    have rf2 := bw1.free 4
    obtain ⟨wu2, rfl⟩ : ∃ wu, wu = wc := ⟨_, rfl⟩
    go_upto_if 60 with (fail)
    go_cut [] from 50 (fun wx => ∃ V v l, JCut wq g11 wx #[.bool true, .int .i32 kz, .slice Z0 b0.length s0, .slice V1 l1.length v1, .slice Z2 b2.length s2, .slice Z3 b3.length s3] 4 V v l a2 b2 w)
    case first =>
      by_cases hzz : b2.length = 0
      · have hzi : ((b2.length : Int) == 0) = true := beq_iff_eq.2 (by omega)
        have HL := Lib.hid (show a2 = (if b2 = [] then a2 else b2) by rw [if_pos (List.eq_nil_of_length_eq_zero hzz)])
        clear hzz
        go_wp2_with (fail)
        go_meet
        case rel => exact ⟨X2, p2, a2, bw1.set 4 _, kp1.setCell (p := ⟨g11, 4, none⟩) (fun _ => rfl) _, hrx.r2, HL⟩
      · have hzi : ((b2.length : Int) == 0) = false := beq_eq_false_iff_ne.2 (by omega)
        have HL := Lib.hid (show b2 = (if b2 = [] then a2 else b2) by rw [if_neg (by intro h; rw [h] at hzz; exact hzz rfl)])
        clear hzz
        go_wp2_with (fail)
        go_meet
        case rel => exact ⟨Z2, s2, b2, bw1, kp1, hrz.r2, HL⟩
    case rest =>
      obtain ⟨V2, v2, l2, bw2, kp2, rv2, HL2⟩ := hcut
      change Blk wc g11 #[.bool true, .int .i32 kz, .slice Z0 b0.length s0, .slice V1 l1.length v1, .slice V2 l2.length v2, .slice Z3 b3.length s3] 64 at bw2
      clear rx2 rz2 rw2 rf2
      have rx3 := (HBX.out _ kp2).cell 5
      have rz3 := (HBZ.out _ kp2).cell 5
      have rw3 := bw2.cell 5
      have rf3 := bw2.free 5
      obtain ⟨wu3, rfl⟩ : ∃ wu, wu = wc := ⟨_, rfl⟩
      go_upto_if 67 with (fail)
      go_cut [] from 50 (fun wx => ∃ V v l, JCut wq g11 wx #[.bool true, .int .i32 kz, .slice Z0 b0.length s0, .slice V1 l1.length v1, .slice V2 l2.length v2, .slice Z3 b3.length s3] 5 V v l a3 b3 w)
      case first =>
        by_cases hzz : b3.length = 0
        · have hzi : ((b3.length : Int) == 0) = true := beq_iff_eq.2 (by omega)
          have HL := Lib.hid (show a3 = (if b3 = [] then a3 else b3) by rw [if_pos (List.eq_nil_of_length_eq_zero hzz)])
          clear hzz
          go_wp2_with (fail)
          go_meet
          case rel => exact ⟨X3, p3, a3, bw2.set 5 _, kp2.setCell (p := ⟨g11, 5, none⟩) (fun _ => rfl) _, hrx.r3, HL⟩
        · have hzi : ((b3.length : Int) == 0) = false := beq_eq_false_iff_ne.2 (by omega)
          have HL := Lib.hid (show b3 = (if b3 = [] then a3 else b3) by rw [if_neg (by intro h; rw [h] at hzz; exact hzz rfl)])
          clear hzz
          go_wp2_with (fail)
          go_meet
          case rel => exact ⟨Z3, s3, b3, bw2, kp2, hrz.r3, HL⟩
      case rest =>
        obtain ⟨V3, v3, l3, bw3, kp3, rv3, HL3⟩ := hcut
        change Blk wc g11 #[.bool true, .int .i32 kz, .slice Z0 b0.length s0, .slice V1 l1.length v1, .slice V2 l2.length v2, .slice V3 l3.length v3] 64 at bw3
        clear rx3 rz3 rw3 rf3
        have kw : Kp no w9 wc := HKA.out.trans kp3 (fun i hi h => by have h : i = g11 := h; omega)
        have kww := k09.then kw
        have yy0 := (HBY.out _ kp3).cell 0
        have yy1 := (HBY.out _ kp3).cell 1
        have yy2 := (HBY.out _ kp3).cell 2
        have yy3 := (HBY.out _ kp3).cell 3
        have yy4 := (HBY.out _ kp3).cell 4
        have yy5 := (HBY.out _ kp3).cell 5
        have ww0 := bw3.cell 0
        have ww1 := bw3.cell 1
        have ww2 := bw3.cell 2
        have ww3 := bw3.cell 3
        have ww4 := bw3.cell 4
        have ww5 := bw3.cell 5
        have u1 : l1 = y1 := HL1.out.trans E3.out.symm
        have u2 : l2 = y2 := HL2.out.trans E4.out.symm
        have u3 : l3 = y3 := HL3.out.trans E5.out.symm
        clear HL1 HL2 HL3 E3 E4 E5
        subst u1 u2 u3
        have DS := Lib.hid (sameEnvelope_calls (has := true) (k := kz) (hq0.keepN kw) (hq1.keepN kw) (hq2.keepN kw) (hq3.keepN kw) (hrz.r0.keepN kww) (rv1.keepN kww) (rv2.keepN kww) (rv3.keepN kww))
        go_wp2_with (fail)
        refine DS.out.mono ?_
        rintro e wE ⟨rfl, kE⟩
        have DL := Lib.hid (envelopesLive_calls (hE.keepN (kww.then kE)))
        go_wp2_with (first | (go_at_call 41; refine DL.out.mono ?_; rintro e wF ⟨rfl, hkF⟩))
        go_ret
        exact ⟨rfl, (kww.then kE).then hkF⟩
end Go.Proofs.YtipleaojejbkpaaDoor
