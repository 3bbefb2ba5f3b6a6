/- FnKeyWithin walked. -/
import Derived.Test.YtipleaojejbkpaaDoorEBytG
import Derived.Test.YtipleaojejbkpaaDoorWithP
import Derived.Test.YtipleaojejbkpaaDoorEMoreA
import Derived.Test.YtipleaojejbkpaaDoorRcE
namespace Go.Proofs.YtipleaojejbkpaaDoor
open Go Go.RowKit
set_option linter.unusedVariables false
set_option linter.unusedSimpArgs false
set_option maxRecDepth 100000

set_option maxHeartbeats 16000000 in
theorem fnKeyWithin_calls {w : World} (z : EV) (x : RV) (hrz : z.At w) (hx : x.At w ∧ 0 ≤ x.seq ∧ x.seq < 18446744073709551616) (hE : EErrs w) (hRE : RErrs w) :
    Calls Tryd.prog 16 #[.agg z.cells, .agg x.cells] w (LawOk w) := by
  obtain ⟨hx, hs0, hs1⟩ := hx
  have HOK := Lib.hid (ROk_of hx hs0 hs1)
  have k0 : Kp no w ((w.alloc (.cells z.cells 64)).alloc (.cells x.cells 47)) := ((Kp.refl _ _).alloc _).alloc _
  have hbz0 := (Blk.new w z.cells 64).alloc (.cells x.cells 47)
  have hbx0 := Blk.new (w.alloc (.cells z.cells 64)) x.cells 47
  rw [show (w.alloc (.cells z.cells 64)).heap.size = w.heap.size + 1 from by simp] at hbx0
  obtain ⟨A0, c0, d0, q0, B0, e0, L0⟩ := x
  obtain ⟨hz, kz, Z0, s0, b0, Z1, s1, b1, Z2, s2, b2, Z3, s3, b3⟩ := z
  simp only [RV.cells, EV.cells] at *
  generalize hW : (w.alloc (.cells #[.bool hz, .int .i32 kz, .slice Z0 b0.length s0, .slice Z1 b1.length s1, .slice Z2 b2.length s2, .slice Z3 b3.length s3] 64)).alloc (.cells #[.slice A0 d0.length c0, .int .u64 q0, .slice B0 L0.length e0] 47) = W0 at *
  have cz0 := hbz0.cell 0
  have cz1 := hbz0.cell 1
  have cz2 := hbz0.cell 2
  have cz3 := hbz0.cell 3
  have cz4 := hbz0.cell 4
  have cz5 := hbz0.cell 5
  by_cases hfz : (b0.length : Int) ≤ 2147483647 ∧ (b1.length : Int) ≤ 2147483647 ∧ (b2.length : Int) ≤ 2147483647 ∧ (b3.length : Int) ≤ 2147483647
  case neg =>
    have D := Lib.hid (zzFits14_no (w := W0) hz kz Z0 Z1 Z2 Z3 b0.length b1.length b2.length b3.length s0 s1 s2 s3 hfz)
    clear hfz hrz
    go_enter Tryd.func16, Tryd.ntmps16
    go_wp2_with (fail)
    refine D.out.mono ?_
    rintro e w1 ⟨rfl, k1⟩
    go_wp2
    go_ret
    exact ⟨rfl, k0.then k1⟩
  obtain ⟨f0, f1, f2, f3⟩ := hfz
  have D := Lib.hid (zzFits14_yes (w := W0) hz kz Z0 Z1 Z2 Z3 b0.length b1.length b2.length b3.length s0 s1 s2 s3 f0 f1 f2 f3)
  clear f0 f1 f2 f3
  go_enter Tryd.func16, Tryd.ntmps16
  go_wp2_with (fail)
  refine D.out.mono ?_
  rintro e w1 ⟨rfl, k1⟩
  have k01 := k0.then k1
  have hbx1 := hbx0.keepN k1
  have hbz1 := hbz0.keepN k1
  clear cz0 cz1 cz2 cz3 cz4 cz5
  have cx0 := hbx1.cell 0
  have cx1 := hbx1.cell 1
  have cx2 := hbx1.cell 2
  have D2 := Lib.hid (zzFits13_calls ⟨A0, c0, d0, q0, B0, e0, L0⟩ (hx.keepN k01))
  go_wp2_with (fail)
  refine D2.out.mono ?_
  rintro e w2 ⟨k2, b, rfl, hb⟩
  have k02 := k01.then k2
  cases b with
  | false =>
    clear hb
    go_wp2
    go_ret
    exact ⟨rfl, k02⟩
  | true =>
  clear hb D D2 cx0 cx1 cx2
  have hbx2 := hbx1.keepN k2
  have hbz2 := hbz1.keepN k2
  have cx0 := hbx2.cell 0
  have cx1 := hbx2.cell 1
  have cx2 := hbx2.cell 2
  have D3 := Lib.hid (recordFits_calls ⟨A0, c0, d0, q0, B0, e0, L0⟩ (hx.keepN k02))
  go_wp2_with (fail)
  refine D3.out.mono ?_
  rintro e w3 ⟨k3, b, rfl, hb⟩
  have k03 := k02.then k3
  cases b with
  | false =>
    clear hb
    have DL := Lib.hid (envelopesLive_calls (hE.keepN k03))
    go_wp2_with (first | (go_at_call 41; refine DL.out.mono ?_; rintro e w5 ⟨rfl, hk5⟩))
    go_ret
    exact ⟨rfl, k03.then hk5⟩
  | true =>
  have HFT := Lib.hid (hb rfl)
  clear hb D3 cx0 cx1 cx2
  have hbx3 := hbx2.keepN k3
  have hbz3 := hbz2.keepN k3
  have cz0 := hbz3.cell 0
  have cz1 := hbz3.cell 1
  have cz2 := hbz3.cell 2
  have cz3 := hbz3.cell 3
  have cz4 := hbz3.cell 4
  have cz5 := hbz3.cell 5
  by_cases hfz : (b0.length : Int) ≤ 300 ∧ (b1.length : Int) ≤ 300 ∧ (b2.length : Int) ≤ 300 ∧ (b3.length : Int) ≤ 300
  case neg =>
    have D := Lib.hid (envelopeFits_no (w := w3) hz kz Z0 Z1 Z2 Z3 b0.length b1.length b2.length b3.length s0 s1 s2 s3 hfz)
    clear hfz hrz
    go_wp2_with (fail)
    refine D.out.mono ?_
    rintro e w4 ⟨rfl, k4⟩
    have DL := Lib.hid (envelopesLive_calls (hE.keepN (k03.then k4)))
    go_wp2_with (first | (go_at_call 41; refine DL.out.mono ?_; rintro e w5 ⟨rfl, hk5⟩))
    go_ret
    exact ⟨rfl, (k03.then k4).then hk5⟩
  obtain ⟨g0, g1, g2, g3⟩ := hfz
  have D := Lib.hid (envelopeFits_yes (w := w3) hz kz Z0 Z1 Z2 Z3 b0.length b1.length b2.length b3.length s0 s1 s2 s3 g0 g1 g2 g3)
  go_wp2_with (fail)
  refine D.out.mono ?_
  rintro e w4 ⟨rfl, k4⟩
  have k04 := k03.then k4
  have hbx4 := hbx3.keepN k4
  have hbz4 := hbz3.keepN k4
  clear cz0 cz1 cz2 cz3 cz4 cz5 D
  have cx0 := hbx4.cell 0
  have cx1 := hbx4.cell 1
  have cx2 := hbx4.cell 2
  have D5 := Lib.hid (RecordBytes_calls ⟨A0, c0, d0, q0, B0, e0, L0⟩ (hx.keepN k04) hs0 hs1 (by have := HFT.out.1; simp only at this ⊢; omega) (fun a ha => Nat.le_trans (HFT.out.2.2 a ha) (by omega)) (by have := HFT.out.2.1; simp only at this ⊢; omega))
  have hrl := rb_len (HOK.out HFT.out)
  have hrb := rb_byt (HOK.out HFT.out)
  obtain ⟨P, hP⟩ : ∃ P, P = rb ⟨d0, q0, L0⟩ := ⟨_, rfl⟩
  rw [← hP] at hrl hrb
  simp only at D5
  rw [← hP] at D5
  have HP := Lib.hid hP
  clear hP
  go_wp2_with (fail)
  refine D5.out.mono ?_
  rintro e w5 ⟨I, ic, rfl, M5⟩
  have k05 := k04.then M5.kp
  have hbx5 := hbx4.keepN M5.kp
  have hbz5 := hbz4.keepN M5.kp
  have hI0 := M5.rd
  have hIo := M5.own.base
  clear cx0 cx1 cx2 D5
  have w4s := hbx4.lt
  have cz4 := hbz5.cell 4
  have fz4 := hbz5.free 4
  have kS : Kp (· = w.heap.size) w5 (w5.setCell ⟨w.heap.size, 4, none⟩ (.slice I P.length ic)) := (Kp.refl (· = w.heap.size) w5).setCell (p := ⟨w.heap.size, 4, none⟩) (fun _ => rfl) _
  have hbz6 : Blk (w5.setCell ⟨w.heap.size, 4, none⟩ (.slice I P.length ic)) w.heap.size #[.bool hz, .int .i32 kz, .slice Z0 b0.length s0, .slice Z1 b1.length s1, .slice I P.length ic, .slice Z3 b3.length s3] 64 := hbz5.set 4 (.slice I P.length ic)
  have hbx6 := hbx5.keep kS (by show ¬ w.heap.size + 1 = w.heap.size; omega)
  have k06 := k05.trans kS (fun i hi h => by omega)
  have k46 : Kp (· = w.heap.size) w4 (w5.setCell ⟨w.heap.size, 4, none⟩ (.slice I P.length ic)) := (M5.kp.mono (fun _ _ h => h.elim)).trans kS (fun _ _ h => h)
  have hI := hI0.keep kS (fun a ha h => by have h : a.block = _ := h; have := (hIo a.block (by rw [ha]; rfl)).1; omega)
  have H6 := Lib.hid (⟨hbz6, hbx6, k06, hI⟩ : Blk (w5.setCell ⟨w.heap.size, 4, none⟩ (.slice I P.length ic)) w.heap.size #[.bool hz, .int .i32 kz, .slice Z0 b0.length s0, .slice Z1 b1.length s1, .slice I P.length ic, .slice Z3 b3.length s3] 64 ∧ Blk (w5.setCell ⟨w.heap.size, 4, none⟩ (.slice I P.length ic)) (w.heap.size + 1) #[.slice A0 d0.length c0, .int .u64 q0, .slice B0 L0.length e0] 47 ∧ Kp no w (w5.setCell ⟨w.heap.size, 4, none⟩ (.slice I P.length ic)) ∧ Rd (w5.setCell ⟨w.heap.size, 4, none⟩ (.slice I P.length ic)) I P.length ic P)
  clear kS hbz6 hbx6 k06 k46 hI hI0 hIo
  go_upto_region 7 with (fail)
  generalize w5.setCell ⟨w.heap.size, 4, none⟩ (.slice I P.length ic) = W6 at *
  clear M5 cz4 fz4
  obtain ⟨hbz6, hbx6, k06, hI⟩ := H6.out
  have cz0 := hbz6.cell 0
  have cz1 := hbz6.cell 1
  have cz2 := hbz6.cell 2
  have cz3 := hbz6.cell 3
  have cz4 := hbz6.cell 4
  have cz5 := hbz6.cell 5
  obtain ⟨K, G, gc, G0, hK0, hK1, hG0, HR, D6⟩ : ∃ (K : Int) (G : Option Addr) (gc : Nat) (G0 : List Int), -2147483648 ≤ K ∧ K ≤ 2147483647 ∧ G0.length ≤ 300 ∧ Hid (∀ W, Rd W Z0 b0.length s0 b0 → Rd W G G0.length gc G0) ∧
      Hid (Calls Tryd.prog 48 #[.agg #[.bool hz, .int .i32 kz, .slice Z0 b0.length s0, .slice Z1 b1.length s1, .slice I P.length ic, .slice Z3 b3.length s3]] W6 fun e w' => e = .returned (.agg #[.bool hz, .int .i32 K, .slice G G0.length gc, .slice Z1 b1.length s1, .slice I P.length ic, .slice Z3 b3.length s3]) ∧ Kp no W6 w') := by
    have D2 := envelopePlain_calls (w := W6) hz kz Z0 Z1 I Z3 b0.length b1.length P.length b3.length s0 s1 ic s3
    cases hz with
    | true => exact ⟨kz, Z0, s0, b0, hrz.kr.1, hrz.kr.2, by omega, Lib.hid (fun W h => h), Lib.hid D2⟩
    | false => exact ⟨0, none, 0, [], by omega, by omega, by simp, Lib.hid (fun W _ => Rd.nil _), Lib.hid D2⟩
  go_wp2_with (fail)
  refine D6.out.mono ?_
  rintro e w7 ⟨rfl, k7⟩
  have k07 := k06.then k7
  have hI7 := hI.keepN k7
  have RG := HR.out _ (hrz.r0.keepN k07)
  have okz : EOkL ⟨hz, K, G, gc, G0, Z1, s1, b1, I, ic, P, Z3, s3, b3⟩ := ⟨hK0, hK1, RG.byt, hrz.r1.byt, hrb, hrz.r3.byt, hG0, by show b1.length ≤ 10000; omega, by show P.length ≤ 10000; omega, by show b3.length ≤ 10000; omega⟩
  have OKZ := Lib.hid okz
  have lz := eb_lenL okz
  have D7 := Lib.hid (EnvelopeBytes_gen (has := hz) hK0 hK1 RG (hrz.r1.keepN k07) hI7 (hrz.r3.keepN k07) hG0 okz.n1 okz.n2 okz.n3)
  simp only at D7
  obtain ⟨Q, hQ⟩ : ∃ Q, Q = eb ⟨hz, K, G, gc, G0, Z1, s1, b1, I, ic, P, Z3, s3, b3⟩ := ⟨_, rfl⟩
  rw [← hQ] at D7 lz
  have HQ := Lib.hid hQ
  clear hQ okz RG g0 g1 g2 g3 D6
  go_wp2_with (fail)
  refine D7.out.mono ?_
  rintro e w8 ⟨A8, c8, rfl, M8⟩
  have k08 := k07.then M8.kp
  have D8 := Lib.hid (Clone_calls M8.rd (by omega))
  have M8k := M8.kp
  clear M8 D7
  go_wp2_with (fail)
  refine D8.out.mono ?_
  rintro e w9 ⟨A9, c9, rfl, M9⟩
  have k09 := k08.then M9.kp
  have D9 := Lib.hid (EnvelopeOf_calls M9.rd (by omega) (hE.keepN k09))
  have M9k := M9.kp
  clear M9 D8
  go_wp2_with (fail)
  refine D9.out.mono ?_
  rintro e wa ⟨ka, ⟨yh, yk, Y0, t0, y0, Y1, t1, y1, Y2, t2, y2, Y3, t3, y3⟩, ok, rfl, haty, hR⟩
  rw [HQ.out] at hR
  obtain ⟨rfl, r2⟩ := ERes_one OKZ.out hR
  simp only at r2
  subst r2
  clear hR D9
  have k0a := k09.then ka
  have hq2 := haty.r2
  simp only at hq2
  have kb : Kp no wa (wa.alloc (.cells #[.bool yh, .int .i32 yk, .slice Y0 y0.length t0, .slice Y1 y1.length t1, .slice Y2 y2.length t2, .slice Y3 y3.length t3] 64)) := (Kp.refl _ _).alloc _
  have k0b := k0a.then kb
  have Db := Lib.hid (Clone_calls (hq2.keepN kb) (by omega))
  clear haty
  go_wp2_with (fail)
  refine Db.out.mono ?_
  rintro e wd ⟨Ad, cd, rfl, Md⟩
  have k0d := k0b.then Md.kp
  have Dd := Lib.hid (RecordOf_calls Md.rd (by omega) (hRE.keepN k0d))
  have Mdk := Md.kp
  clear Md Db
  go_wp2_with (fail)
  refine Dd.out.mono ?_
  rintro e we ⟨ke, ⟨V0, f0, v0, q1, V1, f1, N1⟩, ok, rfl, haty, _, _, hRR⟩
  rw [HP.out] at hRR
  obtain ⟨rfl, r0, r1, r2⟩ := RRes_one (HOK.out HFT.out) hRR
  clear hRR Dd
  simp only at r0 r1 r2
  subst r0 r1 r2
  have k0e := k0d.then ke
  have kf : Kp no we (we.alloc (.cells #[.slice V0 v0.length f0, .int .u64 q1, .slice V1 N1.length f1] 47)) := (Kp.refl _ _).alloc _
  have bb := hbx6.keepN ((((((((k7.then M8k).then M9k).then ka).then kb).then Mdk).then ke)).then kf)
  have v0' := bb.cell 0
  have v1' := bb.cell 1
  have v2' := bb.cell 2
  have t0' := haty.r
  have t1' := haty.s
  simp only at t0' t1'
  have kF := k0e.then kf
  have hR0 := hx.r
  have hS0 := hx.s
  simp only at hR0 hS0
  have DS := Lib.hid (sameRecord_same (q := q1) (t0'.keepN kf) (t1'.keepN kf) (hR0.keepN kF) (hS0.keepN kF))
  have HE9 := fun W (k : Kp no w W) => Lib.hid (envelopesLive_calls (hE.keepN k))
  clear t0' t1' haty hR0 hS0 hx HR hI7 hI hq2 hrz cz0 cz1 cz2 cz3 cz4 cz5
  go_wp2_with (fail)
  refine DS.out.mono ?_
  rintro e wE ⟨rfl, kE⟩
  have DL := HE9 _ (kF.then kE)
  go_wp2_with (first | (go_at_call 41; refine DL.out.mono ?_; rintro e wF ⟨rfl, hkF⟩))
  go_ret
  exact ⟨rfl, (kF.then kE).then hkF⟩
end Go.Proofs.YtipleaojejbkpaaDoor
