/- FnKeyRecordTorn walked. -/
import Derived.Test.YtipleaojejbkpaaDoorRTornP
import Derived.Test.YtipleaojejbkpaaDoorRcE
import Derived.Deep.RegionHeld3
namespace Go.Proofs.YtipleaojejbkpaaDoor
open Go Go.RowKit
set_option linter.unusedVariables false
set_option linter.unusedSimpArgs false
set_option maxRecDepth 100000

theorem Tryd.size_bytes : (Tryd.prog.info? 24).map (fun i => i.size) = some 1 := by kernel_rfl
theorem RdS.take {w : World} {A : Option Addr} {n c : Nat} {L : List (List Int)} (h : RdS w A n c L) (m : Nat) (hm : m ≤ n) : RdS w A m c (L.take m) :=
  ⟨by rw [List.length_take, h.len]; omega, by have := h.cap; omega, h.max, fun hp => by
    obtain ⟨g, o, rfl, hc⟩ := h.at_ (by omega)
    refine ⟨g, o, rfl, fun j hj => ?_⟩
    have e : (L.take m).getD j [] = L.getD j [] := by simp [List.getD_eq_getElem?_getD, List.getElem?_take, hj]
    rw [e]
    exact hc j (by omega)⟩

set_option maxHeartbeats 8000000 in
theorem fnKeyRecordTorn_calls {w : World} (x : RV) (t : Int) (hx : x.At w ∧ 0 ≤ x.seq ∧ x.seq < 18446744073709551616) (ht : 0 ≤ t ∧ t < 65536) (hE : RErrs w) :
    Calls Tryd.prog 12 #[.agg x.cells, .int .u16 t] w (LawOk w) := by
  obtain ⟨hx, hs0, hs1⟩ := hx
  have k0 : Kp no w (w.alloc (.cells x.cells 47)) := (Kp.refl _ _).alloc _
  have hb0 := Blk.new w x.cells 47
  have D1 := Lib.hid (zzFits13_calls x (hx.keepN k0))
  have HOK := Lib.hid (ROk_of hx hs0 hs1)
  obtain ⟨A0, c0, d0, q0, B0, e0, L0⟩ := x
  simp only [RV.cells] at *
  generalize hW : w.alloc (.cells #[.slice A0 d0.length c0, .int .u64 q0, .slice B0 L0.length e0] 47) = W0 at *
  have y0 := hb0.cell 0
  have y1 := hb0.cell 1
  have y2 := hb0.cell 2
  go_enter Tryd.func12, Tryd.ntmps12
  go_wp2_with (fail)
  refine D1.out.mono ?_
  rintro e w1 ⟨k1, b, rfl, hb⟩
  cases b with
  | false =>
    clear hb
    go_wp2
    go_ret
    exact ⟨rfl, k0.then k1⟩
  | true =>
    clear hb D1
    have k01 := k0.then k1
    have hb1 := hb0.keepN k1
    have z0 := hb1.cell 0
    have z1 := hb1.cell 1
    have z2 := hb1.cell 2
    have D2 := Lib.hid (recordFits_calls ⟨A0, c0, d0, q0, B0, e0, L0⟩ (hx.keepN k01))
    go_wp2_with (fail)
    refine D2.out.mono ?_
    rintro e w2 ⟨k2, b, rfl, hb⟩
    have k02 := k01.then k2
    have DL2 := Lib.hid (recordsLive_calls (hE.keepN k02))
    cases b with
    | false =>
      clear hb
      go_wp2_with (first | (go_at_call 32; refine DL2.out.mono ?_; rintro e w3 ⟨rfl, hk3⟩))
      go_ret
      exact ⟨rfl, k02.then hk3⟩
    | true =>
      have HFT := Lib.hid (hb rfl)
      clear hb D2 DL2
      have hb2 := hb1.keepN k2
      have x0 := hb2.cell 0
      have x1 := hb2.cell 1
      have x2 := hb2.cell 2
      have D4 := Lib.hid (sRecordBytes_calls ⟨A0, c0, d0, q0, B0, e0, L0⟩ (hx.keepN k02) hs0 hs1 HFT.out.1 HFT.out.2.2 HFT.out.2.1)
      have hrl := rb_len (HOK.out HFT.out)
      obtain ⟨P, hP⟩ : ∃ P, P = rb ⟨d0, q0, L0⟩ := ⟨_, rfl⟩
      rw [← hP] at hrl
      simp only at D4
      rw [← hP] at D4
      have HP := Lib.hid hP
      clear hP
      go_wp2_with (fail)
      refine D4.out.mono ?_
      rintro e w4 ⟨A4, c4, rfl, M4⟩
      have k04 := k02.then M4.kp
      have R4 := M4.rd
      have hcap4 := R4.cap
      have hmax4 := R4.max
      obtain ⟨j, hj⟩ : ∃ j : Int, j = t % ((P.length : Int) + 1) := ⟨_, rfl⟩
      have hj0 : 0 ≤ j := by have := Int.emod_nonneg t (show (P.length : Int) + 1 ≠ 0 by omega); omega
      have hj1 : j ≤ (P.length : Int) := by have := Int.emod_lt_of_pos t (show (0 : Int) < (P.length : Int) + 1 by omega); omega
      have R5 := R4.take j.toNat (by omega)
      have hcut2 := cutTo (P := Tryd.prog) Tryd.und_bytes Tryd.size_byte A4 P.length c4 .i64 j (by omega) (by omega) R4.cap
      have g1 : IntKind.i64.wrap ((P.length : Int) + 1) = (P.length : Int) + 1 := IntWalk.i64_in _ (by omega)
      have g2 : t.tmod ((P.length : Int) + 1) = j := by rw [hj]; exact Int.tmod_eq_emod_of_nonneg ht.1
      obtain ⟨U, hU⟩ : ∃ U, U = P.take j.toNat := ⟨_, rfl⟩
      rw [← hU] at R5
      have HU := Lib.hid hU
      have hUl : U.length ≤ 9000 := by have := R5.len; omega
      have D5 := Lib.hid (Clone_calls R5 (by omega))
      have M4k := M4.kp
      clear hj hU M4 D4 R4
      go_wp2_with (fail)
      refine D5.out.mono ?_
      rintro e w6 ⟨A6, c6, rfl, M6⟩
      have k06 := k04.then M6.kp
      have D7 := Lib.hid (RecordOf_calls M6.rd (by omega) (hE.keepN k06))
      have M6k := M6.kp
      clear M6 D5 hcut2
      go_wp2_with (fail)
      refine D7.out.mono ?_
      rintro e w7 ⟨k7, ⟨Y0, f0, v0, q1, Y1, f1, N1⟩, ok, rfl, haty, hv0, _, hR⟩
      rw [HU.out, HP.out] at hR
      have k07 := k06.then k7
      have kb : Kp no w7 (w7.alloc (.cells #[.slice Y0 v0.length f0, .int .u64 q1, .slice Y1 N1.length f1] 47)) := (Kp.refl _ _).alloc _
      have hby := Blk.new w7 #[.slice Y0 v0.length f0, .int .u64 q1, .slice Y1 N1.length f1] 47
      have kB := k07.then kb
      have DL7 := Lib.hid (recordsLive_calls (hE.keepN kB))
      rcases RRes_cut (HOK.out HFT.out) j.toNat hR with rfl | ⟨rfl, hp, hq, m, hm, hL⟩
      · clear hR
        go_wp2_with (first | (go_at_call 32; refine DL7.out.mono ?_; rintro e w8 ⟨rfl, hk8⟩))
        go_ret
        exact ⟨rfl, kB.then hk8⟩
      clear hR D7 DL7
      simp only at hp hq hm hL
      have hay := haty.r
      have has := haty.s
      simp only at hay has
      have hxr := hx.r
      have hxs := hx.s
      simp only at hxr hxs
      subst hL
      have hml : (L0.take m).length = m := by rw [List.length_take]; omega
      rw [hml] at has hby kb kB
      have hbr := (hb2.keepN (M4k.then (M6k.then k7))).keepN kb
      have r0 := hbr.cell 0
      have r1 := hbr.cell 1
      have r2 := hbr.cell 2
      have s0 := hby.cell 0
      have s1 := hby.cell 1
      have s2 := hby.cell 2
      have hcy := hay.cap
      have hmy := hay.max
      have hcs := has.cap
      have hms := has.max
      have hcx := hxs.cap
      have hmx := hxs.max
      have hay' := hay.keepN kb
      have has' := has.keepN kb
      have hxr' := hxr.keepN kB
      have hxs' := (hxs.keepN kB).take m hm
      have hcut5 := cutTo (P := Tryd.prog) Tryd.und_bytess Tryd.size_bytes B0 L0.length e0 .i64 m (by omega) (by omega) hcx
      have DE0 := Equal_any hay' hxr'
      have hde : decide ((m : Int) ≤ (L0.length : Int)) = true := by simp; omega
      have hmi : (m : Int) ≤ (L0.length : Int) := by omega
      clear hx hay has hxr hxs haty hcy hmy
      go_upto_region 9 with (fail)
      generalize hW7 : w7.alloc (.cells #[.slice Y0 v0.length f0, .int .u64 q1, .slice Y1 m f1] 47) = W7 at *
      go_cut [8] from 32 (fun v wx => v = .bool true ∧ wx = W7)
      case first =>
        by_cases hz : v0.length = 0
        · have hzi : ((v0.length : Int) == 0) = true := beq_iff_eq.2 (by omega)
          clear hz
          go_wp2_with (fail)
          go_meet
          case rel => exact ⟨rfl, rfl⟩
        · have hzi : ((v0.length : Int) == 0) = false := beq_eq_false_iff_ne.2 (by omega)
          have hvd : v0 = d0 := by
            rcases hp with hp | hp
            · rw [hp] at hz; exact absurd rfl hz
            · exact hp
          have DE := Lib.hid (DE0.mono fun e w' he => (show e = .returned (.bool true) ∧ _ = w' from ⟨by rw [he.1, decide_eq_true hvd], he.2⟩))
          clear hz hvd DE0
          go_wp2_with (fail)
          refine DE.out.mono ?_
          rintro e w8 ⟨rfl, rfl⟩
          go_wp2_with (fail)
          go_meet
          case rel => exact ⟨rfl, rfl⟩
      case rest =>
        obtain ⟨rfl, rfl⟩ := hcut
        go_upto_region 10 with (fail)
        go_cut [9] from 32 (fun v wx => v = .bool true ∧ wx = wc)
        case first =>
          by_cases hz : q1 = 0
          · have hzi : (q1 == 0) = true := beq_iff_eq.2 hz
            clear hz
            go_wp2_with (fail)
            go_meet
            case rel => exact ⟨rfl, rfl⟩
          · have hzi : (q1 == 0) = false := beq_eq_false_iff_ne.2 hz
            have hqq : (q1 == q0) = true := beq_iff_eq.2 (by
              rcases hq with hq | hq
              · exact absurd hq hz
              · exact hq)
            clear hz
            go_wp2_with (fail)
            go_meet
            case rel => exact ⟨rfl, rfl⟩
        case rest =>
          obtain ⟨rfl, rfl⟩ := hcut
          have kd : Kp no wc wc.drew := (Kp.refl _ _).drew
          have DE := fun W (k : Kp no wc W) => Lib.hid (EqualFunc_same (has'.keepN k) (hxs'.keepN k))
          have DL := fun W (k : Kp no wc W) => Lib.hid (recordsLive_calls (hE.keepN (kB.then k)))
          have hS : ∀ W, Kp no wc W → Kp no wc W ∧ W.cell? ⟨w7.heap.size, 2, none⟩ = some (.slice Y1 m f1) ∧ W.cell? ⟨w.heap.size, 2, none⟩ = some (.slice B0 L0.length e0) := fun W k => ⟨k, (hby.keepN k).cell 2, (hbr.keepN k).cell 2⟩
          have HS := Lib.hid hS
          clear hS DE0 has' hxs' hay' hxr' hby hbr hp hq
          go_wp2_with (fail)
          go_region_held3 (fun W => Kp no wc W ∧ W.cell? ⟨w7.heap.size, 2, none⟩ = some (.slice Y1 m f1) ∧ W.cell? ⟨w.heap.size, 2, none⟩ = some (.slice B0 L0.length e0))
            ((exact HS.out _ (by first | with_reducible exact kd | with_reducible exact kd.then k9)))
            (first
            | (go_at_call 40; refine (DE _ kd).out.mono ?_; rintro e w8 ⟨rfl, rfl⟩)
            | (go_at_call 32; refine (DL _ kd).out.mono ?_; rintro e w9 ⟨rfl, k9⟩))
          all_goals
            go_wp2
            go_ret
            exact ⟨rfl, kB.then (kd.then k9)⟩
end Go.Proofs.YtipleaojejbkpaaDoor
