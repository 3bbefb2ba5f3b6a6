/- RecordBytes walked. -/
import Derived.Test.YtipleaojejbkpaaDoorRMar
import Derived.Test.YtipleaojejbkpaaDoorEnvE
namespace Go.Proofs.YtipleaojejbkpaaDoor
open Go Go.RowKit
set_option linter.unusedVariables false
set_option linter.unusedSimpArgs false
set_option maxRecDepth 100000

structure PCut (w : World) (d : List Int) (q : Int) (e : Value) (wx : World) (gP : Nat) (pe : Value) : Prop where
  e : e = .pointer (some ⟨gP, 0, none⟩)
  ge : w.heap.size ≤ gP
  blk : Blk wx gP #[pe, .int .u64 q, .slice none 0 0] 99
  kp : Kp no w wx
  rst : RSt wx (gP + 1) gP pe (.int .u64 q) (.slice none 0 0) ⟨d, q, []⟩

set_option maxHeartbeats 8000000 in
theorem RecordBytes_calls {w : World} (x : RV) (hx : x.At w) (hs0 : 0 ≤ x.seq) (hs1 : x.seq < 18446744073709551616) (hp : x.d.length ≤ 1000) (ha : ∀ a ∈ x.L, a.length ≤ 1000) (hn : x.L.length ≤ 1000) :
    Calls Tryd.prog 34 #[.agg x.cells] w (MadeT w (rb ⟨x.d, x.seq, x.L⟩)) := by
  obtain ⟨A, c, d, q, B, e, L⟩ := x
  obtain ⟨hR, hS⟩ := hx
  simp only at hR hS hs0 hs1 hp ha hn
  have HA := Lib.hid (show ∀ j, j < L.length → (L.getD j []).length ≤ 1000 from fun j hj => ha _ (by rw [List.getD_eq_getElem?_getD, List.getElem?_eq_getElem hj]; simp))
  have HA0 := Lib.hid ha
  clear ha
  have k1 : Kp no w (w.alloc (.cells #[.slice A d.length c, .int .u64 q, .slice B L.length e] 47)) := (Kp.refl _ _).alloc _
  have hb := Blk.new w #[.slice A d.length c, .int .u64 q, .slice B L.length e] 47
  have hw1s : w.heap.size + 1 ≤ (w.alloc (.cells #[.slice A d.length c, .int .u64 q, .slice B L.length e] 47)).heap.size := by simp
  have hcap := hS.cap
  have hmax := hS.max
  go_enter Tryd.func34, Tryd.ntmps34
  go_upto_region 1 with (fail)
  generalize hW : w.alloc (.cells #[.slice A d.length c, .int .u64 q, .slice B L.length e] 47) = W1 at *
  have kd : Kp no W1 W1.drew := (Kp.refl _ _).drew
  have R1 := hR.keepN k1
  have S1 := hS.keepN k1
  have D1 := fun W (k : Kp no W1 W) => Lib.hid (Clone_calls (R1.keepN k) (by omega))
  have HH := Lib.hid (fun W (k : Kp no W1 W) => (⟨(hb.keepN k).cell 0, (hb.keepN k).cell 1⟩ : W.cell? ⟨w.heap.size, 0, none⟩ = some (.slice A d.length c) ∧ W.cell? ⟨w.heap.size, 1, none⟩ = some (.int .u64 q)))
  go_cut [4] from 9 to 15 (fun p wx => ∃ gP pe, PCut W1 d q p wx gP pe)
  case first =>
    obtain ⟨x0, x1⟩ := HH.out _ kd
    go_region_with (first
      | (go_at_call 22; refine (D1 _ kd).out.mono ?_; rintro e w4 ⟨A4, c4, rfl, M4⟩; have k4 := kd.then M4.kp; obtain ⟨x0', x1'⟩ := HH.out _ k4))
    all_goals
      go_wp2_with (fail)
      go_meet
      case rel =>
        have ka : Kp no w4 (w4.alloc (.cells #[.slice A4 d.length c4, .int .u64 q, .slice none 0 0] 99)) := (Kp.refl _ _).alloc _
        have hs4 := M4.kp.size
        have hs4' : W1.heap.size ≤ w4.heap.size := by simpa using hs4
        have hl4 : ∀ a, A4 = some a → a.block < w4.heap.size := fun a ha => M4.lo a ha
        exact ⟨w4.heap.size, .slice A4 d.length c4, rfl, hs4', Blk.new _ _ _, (kd.then M4.kp).then ka, ⟨A4, c4, rfl, M4.rd.keepN ka, (fun a ha hs => by
            have := hl4 a ha
            rcases hs with hs | hs
            · have hs : a.block = _ := hs; omega
            · cases hs), (fun a ha => by have := hl4 a ha; have := ka.size; omega), (by show d.length ≤ _; omega)⟩, rfl, [], VOwn.nil _ _ _, trivial⟩
  case rest =>
    obtain ⟨gP, pe, rfl, hge, bP, kP, hst⟩ := hcut
    have hb2 := (hb.keepN kP).cell 2
    have hgs := bP.lt
    have HI : Hid (RSt wc (gP + 1) gP pe (.int .u64 q) (.slice none 0 0) ⟨d, q, L.take 0⟩) := Lib.hid (by simpa using hst)
    obtain ⟨wa, rfl⟩ : ∃ wa, wa = wc := ⟨_, rfl⟩
    clear hst
    go_wp2
    go_loopw [19] (fun iv wr => ∃ (k : Nat) (ad : Value), k ≤ L.length ∧ iv = .int .i64 k ∧ Blk wr gP #[pe, .int .u64 q, ad] 99 ∧ Hid (RSt wr (gP + 1) gP pe (.int .u64 q) ad ⟨d, q, L.take k⟩) ∧ Kp no W1 wr) (fun iv _ => L.length - (intOf iv).toNat)
    case atStart => exact ⟨0, _, Nat.zero_le _, rfl, bP, HI, kP⟩
    case round =>
      obtain ⟨k, ad, hk0, rfl, hbr, HST, hk⟩ := hrel
      have hks := hk.size
      have hgr := hbr.lt
      by_cases hlt : k < L.length
      · obtain ⟨g0, o0, hB0, hc⟩ := (S1.keepN hk).at_ (by omega)
        subst hB0
        obtain ⟨A', c', cu, hR'⟩ := hc k hlt
        have htk := Lib.hid (take_next L k hlt)
        have hal := HA.out k hlt
        generalize L.getD k [] = y at *
        have kdr : Kp no wr wr.drew := (Kp.refl _ _).drew
        have DC := fun W (k : Kp no wr W) => Lib.hid (Clone_calls (hR'.keepN k) (by omega))
        obtain ⟨us, hV, hPs⟩ := HST.out.ad
        have hPl := hPs.len
        have hul : us.length ≤ k := by rw [hPl]; simp; omega
        obtain ⟨VA, vc, had, _, _, _⟩ := hV.form
        have HVB := Lib.hid (fun i (hi : ad.ownBlock = some i) => (hV.base i hi))
        have HBO := Lib.hid hbr
        have o2 := (hbr.keepN kdr).cell 2
        have hbc := hbr.cell 2
        rw [had] at o2 hbc
        have HPS := Lib.hid hPs
        clear hc hR' hPl hPs
        go_wp2_with (fail)
        go_region_law (first
          | (go_simp; go_at_call 22; refine (DC _ kdr).out.mono ?_; rintro e w5 ⟨A5, c5, rfl, M5⟩; have k5 := kdr.then M5.kp; have hs5 := k5.size; have k5a : Kp no wr (w5.alloc (.cells #[.slice A5 y.length c5] 102)) := k5.alloc _; have k5b : Kp no wr ((w5.alloc (.cells #[.slice A5 y.length c5] 102)).alloc (.cells #[.pointer (some ⟨w5.heap.size, 0, none⟩)] 100)) := k5a.alloc _; have o5 := (HBO.out.keepN k5).cell 2; have o5a := (HBO.out.keepN k5a).cell 2; have o5b := (HBO.out.keepN k5b).cell 2; rw [had] at o5 o5a o5b)
          | (refine step_one_append (gP + 1) rfl (.tmp 27) (.tmp 32) 97 100 rfl Tryd.und_pAddrs (.pointer none) 8 Tryd.info_pAddr rfl (by omega) ad us (.pointer (some ⟨w5.heap.size, 0, none⟩)) (w5.heap.size + 1) had.symm rfl (by simp) rfl (hV.keepN k5b) (by simp; omega) (by omega) ?_; intro A6 c6 w6 hV6 hk6 hw6; have bE6 := (HBO.out.keepN k5b).keep hk6 (fun h => by have := HVB.out _ h; omega); have e2 := bE6.cell 2; have ef2 := bE6.free 2))
        all_goals
          go_wp2
          go_roundw
          case rel =>
            have kS : Kp (· = gP) w6 (w6.setCell ⟨gP, 2, none⟩ (.slice A6 (us.length + 1) c6)) := (Kp.refl (· = gP) w6).setCell (p := ⟨gP, 2, none⟩) (fun _ => rfl) _
            have kF := ((hk.then k5b).trans hk6 (fun i hi h => by have := HVB.out i h; omega)).trans kS (fun i hi h => by have h : i = gP := h; omega)
            have kab : Kp no w5 ((w5.alloc (.cells #[.slice A5 y.length c5] 102)).alloc (.cells #[.pointer (some ⟨w5.heap.size, 0, none⟩)] 100)) := ((Kp.refl _ _).alloc _).alloc _
            have hblk : Blk ((w5.alloc (.cells #[.slice A5 y.length c5] 102)).alloc (.cells #[.pointer (some ⟨w5.heap.size, 0, none⟩)] 100)) w5.heap.size #[.slice A5 y.length c5] 102 := (Blk.new w5 _ _).alloc _
            have hl5 : ∀ a, A5 = some a → a.block < w5.heap.size := fun a ha => M5.lo a ha
            have hfr : Fresh wr.heap.size (.slice A5 y.length c5) := fun a n c h => by have := M5.fresh a n c h; simpa using this
            have hsl : SlAt ((w5.alloc (.cells #[.slice A5 y.length c5] 102)).alloc (.cells #[.pointer (some ⟨w5.heap.size, 0, none⟩)] 100)) (· = w5.heap.size) (.slice A5 y.length c5) y :=
              ⟨A5, c5, rfl, M5.rd.keepN kab, (fun a ha hs => by have := hl5 a ha; have hs : a.block = _ := hs; omega), (fun a ha => by have := hl5 a ha; have := kab.size; omega), by omega⟩
            have hst7 := HST.out.more k5b hblk hsl hs5 hfr hgr HPS.out (fun i hi => (HVB.out i hi).2) hV6 hk6 hw6 kS (by omega)
            exact ⟨k + 1, _, by omega, by go_num, bE6.set 2 _, Lib.hid (by rw [htk.out]; exact hst7), kF⟩
          case measure => simp [intOf]; omega
      · obtain rfl : k = L.length := by omega
        have hst := HST.out
        rw [List.take_length] at hst
        have DM := Lib.hid (RMarshal_calls (st := ⟨d, q, L⟩) hbr hst hs0 hs1 hp HA0.out hn)
        clear hst
        go_wp2_with (fail)
        refine DM.out.mono ?_
        rintro e w7 ⟨A7, c7, rfl, M7⟩
        have hM := M7.up (k1.then hk)
        have F := Lib.hid (show ∀ m, MadeT w (rb ⟨d, q, L⟩) (.returned (.tuple #[.slice A7 (rb ⟨d, q, L⟩).length c7, .bool true])) (w7.drewN m) from fun m => ⟨A7, c7, rfl, hM.then ((Kp.refl _ _).drewN m)⟩)
        clear hM M7 DM
        generalize rb ⟨d, q, L⟩ = z at *
        go_wp2_with (fail)
        go_quiet (fail)
        all_goals
          go_wp2
          go_ret2
          exact F.out _
end Go.Proofs.YtipleaojejbkpaaDoor
