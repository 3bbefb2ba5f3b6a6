/- A small envelope as it is written; sameEnvelope, envelopesLive. -/
import Derived.Test.YtipleaojejbkpaaDoorEnvC
import Derived.Test.YtipleaojejbkpaaDoorMar
import Derived.Test.YtipleaojejbkpaaDoorLive
import Derived.Deep.RegionHeld3
namespace Go.Proofs.YtipleaojejbkpaaDoor
open Go Go.RowKit
set_option linter.unusedVariables false
set_option linter.unusedSimpArgs false
set_option maxRecDepth 100000

theorem sameEnvelope_calls {w : World} {has : Bool} {k : Int} {A0 A1 A2 A3 B0 B1 B2 B3 : Option Addr} {c0 c1 c2 c3 e0 e1 e2 e3 : Nat} {d0 d1 d2 d3 : List Int}
    (h0 : Rd w A0 d0.length c0 d0) (h1 : Rd w A1 d1.length c1 d1) (h2 : Rd w A2 d2.length c2 d2) (h3 : Rd w A3 d3.length c3 d3) (g0 : Rd w B0 d0.length e0 d0) (g1 : Rd w B1 d1.length e1 d1) (g2 : Rd w B2 d2.length e2 d2) (g3 : Rd w B3 d3.length e3 d3) :
    Calls Tryd.prog 44 #[.agg #[.bool has, .int .i32 k, .slice A0 d0.length c0, .slice A1 d1.length c1, .slice A2 d2.length c2, .slice A3 d3.length c3], .agg #[.bool has, .int .i32 k, .slice B0 d0.length e0, .slice B1 d1.length e1, .slice B2 d2.length e2, .slice B3 d3.length e3]] w
      fun e w' => e = .returned (.bool true) ∧ Kp no w w' := by
  have ka : Kp no w ((w.alloc (.cells #[.bool has, .int .i32 k, .slice A0 d0.length c0, .slice A1 d1.length c1, .slice A2 d2.length c2, .slice A3 d3.length c3] 64)).alloc (.cells #[.bool has, .int .i32 k, .slice B0 d0.length e0, .slice B1 d1.length e1, .slice B2 d2.length e2, .slice B3 d3.length e3] 64)) := ((Kp.refl _ _).alloc _).alloc _
  have D0 := Lib.hid (Equal_same (h0.keepN ka) (g0.keepN ka))
  have D1 := Lib.hid (Equal_same (h1.keepN ka) (g1.keepN ka))
  have D2 := Lib.hid (Equal_same (h2.keepN ka) (g2.keepN ka))
  have D3 := Lib.hid (Equal_same (h3.keepN ka) (g3.keepN ka))
  go_enter Tryd.func44, Tryd.ntmps44
  go_wp2_with (fail)
  refine D0.out.mono ?_
  rintro e w2 ⟨rfl, rfl⟩
  go_wp2_with (fail)
  refine D1.out.mono ?_
  rintro e w2 ⟨rfl, rfl⟩
  go_wp2_with (fail)
  refine D2.out.mono ?_
  rintro e w2 ⟨rfl, rfl⟩
  go_wp2_with (fail)
  refine D3.out.mono ?_
  rintro e w2 ⟨rfl, rfl⟩
  go_wp2
  go_ret
  exact ⟨rfl, ka⟩

set_option maxHeartbeats 2000000 in
theorem EMarshal_some {w : World} {A1 A2 A3 : Option Addr} {c1 c2 c3 : Nat} {l1 l2 : List Int} (h1 : Rd w A1 l1.length c1 l1) (h2 : Rd w A2 l2.length c2 l2) (p1 : (0 : Int) < l1.length) (p2 : (0 : Int) < l2.length) (s1 : l1.length ≤ 1000) (s2 : l2.length ≤ 1000)
    (lo1 : Lo w.heap.size A1) (lo2 : Lo w.heap.size A2) (g : Nat) (T : TypeId) (hb : Blk w g #[.pointer none, .slice A1 l1.length c1, .slice A2 l2.length c2, .slice A3 0 c3] T) :
    Calls Tryd.prog 68 #[.pointer (some ⟨g, 0, none⟩)] w (MadeOk w (wb 2 l1 ++ wb 3 l2)) := by
  have x0 := hb.cell 0
  have x1 := hb.cell 1
  have D1 := Lib.hid (AT_calls (Own.nil w 5 w.heap.size) (Nat.le_refl _) (by simp) 2 2 (by unfold tagOk; omega))
  go_enter Tryd.func68, Tryd.ntmps68
  go_wp2_with (fail)
  refine D1.out.mono ?_
  rintro e w1 ⟨B1, cc1, rfl, hM1⟩
  have k1 : Kp no w w1 := hM1.kpn (Own.nil w 5 w.heap.size) (Nat.le_refl _) (Kp.refl _ _)
  have O1 := hM1.own
  have b1 := (hb.keepN k1).cell 1
  obtain ⟨q1, hq1⟩ : ∃ q, q = ([] : List Int) ++ [2 * 8 + 2] := ⟨_, rfl⟩
  rw [← hq1] at O1
  have hl1 : q1.length ≤ 5 := by rw [hq1]; simp
  have hr1 : (([] : List Int) ++ [2 * 8 + 2]).length = q1.length := by rw [hq1]
  have D2 := Lib.hid (AB_calls O1 k1.size (by omega) (h1.keepN k1) (by omega) lo1)
  have HQ1 := Lib.hid hq1
  rw [hr1]
  clear hM1 hq1 hr1 D1
  go_wp2_with (fail)
  refine D2.out.mono ?_
  rintro e w2 ⟨B2, cc2, rfl, hM2⟩
  have k2 : Kp no w w2 := hM2.kpn O1 (Nat.le_refl _) k1
  have O2 := hM2.own
  have b2 := (hb.keepN k2).cell 2
  obtain ⟨q2, hq2⟩ : ∃ q, q = q1 ++ vint l1.length ++ l1 := ⟨_, rfl⟩
  have hr2 : (q1 ++ vint l1.length ++ l1).length = q2.length := by rw [hq2]
  rw [← hq2] at O2
  have hl2 : q2.length ≤ 1100 := by rw [hq2]; have := (vint_len l1.length).2; simp only [List.length_append]; omega
  have D3 := Lib.hid (AT_calls O2 k2.size (by omega) 3 2 (by unfold tagOk; omega))
  have HQ2 := Lib.hid hq2
  rw [hr2]
  clear hM2 hq2 hr2 D2
  go_wp2_with (fail)
  refine D3.out.mono ?_
  rintro e w3 ⟨B3, cc3, rfl, hM3⟩
  have k3 : Kp no w w3 := hM3.kpn O2 (Nat.le_refl _) k2
  have O3 := hM3.own
  have b3 := (hb.keepN k3).cell 2
  obtain ⟨q3, hq3⟩ : ∃ q, q = q2 ++ [3 * 8 + 2] := ⟨_, rfl⟩
  have hr3 : (q2 ++ [3 * 8 + 2]).length = q3.length := by rw [hq3]
  rw [← hq3] at O3
  have hl3 : q3.length ≤ 1110 := by rw [hq3]; simp only [List.length_append, List.length_cons, List.length_nil]; omega
  have D4 := Lib.hid (AB_calls O3 k3.size (by omega) (h2.keepN k3) (by omega) lo2)
  have HQ3 := Lib.hid hq3
  rw [hr3]
  clear hM3 hq3 hr3 D3
  go_wp2_with (fail)
  refine D4.out.mono ?_
  rintro e w4 ⟨B4, cc4, rfl, hM4⟩
  have k4 : Kp no w w4 := hM4.kpn O3 (Nat.le_refl _) k3
  have b4 := (hb.keepN k4).cell 3
  have e1 : wb 2 l1 ++ wb 3 l2 = q3 ++ vint l2.length ++ l2 := by rw [HQ3.out, HQ2.out, HQ1.out]; simp [wb]
  have F := Lib.hid (show MadeOk w (wb 2 l1 ++ wb 3 l2) (.returned (.tuple #[.slice B4 (q3 ++ vint l2.length ++ l2).length cc4, .nilIface])) w4 from ⟨B4, cc4, by rw [e1], by rw [e1]; exact ⟨hM4.own, hM4.rd, k4⟩⟩)
  generalize (q3 ++ vint l2.length ++ l2).length = m at *
  go_wp2
  go_ret2
  exact F.out

set_option maxHeartbeats 8000000 in
theorem EnvelopeBytes_some {w : World} {A1 A2 A3 : Option Addr} {c1 c2 c3 : Nat} {l1 l2 : List Int} (h1 : Rd w A1 l1.length c1 l1) (h2 : Rd w A2 l2.length c2 l2) (h3 : Rd w A3 0 c3 []) (p1 : (0 : Int) < l1.length) (p2 : (0 : Int) < l2.length) (s1 : l1.length ≤ 1000) (s2 : l2.length ≤ 1000) :
    Calls Tryd.prog 47 #[.agg #[.bool false, .int .i32 0, .slice none 0 0, .slice A1 l1.length c1, .slice A2 l2.length c2, .slice A3 0 c3]] w (MadeT w (wb 2 l1 ++ wb 3 l2)) := by
  have k1 : Kp no w (w.alloc (.cells #[.bool false, .int .i32 0, .slice none 0 0, .slice A1 l1.length c1, .slice A2 l2.length c2, .slice A3 0 c3] 64)) := (Kp.refl _ _).alloc _
  have hb := Blk.new w #[.bool false, .int .i32 0, .slice none 0 0, .slice A1 l1.length c1, .slice A2 l2.length c2, .slice A3 0 c3] 64
  go_enter Tryd.func47, Tryd.ntmps47
  go_wp2_with (fail)
  generalize hW : w.alloc (.cells #[.bool false, .int .i32 0, .slice none 0 0, .slice A1 l1.length c1, .slice A2 l2.length c2, .slice A3 0 c3] 64) = W1 at *
  have kd : Kp no W1 W1.drew := (Kp.refl _ _).drew
  have R1 := h1.keepN k1
  have R2 := h2.keepN k1
  have R3 := h3.keepN k1
  have D1 := fun W (k : Kp no W1 W) => Lib.hid (Clone_calls (R1.keepN k) (by omega))
  have D2 := fun W (k : Kp no W1 W) => Lib.hid (Clone_calls (R2.keepN k) (by omega))
  have D3 := fun W (k : Kp no W1 W) => Lib.hid (Clone_calls (R3.keepN k) (by omega))
  have hS : ∀ W, Kp no W1 W → Kp no W1 W ∧ W.cell? ⟨w.heap.size, 3, none⟩ = some (.slice A1 l1.length c1) ∧ W.cell? ⟨w.heap.size, 4, none⟩ = some (.slice A2 l2.length c2) ∧ W.cell? ⟨w.heap.size, 5, none⟩ = some (.slice A3 0 c3) := fun W k => ⟨k, (hb.keepN k).cell 3, (hb.keepN k).cell 4, (hb.keepN k).cell 5⟩
  have HS := Lib.hid hS
  clear hS
  go_region_held3 (fun W => Kp no W1 W ∧ W.cell? ⟨w.heap.size, 3, none⟩ = some (.slice A1 l1.length c1) ∧ W.cell? ⟨w.heap.size, 4, none⟩ = some (.slice A2 l2.length c2) ∧ W.cell? ⟨w.heap.size, 5, none⟩ = some (.slice A3 0 c3))
    ((exact HS.out _ (by first | with_reducible exact kd | with_reducible exact k4 | with_reducible exact k5 | with_reducible exact k6 | with_reducible exact k6.alloc _)))
    (first
    | (go_at_call 22; refine (D3 _ (by with_reducible exact k5)).out.mono ?_; rintro e w6 ⟨A6, c6, rfl, M6⟩; have k6 := k5.then M6.kp)
    | (go_at_call 22; refine (D2 _ (by with_reducible exact k4)).out.mono ?_; rintro e w5 ⟨A5, c5, rfl, M5⟩; have k5 := k4.then M5.kp)
    | (go_at_call 22; refine (D1 _ (by with_reducible exact kd)).out.mono ?_; rintro e w4 ⟨A4, c4, rfl, M4⟩; have k4 := kd.then M4.kp))
  all_goals
    have x0 := (hb.keepN (k6.alloc (.cells #[.pointer none, .slice A4 l1.length c4, .slice A5 l2.length c5, .slice A6 0 c6] 112))).cell 0
    have ka : Kp no w6 (w6.alloc (.cells #[.pointer none, .slice A4 l1.length c4, .slice A5 l2.length c5, .slice A6 0 c6] 112)) := (Kp.refl _ _).alloc _
    have D4 := Lib.hid (EMarshal_some (M4.rd.keepN ((M5.kp.then M6.kp).then ka)) (M5.rd.keepN (M6.kp.then ka)) p1 p2 s1 s2 (fun a ha => by have := M4.lo a ha; have := M5.kp.size; have := M6.kp.size; simp; omega) (fun a ha => by have := M5.lo a ha; have := M6.kp.size; simp; omega) w6.heap.size _ (Blk.new w6 _ _))
    go_wp2_with (fail)
    refine D4.out.mono ?_
    rintro e w7 ⟨A7, c7, rfl, M7⟩
    have hM := M7.up (k1.then (k6.then ka))
    have F := Lib.hid (show ∀ m, MadeT w (wb 2 l1 ++ wb 3 l2) (.returned (.tuple #[.slice A7 (wb 2 l1 ++ wb 3 l2).length c7, .bool true])) (w7.drewN m) from fun m => ⟨A7, c7, rfl, hM.then ((Kp.refl _ _).drewN m)⟩)
    clear hM M7 D4
    generalize (wb 2 l1 ++ wb 3 l2) = q at *
    go_wp2_with (fail)
    go_quiet (fail)
    all_goals
      go_wp2
      go_ret2
      exact F.out _

theorem elive : wb 2 [1] ++ wb 3 [2] = [18, 1, 1, 26, 1, 2] := by simp [wb, vint_1]
theorem elive_res {x : EV} {ok : Bool} (h : ERes [18, 1, 1, 26, 1, 2] x ok) : ok = true ∧ x.has = false ∧ x.d2 = [2] := by
  have a := From.step (From.start (wb 2 [1] ++ wb 3 [2])) ((wb_byt (by omega) (by omega) (Byt.one (by omega) (by omega)) (by simp)).app (wb_byt (by omega) (by omega) (Byt.one (by omega) (by omega)) (by simp))) (by simp [wb]) (hd_wb 2 [1] (wb 3 [2]) (by omega) (by omega) (by simp))
  have b := a.step (wb_byt (by omega) (by omega) (Byt.one (by omega) (by omega)) (by simp)) (by simp [wb]) (r := []) (by have := hd_wb 3 [2] [] (by omega) (by omega) (by simp); rwa [List.append_nil] at this)
  have hw := b.done
  rw [elive] at hw
  unfold ERes at h
  have e1 : efin (whole estep [18, 1, 1, 26, 1, 2] ES.zero) = .ok ⟨none, [1], [2], []⟩ := by
    rw [whole_ok hw]
    simp [fo, estep, ES.zero, efin]
  rw [e1] at h
  obtain ⟨h1, h2⟩ := h
  exact ⟨h1, h2.key.1, h2.pl⟩

set_option maxHeartbeats 4000000 in
theorem envelopesLive_calls {w : World} (hE : EErrs w) :
    Calls Tryd.prog 41 #[] w fun e w' => e = .returned (.bool true) ∧ Kp no w w' := by
  have b1 : Byt [1] := Byt.one (by omega) (by omega)
  have b2 : Byt [2] := Byt.one (by omega) (by omega)
  have b6 : Byt [18, 1, 1, 26, 1, 2] := by intro x hx; simp at hx; omega
  have ka : Kp no w (w.alloc (.cells (nums .u8 [1]).toArray 5)) := (Kp.refl _ _).alloc _
  have kb : Kp no (w.alloc (.cells (nums .u8 [1]).toArray 5)) ((w.alloc (.cells (nums .u8 [1]).toArray 5)).alloc (.cells (nums .u8 [2]).toArray 5)) := (Kp.refl _ _).alloc _
  have R1 := (Rd.lit w 5 [1] b1 (by simp)).keepN kb
  have R2 := Rd.lit (w.alloc (.cells (nums .u8 [1]).toArray 5)) 5 [2] b2 (by simp)
  have hsz : (w.alloc (.cells (nums .u8 [1]).toArray 5)).heap.size = w.heap.size + 1 := by simp
  rw [hsz] at R2
  have D1 := Lib.hid (EnvelopeBytes_some R1 R2 (Rd.empty _ none 0 (by omega)) (by simp) (by simp) (by simp) (by simp))
  rw [elive] at D1
  go_enter Tryd.func41, Tryd.ntmps41
  go_wp2_with (fail)
  refine D1.out.mono ?_
  rintro e w2 ⟨A2, c2, rfl, M2⟩
  have k2 := (ka.then kb).then M2.kp
  have kc : Kp no w2 (w2.alloc (.cells (nums .u8 [18, 1, 1, 26, 1, 2]).toArray 5)) := (Kp.refl _ _).alloc _
  have D2 := Lib.hid (EnvelopeOf_calls (Rd.lit w2 5 [18, 1, 1, 26, 1, 2] b6 (by simp)) (by simp) (hE.keepN (k2.then kc)))
  go_wp2_with (fail)
  refine D2.out.mono ?_
  rintro e w3 ⟨hk3, ⟨has, kk, X0, f0, x0, X1, f1, x1, X2, f2, x2, X3, f3, x3⟩, ok, rfl, hat, hres⟩
  obtain ⟨rfl, hhas, hpl⟩ := elive_res hres
  simp only at hhas hpl
  subst hhas hpl
  have hp2 := hat.r2
  simp only at hp2
  have k3 := (k2.then kc).then hk3
  have kx : Kp no w3 (w3.alloc (.cells #[.bool false, .int .i32 kk, .slice X0 x0.length f0, .slice X1 x1.length f1, .slice X2 1 f2, .slice X3 x3.length f3] 64)) := (Kp.refl _ _).alloc _
  have hs3 : (w3.alloc (.cells #[.bool false, .int .i32 kk, .slice X0 x0.length f0, .slice X1 x1.length f1, .slice X2 1 f2, .slice X3 x3.length f3] 64)).heap.size = w3.heap.size + 1 := by simp
  generalize hW3 : w3.alloc (.cells #[.bool false, .int .i32 kk, .slice X0 x0.length f0, .slice X1 x1.length f1, .slice X2 1 f2, .slice X3 x3.length f3] 64) = W3 at *
  have ky : Kp no W3 (W3.alloc (.cells (nums .u8 [18, 1, 1, 26, 1, 2]).toArray 5)) := (Kp.refl _ _).alloc _
  have RL := Rd.lit W3 5 [18, 1, 1, 26, 1, 2] b6 (by simp)
  have kz : Kp no (W3.alloc (.cells (nums .u8 [18, 1, 1, 26, 1, 2]).toArray 5)) ((W3.alloc (.cells (nums .u8 [18, 1, 1, 26, 1, 2]).toArray 5)).alloc (.cells (nums .u8 [2]).toArray 5)) := (Kp.refl _ _).alloc _
  have R22 := Rd.lit (W3.alloc (.cells (nums .u8 [18, 1, 1, 26, 1, 2]).toArray 5)) 5 [2] b2 (by simp)
  have hs4 : (W3.alloc (.cells (nums .u8 [18, 1, 1, 26, 1, 2]).toArray 5)).heap.size = W3.heap.size + 1 := by simp
  rw [hs4, hs3] at R22
  rw [hs3] at RL
  have D3 := Lib.hid (Equal_same (M2.rd.keepN (kc.then (hk3.then (kx.then ky)))) RL)
  have D4 := Lib.hid (Equal_same (hp2.keepN (kx.then (ky.then kz))) R22)
  have kF := k3.then (kx.then (ky.then kz))
  subst hW3
  clear hs3 hs4 RL R22
  go_wp2_with (fail)
  refine D3.out.mono ?_
  rintro e w4 ⟨rfl, rfl⟩
  go_wp2_with (fail)
  refine D4.out.mono ?_
  rintro e w5 ⟨rfl, rfl⟩
  go_wp2
  go_ret
  exact ⟨rfl, kF⟩
end Go.Proofs.YtipleaojejbkpaaDoor
