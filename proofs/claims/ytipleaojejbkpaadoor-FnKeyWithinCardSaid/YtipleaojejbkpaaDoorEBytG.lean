/- EnvelopeBytes of an envelope with a key. -/
import Derived.Test.YtipleaojejbkpaaDoorEMarG
namespace Go.Proofs.YtipleaojejbkpaaDoor
open Go Go.RowKit
set_option linter.unusedVariables false
set_option linter.unusedSimpArgs false
set_option maxRecDepth 100000

/-- What stands behind the three copies, ahead of the writing. -/
structure WCut (w : World) (d1 d2 d3 : List Int) (e : Value) (wx : World) (gE : Nat) (A4 : Option Addr) (c4 : Nat) (A5 : Option Addr) (c5 : Nat) (A6 : Option Addr) (c6 : Nat) : Prop where
  e : e = .pointer (some ⟨gE, 0, none⟩)
  ge : w.heap.size ≤ gE
  blk : Blk wx gE #[.pointer none, .slice A4 d1.length c4, .slice A5 d2.length c5, .slice A6 d3.length c6] 112
  kp : Kp no w wx
  r4 : Rd wx A4 d1.length c4 d1
  r5 : Rd wx A5 d2.length c5 d2
  r6 : Rd wx A6 d3.length c6 d3
  o : ∀ a, (A4 = some a ∨ A5 = some a ∨ A6 = some a) → a.block ≠ gE ∧ a.block < wx.heap.size
/-- The key has been laid. -/
structure YCut (w : World) (k : Int) (d0 d1 d2 d3 : List Int) (wx : World) (gE : Nat) (A4 : Option Addr) (c4 : Nat) (A5 : Option Addr) (c5 : Nat) (A6 : Option Addr) (c6 : Nat) (gk b : Nat) (ad : Addr) (c7 : Nat) : Prop where
  blk : Blk wx gE #[.pointer (some ⟨gk, 0, none⟩), .slice A4 d1.length c4, .slice A5 d2.length c5, .slice A6 d3.length c6] 112
  kblk : Blk wx gk #[.pointer (some ⟨b, 0, none⟩), .slice (some ad) d0.length c7] 86
  kc : wx.cell? ⟨b, 0, none⟩ = some (.int .i32 k)
  kp : Kp no w wx
  r0 : Rd wx (some ad) d0.length c7 d0
  r4 : Rd wx A4 d1.length c4 d1
  r5 : Rd wx A5 d2.length c5 d2
  r6 : Rd wx A6 d3.length c6 d3
  o : ∀ a, (some ad = some a ∨ A4 = some a ∨ A5 = some a ∨ A6 = some a) → a.block < wx.heap.size

set_option maxHeartbeats 8000000 in
theorem EnvelopeBytes_keyG {w : World} {k : Int} {A0 A1 A2 A3 : Option Addr} {c0 c1 c2 c3 : Nat} {d0 d1 d2 d3 : List Int} (hk0 : -2147483648 ≤ k) (hk1 : k ≤ 2147483647)
    (h0 : Rd w A0 d0.length c0 d0) (h1 : Rd w A1 d1.length c1 d1) (h2 : Rd w A2 d2.length c2 d2) (h3 : Rd w A3 d3.length c3 d3) (n0 : d0.length ≤ 300) (n1 : d1.length ≤ 10000) (n2 : d2.length ≤ 10000) (n3 : d3.length ≤ 10000) :
    Calls Tryd.prog 47 #[.agg #[.bool true, .int .i32 k, .slice A0 d0.length c0, .slice A1 d1.length c1, .slice A2 d2.length c2, .slice A3 d3.length c3]] w (MadeT w (wb 1 (kb k d0) ++ (ob 2 d1 ++ (ob 3 d2 ++ ob 5 d3)))) := by
  have k1 : Kp no w (w.alloc (.cells #[.bool true, .int .i32 k, .slice A0 d0.length c0, .slice A1 d1.length c1, .slice A2 d2.length c2, .slice A3 d3.length c3] 64)) := (Kp.refl _ _).alloc _
  have hb := Blk.new w #[.bool true, .int .i32 k, .slice A0 d0.length c0, .slice A1 d1.length c1, .slice A2 d2.length c2, .slice A3 d3.length c3] 64
  have hW1 : (w.alloc (.cells #[.bool true, .int .i32 k, .slice A0 d0.length c0, .slice A1 d1.length c1, .slice A2 d2.length c2, .slice A3 d3.length c3] 64)).heap.size = w.heap.size + 1 := by simp
  go_enter Tryd.func47, Tryd.ntmps47
  go_upto_region 1 with (fail)
  generalize hW : w.alloc (.cells #[.bool true, .int .i32 k, .slice A0 d0.length c0, .slice A1 d1.length c1, .slice A2 d2.length c2, .slice A3 d3.length c3] 64) = W1 at *
  have kd : Kp no W1 W1.drew := (Kp.refl _ _).drew
  have R0 := h0.keepN k1
  have R1 := h1.keepN k1
  have R2 := h2.keepN k1
  have R3 := h3.keepN k1
  have D1 := fun W (k : Kp no W1 W) => Lib.hid (Clone_calls (R1.keepN k) (by omega))
  have D2 := fun W (k : Kp no W1 W) => Lib.hid (Clone_calls (R2.keepN k) (by omega))
  have D3 := fun W (k : Kp no W1 W) => Lib.hid (Clone_calls (R3.keepN k) (by omega))
  have hS : ∀ W, Kp no W1 W → Kp no W1 W ∧ W.cell? ⟨w.heap.size, 3, none⟩ = some (.slice A1 d1.length c1) ∧ W.cell? ⟨w.heap.size, 4, none⟩ = some (.slice A2 d2.length c2) ∧ W.cell? ⟨w.heap.size, 5, none⟩ = some (.slice A3 d3.length c3) := fun W k => ⟨k, (hb.keepN k).cell 3, (hb.keepN k).cell 4, (hb.keepN k).cell 5⟩
  have HS := Lib.hid hS
  clear hS
  go_cut [4] from 7 to 17 (fun p wx => ∃ gE A4 c4 A5 c5 A6 c6, WCut W1 d1 d2 d3 p wx gE A4 c4 A5 c5 A6 c6)
  case first =>
    go_region_held3 (fun W => Kp no W1 W ∧ W.cell? ⟨w.heap.size, 3, none⟩ = some (.slice A1 d1.length c1) ∧ W.cell? ⟨w.heap.size, 4, none⟩ = some (.slice A2 d2.length c2) ∧ W.cell? ⟨w.heap.size, 5, none⟩ = some (.slice A3 d3.length c3))
      ((exact HS.out _ (by first | with_reducible exact kd | with_reducible exact k4 | with_reducible exact k5 | with_reducible exact k6 | with_reducible exact k6.alloc _)))
      (first
      | (go_at_call 22; refine (D3 _ (by with_reducible exact k5)).out.mono ?_; rintro e w6 ⟨A6, c6, rfl, M6⟩; have k6 := k5.then M6.kp)
      | (go_at_call 22; refine (D2 _ (by with_reducible exact k4)).out.mono ?_; rintro e w5 ⟨A5, c5, rfl, M5⟩; have k5 := k4.then M5.kp)
      | (go_at_call 22; refine (D1 _ (by with_reducible exact kd)).out.mono ?_; rintro e w4 ⟨A4, c4, rfl, M4⟩; have k4 := kd.then M4.kp))
    all_goals
      go_wp2_with (fail)
      go_meet
      case rel =>
        have ka : Kp no w6 (w6.alloc (.cells #[.pointer none, .slice A4 d1.length c4, .slice A5 d2.length c5, .slice A6 d3.length c6] 112)) := (Kp.refl _ _).alloc _
        have s5 := M5.kp.size
        have s6 := M6.kp.size
        exact ⟨w6.heap.size, A4, c4, A5, c5, A6, c6, rfl, k6.size, Blk.new _ _ _, k6.then ka, M4.rd.keepN ((M5.kp.then M6.kp).then ka), M5.rd.keepN (M6.kp.then ka), M6.rd.keepN ka, fun a ha => by
          rcases ha with ha | ha | ha
          · have := M4.lo a ha; simp; omega
          · have := M5.lo a ha; simp; omega
          · have := M6.lo a ha; simp; omega⟩
  case rest =>
    obtain ⟨gE, A4, c4, A5, c5, A6, c6, rfl, hge, bE, kE, R4, R5, R6, hO⟩ := hcut
    have hbE := hb.keepN kE
    have x0 := hbE.cell 0
    have HB := Lib.hid hbE
    have HBE := Lib.hid bE
    have HO := Lib.hid hO
    have hgl := bE.lt
    obtain ⟨wa, rfl⟩ : ∃ wa, wa = wc := ⟨_, rfl⟩
    clear hO D1 D2 D3 HS
    go_upto_region 3 with (fail)
    go_cut [] from 20 to 30 (fun wx => ∃ gk b ad c7, YCut W1 k d0 d1 d2 d3 wx gE A4 c4 A5 c5 A6 c6 gk b ad c7)
    case first =>
      have kd2 : Kp no wa wa.drew := (Kp.refl _ _).drew
      have z1 := (HB.out.keepN kd2).cell 1
      have z2 := (HB.out.keepN kd2).cell 2
      have DE := fun W => Lib.hid (Enum_calls (w := W) k)
      have DP := fun W (k : Kp no wa W) => Lib.hid (present_calls ((R0.keepN kE).keepN k) (by omega))
      go_region_with (first
        | (go_at_call 67; refine (DP _ (kd2.then k8)).out.mono ?_; rintro e w9 ⟨ad, c9, rfl, M9⟩; have k9 := (kd2.then k8).then M9.kp; have bE9 := HBE.out.keepN k9; have f0 := bE9.free 0; have g0 := bE9.cell 0; have k9a : Kp no w9 (w9.alloc (.cells #[.pointer (some ⟨b, 0, none⟩), .slice (some ad) d0.length c9] 86)) := (Kp.refl _ _).alloc _; have bE9a := bE9.keepN k9a; have f0a := bE9a.free 0; have g0a := bE9a.cell 0)
        | (go_at_call 66; refine (DE _).out.mono ?_; rintro e w8 ⟨b, rfl, hbn, hbc, k8⟩; have z2' := (HB.out.keepN (kd2.then k8)).cell 2))
      all_goals
        go_wp2_with (fail)
        go_meet
        case rel =>
          have kS : Kp (· = gE) (w9.alloc (.cells #[.pointer (some ⟨b, 0, none⟩), .slice (some ad) d0.length c9] 86)) ((w9.alloc (.cells #[.pointer (some ⟨b, 0, none⟩), .slice (some ad) d0.length c9] 86)).setCell ⟨gE, 0, none⟩ (.pointer (some ⟨w9.heap.size, 0, none⟩))) := (Kp.refl (· = gE) _).setCell (p := ⟨gE, 0, none⟩) (fun _ => rfl) _
          have k09 := k9.then k9a
          have s9 := k9.size
          have s9a := kS.size
          have s8 : wa.heap.size ≤ w8.heap.size := by have := k8.size; simpa using this
          have hbn' : wa.heap.size ≤ b := by simpa using hbn
          have had : w8.heap.size ≤ ad.block ∧ ad.block < w9.heap.size := ⟨(M9.own.base ad.block rfl).1, M9.lo ad rfl⟩
          have hs10 : (w9.alloc (.cells #[.pointer (some ⟨b, 0, none⟩), .slice (some ad) d0.length c9] 86)).heap.size = w9.heap.size + 1 := by simp
          exact ⟨w9.heap.size, b, ad, c9, bE9a.set 0 _, (Blk.new w9 _ _).keep kS (by show ¬ w9.heap.size = gE; omega), kS.cell (k9a.cellN (M9.kp.cellN hbc)) (by show ¬ b = gE; omega), (kE.then k09).trans kS (fun i hi h => by have h : i = gE := h; omega),
            (M9.rd.keepN k9a).keep kS (fun a ha h => by cases ha; have h : ad.block = gE := h; omega),
            (R4.keepN k09).keep kS (fun a ha h => (HO.out a (.inl ha)).1 h), (R5.keepN k09).keep kS (fun a ha h => (HO.out a (.inr (.inl ha))).1 h), (R6.keepN k09).keep kS (fun a ha h => (HO.out a (.inr (.inr ha))).1 h), fun a ha => by
              rcases ha with ha | ha
              · cases ha; omega
              · have := (HO.out a ha).2; omega⟩
    case rest =>
      obtain ⟨gk, b, ad, c7, bF, bK, hkc, kF, Q0, Q4, Q5, Q6, hO2⟩ := hcut
      have D4 := Lib.hid (EMarshal_keyG k hk0 hk1 Q0 Q4 Q5 Q6 n0 n1 n2 n3 (fun a ha => hO2 a (.inl ha)) (fun a ha => hO2 a (.inr (.inl ha))) (fun a ha => hO2 a (.inr (.inr (.inl ha)))) (fun a ha => hO2 a (.inr (.inr (.inr ha)))) gE gk b _ bF bK hkc)
      go_wp2_with (fail)
      refine D4.out.mono ?_
      rintro e w7 ⟨A7, c7', rfl, M7⟩
      have hM := M7.up (k1.then kF)
      have F := Lib.hid (show ∀ m, MadeT w (wb 1 (kb k d0) ++ (ob 2 d1 ++ (ob 3 d2 ++ ob 5 d3))) (.returned (.tuple #[.slice A7 (wb 1 (kb k d0) ++ (ob 2 d1 ++ (ob 3 d2 ++ ob 5 d3))).length c7', .bool true])) (w7.drewN m) from fun m => ⟨A7, c7', rfl, hM.then ((Kp.refl _ _).drewN m)⟩)
      clear hM M7 D4
      generalize (wb 1 (kb k d0) ++ (ob 2 d1 ++ (ob 3 d2 ++ ob 5 d3))) = q at *
      go_wp2_with (fail)
      go_quiet (fail)
      all_goals
        go_wp2
        go_ret2
        exact F.out _
set_option maxHeartbeats 8000000 in
theorem EnvelopeBytes_non {w : World} {k : Int} {A0 A1 A2 A3 : Option Addr} {c0 c1 c2 c3 : Nat} {d0 d1 d2 d3 : List Int} 
    (h0 : Rd w A0 d0.length c0 d0) (h1 : Rd w A1 d1.length c1 d1) (h2 : Rd w A2 d2.length c2 d2) (h3 : Rd w A3 d3.length c3 d3) (n0 : d0.length ≤ 300) (n1 : d1.length ≤ 10000) (n2 : d2.length ≤ 10000) (n3 : d3.length ≤ 10000) :
    Calls Tryd.prog 47 #[.agg #[.bool false, .int .i32 k, .slice A0 d0.length c0, .slice A1 d1.length c1, .slice A2 d2.length c2, .slice A3 d3.length c3]] w (MadeT w (ob 2 d1 ++ (ob 3 d2 ++ ob 5 d3))) := by
  have k1 : Kp no w (w.alloc (.cells #[.bool false, .int .i32 k, .slice A0 d0.length c0, .slice A1 d1.length c1, .slice A2 d2.length c2, .slice A3 d3.length c3] 64)) := (Kp.refl _ _).alloc _
  have hb := Blk.new w #[.bool false, .int .i32 k, .slice A0 d0.length c0, .slice A1 d1.length c1, .slice A2 d2.length c2, .slice A3 d3.length c3] 64
  have hW1 : (w.alloc (.cells #[.bool false, .int .i32 k, .slice A0 d0.length c0, .slice A1 d1.length c1, .slice A2 d2.length c2, .slice A3 d3.length c3] 64)).heap.size = w.heap.size + 1 := by simp
  go_enter Tryd.func47, Tryd.ntmps47
  go_upto_region 1 with (fail)
  generalize hW : w.alloc (.cells #[.bool false, .int .i32 k, .slice A0 d0.length c0, .slice A1 d1.length c1, .slice A2 d2.length c2, .slice A3 d3.length c3] 64) = W1 at *
  have kd : Kp no W1 W1.drew := (Kp.refl _ _).drew
  have R0 := h0.keepN k1
  have R1 := h1.keepN k1
  have R2 := h2.keepN k1
  have R3 := h3.keepN k1
  have D1 := fun W (k : Kp no W1 W) => Lib.hid (Clone_calls (R1.keepN k) (by omega))
  have D2 := fun W (k : Kp no W1 W) => Lib.hid (Clone_calls (R2.keepN k) (by omega))
  have D3 := fun W (k : Kp no W1 W) => Lib.hid (Clone_calls (R3.keepN k) (by omega))
  have hS : ∀ W, Kp no W1 W → Kp no W1 W ∧ W.cell? ⟨w.heap.size, 3, none⟩ = some (.slice A1 d1.length c1) ∧ W.cell? ⟨w.heap.size, 4, none⟩ = some (.slice A2 d2.length c2) ∧ W.cell? ⟨w.heap.size, 5, none⟩ = some (.slice A3 d3.length c3) := fun W k => ⟨k, (hb.keepN k).cell 3, (hb.keepN k).cell 4, (hb.keepN k).cell 5⟩
  have HS := Lib.hid hS
  clear hS
  go_cut [4] from 7 to 17 (fun p wx => ∃ gE A4 c4 A5 c5 A6 c6, WCut W1 d1 d2 d3 p wx gE A4 c4 A5 c5 A6 c6)
  case first =>
    go_region_held3 (fun W => Kp no W1 W ∧ W.cell? ⟨w.heap.size, 3, none⟩ = some (.slice A1 d1.length c1) ∧ W.cell? ⟨w.heap.size, 4, none⟩ = some (.slice A2 d2.length c2) ∧ W.cell? ⟨w.heap.size, 5, none⟩ = some (.slice A3 d3.length c3))
      ((exact HS.out _ (by first | with_reducible exact kd | with_reducible exact k4 | with_reducible exact k5 | with_reducible exact k6 | with_reducible exact k6.alloc _)))
      (first
      | (go_at_call 22; refine (D3 _ (by with_reducible exact k5)).out.mono ?_; rintro e w6 ⟨A6, c6, rfl, M6⟩; have k6 := k5.then M6.kp)
      | (go_at_call 22; refine (D2 _ (by with_reducible exact k4)).out.mono ?_; rintro e w5 ⟨A5, c5, rfl, M5⟩; have k5 := k4.then M5.kp)
      | (go_at_call 22; refine (D1 _ (by with_reducible exact kd)).out.mono ?_; rintro e w4 ⟨A4, c4, rfl, M4⟩; have k4 := kd.then M4.kp))
    all_goals
      go_wp2_with (fail)
      go_meet
      case rel =>
        have ka : Kp no w6 (w6.alloc (.cells #[.pointer none, .slice A4 d1.length c4, .slice A5 d2.length c5, .slice A6 d3.length c6] 112)) := (Kp.refl _ _).alloc _
        have s5 := M5.kp.size
        have s6 := M6.kp.size
        exact ⟨w6.heap.size, A4, c4, A5, c5, A6, c6, rfl, k6.size, Blk.new _ _ _, k6.then ka, M4.rd.keepN ((M5.kp.then M6.kp).then ka), M5.rd.keepN (M6.kp.then ka), M6.rd.keepN ka, fun a ha => by
          rcases ha with ha | ha | ha
          · have := M4.lo a ha; simp; omega
          · have := M5.lo a ha; simp; omega
          · have := M6.lo a ha; simp; omega⟩
  case rest =>
    obtain ⟨gE, A4, c4, A5, c5, A6, c6, rfl, hge, bE, kE, R4, R5, R6, hO⟩ := hcut
    have hbE := hb.keepN kE
    have x0 := hbE.cell 0
    have HB := Lib.hid hbE
    have HBE := Lib.hid bE
    have HO := Lib.hid hO
    have hgl := bE.lt
    obtain ⟨wa, rfl⟩ : ∃ wa, wa = wc := ⟨_, rfl⟩
    clear hO D1 D2 D3 HS
    have D4 := Lib.hid (EMarshal_non R4 R5 R6 n1 n2 n3 (fun a ha => (HO.out a (.inl ha)).2) (fun a ha => (HO.out a (.inr (.inl ha))).2) (fun a ha => (HO.out a (.inr (.inr ha))).2) gE _ bE)
    go_wp2_with (fail)
    refine D4.out.mono ?_
    rintro e w7 ⟨A7, c7', rfl, M7⟩
    have hM := M7.up (k1.then kE)
    have F := Lib.hid (show ∀ m, MadeT w (ob 2 d1 ++ (ob 3 d2 ++ ob 5 d3)) (.returned (.tuple #[.slice A7 (ob 2 d1 ++ (ob 3 d2 ++ ob 5 d3)).length c7', .bool true])) (w7.drewN m) from fun m => ⟨A7, c7', rfl, hM.then ((Kp.refl _ _).drewN m)⟩)
    clear hM M7 D4
    generalize (ob 2 d1 ++ (ob 3 d2 ++ ob 5 d3)) = q at *
    go_wp2_with (fail)
    go_quiet (fail)
    all_goals
      go_wp2
      go_ret2
      exact F.out _
theorem EnvelopeBytes_gen {w : World} {has : Bool} {k : Int} {A0 A1 A2 A3 : Option Addr} {c0 c1 c2 c3 : Nat} {d0 d1 d2 d3 : List Int} (hk0 : -2147483648 ≤ k) (hk1 : k ≤ 2147483647)
    (h0 : Rd w A0 d0.length c0 d0) (h1 : Rd w A1 d1.length c1 d1) (h2 : Rd w A2 d2.length c2 d2) (h3 : Rd w A3 d3.length c3 d3) (n0 : d0.length ≤ 300) (n1 : d1.length ≤ 10000) (n2 : d2.length ≤ 10000) (n3 : d3.length ≤ 10000) :
    Calls Tryd.prog 47 #[.agg #[.bool has, .int .i32 k, .slice A0 d0.length c0, .slice A1 d1.length c1, .slice A2 d2.length c2, .slice A3 d3.length c3]] w (MadeT w (eb ⟨has, k, A0, c0, d0, A1, c1, d1, A2, c2, d2, A3, c3, d3⟩)) := by
  cases has with
  | true => exact EnvelopeBytes_keyG hk0 hk1 h0 h1 h2 h3 n0 n1 n2 n3
  | false => exact EnvelopeBytes_non h0 h1 h2 h3 n0 n1 n2 n3
end Go.Proofs.YtipleaojejbkpaaDoor
