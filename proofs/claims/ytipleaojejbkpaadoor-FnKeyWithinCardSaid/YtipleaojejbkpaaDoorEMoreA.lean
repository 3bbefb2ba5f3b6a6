/- Small functions on envelopes; the reference's EnvelopeBytes. -/
import Derived.Test.YtipleaojejbkpaaDoorEMoreP
import Derived.Test.YtipleaojejbkpaaDoorSpecB
import Derived.Deep.RegionHeld3
namespace Go.Proofs.YtipleaojejbkpaaDoor
open Go Go.RowKit
set_option linter.unusedVariables false
set_option linter.unusedSimpArgs false
set_option maxRecDepth 100000

theorem zzFits14_yes {w : World} (has : Bool) (k : Int) (A0 A1 A2 A3 : Option Addr) (n0 n1 n2 n3 c0 c1 c2 c3 : Nat) (h0 : (n0 : Int) ≤ 2147483647) (h1 : (n1 : Int) ≤ 2147483647) (h2 : (n2 : Int) ≤ 2147483647) (h3 : (n3 : Int) ≤ 2147483647) :
    Calls Tryd.prog 45 #[.agg #[.bool has, .int .i32 k, .slice A0 n0 c0, .slice A1 n1 c1, .slice A2 n2 c2, .slice A3 n3 c3]] w fun e w' => e = .returned (.bool true) ∧ Kp no w w' := by
  have ka : Kp no w (w.alloc (.cells #[.bool has, .int .i32 k, .slice A0 n0 c0, .slice A1 n1 c1, .slice A2 n2 c2, .slice A3 n3 c3] 64)) := (Kp.refl _ _).alloc _
  have b0 : decide ((n0 : Int) ≤ 2147483647) = true := decide_eq_true h0
  have b1 : decide ((n1 : Int) ≤ 2147483647) = true := decide_eq_true h1
  have b2 : decide ((n2 : Int) ≤ 2147483647) = true := decide_eq_true h2
  have b3 : decide ((n3 : Int) ≤ 2147483647) = true := decide_eq_true h3
  go_enter Tryd.func45, Tryd.ntmps45
  go_wp2
  go_ret
  exact ⟨by simp [h0, h1, h2, h3, b0, b1, b2, b3], ka⟩
theorem zzFits14_no {w : World} (has : Bool) (k : Int) (A0 A1 A2 A3 : Option Addr) (n0 n1 n2 n3 c0 c1 c2 c3 : Nat) (h : ¬ ((n0 : Int) ≤ 2147483647 ∧ (n1 : Int) ≤ 2147483647 ∧ (n2 : Int) ≤ 2147483647 ∧ (n3 : Int) ≤ 2147483647)) :
    Calls Tryd.prog 45 #[.agg #[.bool has, .int .i32 k, .slice A0 n0 c0, .slice A1 n1 c1, .slice A2 n2 c2, .slice A3 n3 c3]] w fun e w' => e = .returned (.bool false) ∧ Kp no w w' := by
  have ka : Kp no w (w.alloc (.cells #[.bool has, .int .i32 k, .slice A0 n0 c0, .slice A1 n1 c1, .slice A2 n2 c2, .slice A3 n3 c3] 64)) := (Kp.refl _ _).alloc _
  have hs : (2147483647 < (n0 : Int)) ∨ ((n0 : Int) ≤ 2147483647 ∧ 2147483647 < (n1 : Int)) ∨ ((n0 : Int) ≤ 2147483647 ∧ (n1 : Int) ≤ 2147483647 ∧ 2147483647 < (n2 : Int)) ∨ ((n0 : Int) ≤ 2147483647 ∧ (n1 : Int) ≤ 2147483647 ∧ (n2 : Int) ≤ 2147483647 ∧ 2147483647 < (n3 : Int)) := by omega
  clear h
  rcases hs with h0 | ⟨h0, h1⟩ | ⟨h0, h1, h2⟩ | ⟨h0, h1, h2, h3⟩
  all_goals
    go_enter Tryd.func45, Tryd.ntmps45
    go_wp2
    go_ret
    first | exact ⟨rfl, ka⟩ | exact ⟨by simp; omega, ka⟩
theorem envelopeFits_yes {w : World} (has : Bool) (k : Int) (A0 A1 A2 A3 : Option Addr) (n0 n1 n2 n3 c0 c1 c2 c3 : Nat) (h0 : (n0 : Int) ≤ 300) (h1 : (n1 : Int) ≤ 300) (h2 : (n2 : Int) ≤ 300) (h3 : (n3 : Int) ≤ 300) :
    Calls Tryd.prog 46 #[.agg #[.bool has, .int .i32 k, .slice A0 n0 c0, .slice A1 n1 c1, .slice A2 n2 c2, .slice A3 n3 c3]] w fun e w' => e = .returned (.bool true) ∧ Kp no w w' := by
  have ka : Kp no w (w.alloc (.cells #[.bool has, .int .i32 k, .slice A0 n0 c0, .slice A1 n1 c1, .slice A2 n2 c2, .slice A3 n3 c3] 64)) := (Kp.refl _ _).alloc _
  have b0 : decide ((n0 : Int) ≤ 300) = true := decide_eq_true h0
  have b1 : decide ((n1 : Int) ≤ 300) = true := decide_eq_true h1
  have b2 : decide ((n2 : Int) ≤ 300) = true := decide_eq_true h2
  have b3 : decide ((n3 : Int) ≤ 300) = true := decide_eq_true h3
  go_enter Tryd.func46, Tryd.ntmps46
  go_wp2
  go_ret
  exact ⟨by simp [h0, h1, h2, h3, b0, b1, b2, b3], ka⟩
theorem envelopeFits_no {w : World} (has : Bool) (k : Int) (A0 A1 A2 A3 : Option Addr) (n0 n1 n2 n3 c0 c1 c2 c3 : Nat) (h : ¬ ((n0 : Int) ≤ 300 ∧ (n1 : Int) ≤ 300 ∧ (n2 : Int) ≤ 300 ∧ (n3 : Int) ≤ 300)) :
    Calls Tryd.prog 46 #[.agg #[.bool has, .int .i32 k, .slice A0 n0 c0, .slice A1 n1 c1, .slice A2 n2 c2, .slice A3 n3 c3]] w fun e w' => e = .returned (.bool false) ∧ Kp no w w' := by
  have ka : Kp no w (w.alloc (.cells #[.bool has, .int .i32 k, .slice A0 n0 c0, .slice A1 n1 c1, .slice A2 n2 c2, .slice A3 n3 c3] 64)) := (Kp.refl _ _).alloc _
  have hs : (300 < (n0 : Int)) ∨ ((n0 : Int) ≤ 300 ∧ 300 < (n1 : Int)) ∨ ((n0 : Int) ≤ 300 ∧ (n1 : Int) ≤ 300 ∧ 300 < (n2 : Int)) ∨ ((n0 : Int) ≤ 300 ∧ (n1 : Int) ≤ 300 ∧ (n2 : Int) ≤ 300 ∧ 300 < (n3 : Int)) := by omega
  clear h
  rcases hs with h0 | ⟨h0, h1⟩ | ⟨h0, h1, h2⟩ | ⟨h0, h1, h2, h3⟩
  all_goals
    go_enter Tryd.func46, Tryd.ntmps46
    go_wp2
    go_ret
    first | exact ⟨rfl, ka⟩ | exact ⟨by simp; omega, ka⟩

theorem results_cellrow {P : Program} {fn : Func} {p : Tmp} {ty : TypeId} (h : fn.results = #[.cell p ty]) (tmps : Array Value) (w : World) (g : Nat) (t : TypeId) (cs : Array Value) (d : TypeDesc)
    (hp : tmps.getD p undef = .pointer (some ⟨g, 0, none⟩)) (hg : Blk w g cs t)
    (hu : P.underlying ty = some d) (hd : (match d with | .struct _ | .array _ _ => true | _ => false) = true) (hi : (P.info? ty).map (·.size) = some cs.size) :
    (results fn tmps).run P w = .ok (.agg cs) w := results_cell_row h tmps w g t cs (0, 0) d hp hg hu hd hi
/-- An envelope without a key tells nothing of one. -/
theorem envelopePlain_calls {w : World} (has : Bool) (k : Int) (A0 A1 A2 A3 : Option Addr) (n0 n1 n2 n3 c0 c1 c2 c3 : Nat) :
    Calls Tryd.prog 48 #[.agg #[.bool has, .int .i32 k, .slice A0 n0 c0, .slice A1 n1 c1, .slice A2 n2 c2, .slice A3 n3 c3]] w fun e w' => e = .returned (.agg (if has then #[.bool has, .int .i32 k, .slice A0 n0 c0, .slice A1 n1 c1, .slice A2 n2 c2, .slice A3 n3 c3] else #[.bool false, .int .i32 0, .slice none 0 0, .slice A1 n1 c1, .slice A2 n2 c2, .slice A3 n3 c3])) ∧ Kp no w w' := by
  cases has with
  | true =>
    go_enter Tryd.func48, Tryd.ntmps48
    go_wp2
    have hb := Blk.new (w.alloc (.cells #[.bool true, .int .i32 k, .slice A0 n0 c0, .slice A1 n1 c1, .slice A2 n2 c2, .slice A3 n3 c3] 64)) #[.bool true, .int .i32 k, .slice A0 n0 c0, .slice A1 n1 c1, .slice A2 n2 c2, .slice A3 n3 c3] 64
    have ka : Kp no w ((w.alloc (.cells #[.bool true, .int .i32 k, .slice A0 n0 c0, .slice A1 n1 c1, .slice A2 n2 c2, .slice A3 n3 c3] 64)).alloc (.cells #[.bool true, .int .i32 k, .slice A0 n0 c0, .slice A1 n1 c1, .slice A2 n2 c2, .slice A3 n3 c3] 64)) := ((Kp.refl _ _).alloc _).alloc _
    rw [show (w.alloc (.cells #[.bool true, .int .i32 k, .slice A0 n0 c0, .slice A1 n1 c1, .slice A2 n2 c2, .slice A3 n3 c3] 64)).heap.size = w.heap.size + 1 from by simp] at hb
    (try simp only [Exit.inBlock, Exit.then]); refine bodyPost_ret (results_cellrow rfl _ _ (w.heap.size + 1) 64 _ _ rfl hb Tryd.underlying64 rfl infoE) rfl ?_
    exact ⟨rfl, ka⟩
  | false =>
    go_enter Tryd.func48, Tryd.ntmps48
    go_wp2
    have hb := Blk.new (w.alloc (.cells #[.bool false, .int .i32 0, .slice none 0 0, .slice A1 n1 c1, .slice A2 n2 c2, .slice A3 n3 c3] 64)) #[.bool false, .int .i32 0, .slice none 0 0, .slice A1 n1 c1, .slice A2 n2 c2, .slice A3 n3 c3] 64
    have ka : Kp no w ((w.alloc (.cells #[.bool false, .int .i32 0, .slice none 0 0, .slice A1 n1 c1, .slice A2 n2 c2, .slice A3 n3 c3] 64)).alloc (.cells #[.bool false, .int .i32 0, .slice none 0 0, .slice A1 n1 c1, .slice A2 n2 c2, .slice A3 n3 c3] 64)) := ((Kp.refl _ _).alloc _).alloc _
    rw [show (w.alloc (.cells #[.bool false, .int .i32 0, .slice none 0 0, .slice A1 n1 c1, .slice A2 n2 c2, .slice A3 n3 c3] 64)).heap.size = w.heap.size + 1 from by simp] at hb
    (try simp only [Exit.inBlock, Exit.then]); refine bodyPost_ret (results_cellrow rfl _ _ (w.heap.size + 1) 64 _ _ rfl hb Tryd.underlying64 rfl infoE) rfl ?_
    exact ⟨rfl, ka⟩

theorem sBytes_opt {w : World} {A : Option Addr} {n c : Nat} {l : List Int} (h : Rd w A n c l) (hn : n ≤ 1099511627000) (f : Int) (h0 : 0 ≤ f) (h1 : f ≤ 30) :
    Calls Tryd.prog 57 #[.int .u8 f, .slice A n c, .bool false] w (Made w (ob f l)) := by
  have hl := h.len
  by_cases hz : n = 0
  · subst hz
    have e : l = [] := List.eq_nil_of_length_eq_zero hl
    have F := Lib.hid (show Made w (ob f l) (.returned (.slice none 0 0)) w from ⟨none, 0, by rw [e]; rfl, by rw [e]; exact ⟨Own.nil _ _ _, Rd.nil _, Kp.refl _ _⟩⟩)
    clear hl e h
    go_enter Tryd.func57, Tryd.ntmps57
    go_wp2
    go_ret
    exact F.out
  · have e : ob f l = wb f l := by
      unfold ob
      rw [if_neg]
      intro hh
      rw [hh] at hl
      exact hz hl.symm
    rw [e]
    exact sBytes_calls h hn f h0 h1 false (fun hh => absurd hh hz)

set_option maxHeartbeats 8000000 in
theorem sEnvelopeBytes_calls {w : World} {has : Bool} {k : Int} {A0 A1 A2 A3 : Option Addr} {c0 c1 c2 c3 : Nat} {d0 d1 d2 d3 : List Int} (hx : EOk ⟨has, k, A0, c0, d0, A1, c1, d1, A2, c2, d2, A3, c3, d3⟩)
    (r0 : Rd w A0 d0.length c0 d0) (r1 : Rd w A1 d1.length c1 d1) (r2 : Rd w A2 d2.length c2 d2) (r3 : Rd w A3 d3.length c3 d3) :
    Calls Tryd.prog 49 #[.agg #[.bool has, .int .i32 k, .slice A0 d0.length c0, .slice A1 d1.length c1, .slice A2 d2.length c2, .slice A3 d3.length c3]] w (Made w (eb ⟨has, k, A0, c0, d0, A1, c1, d1, A2, c2, d2, A3, c3, d3⟩)) := by
  obtain ⟨hk0, hk1, hb0, hb1, hb2, hb3, hn0, hn1, hn2, hn3, hpl⟩ := hx
  simp only at hk0 hk1 hb0 hb1 hb2 hb3 hn0 hn1 hn2 hn3
  clear hpl
  have k1 : Kp no w (w.alloc (.cells #[.bool has, .int .i32 k, .slice A0 d0.length c0, .slice A1 d1.length c1, .slice A2 d2.length c2, .slice A3 d3.length c3] 64)) := (Kp.refl _ _).alloc _
  have hbk := Blk.new w #[.bool has, .int .i32 k, .slice A0 d0.length c0, .slice A1 d1.length c1, .slice A2 d2.length c2, .slice A3 d3.length c3] 64
  obtain ⟨q0, hq0⟩ : ∃ q, q = (if has then wb 1 (kb k d0) else []) := ⟨_, rfl⟩
  have hql : q0.length ≤ 400 := by
    rw [hq0]
    split
    · have := kb_len k d0; have := wb_len 1 (kb k d0); have := (vint_len (kb k d0).length).2; omega
    · simp
  have HQ := Lib.hid hq0
  obtain ⟨Z, hZ0⟩ : ∃ Z, Z = q0 ++ (ob 2 d1 ++ (ob 3 d2 ++ ob 5 d3)) := ⟨_, rfl⟩
  have hol : ∀ f (l : List Int), l.length ≤ 300 → (ob f l).length ≤ 400 := by
    intro f l hl
    unfold ob
    split
    · simp
    · have := wb_len f l; have := (vint_len l.length).2; omega
  have hZf : ([q0, ob 2 d1, ob 3 d2, ob 5 d3] : List (List Int)).flatten = Z := by rw [hZ0]; simp
  have hZs : ([q0, ob 2 d1, ob 3 d2, ob 5 d3] : List (List Int)).flatten.length ≤ 1099511627776 := by
    have := hol 2 d1 hn1; have := hol 3 d2 hn2; have := hol 5 d3 hn3
    rw [hZf, hZ0]; simp only [List.length_append]; omega
  have HZ := Lib.hid hZ0
  have HZF := Lib.hid hZf
  have HZS := Lib.hid hZs
  clear hq0 hZ0 hZf hZs hol
  cases has with
  | false =>
    go_enter Tryd.func49, Tryd.ntmps49
    go_wp2_with (fail)
    have eq0 : q0 = [] := HQ.out
    have RQ : Rd (w.alloc (.cells #[.bool false, .int .i32 k, .slice A0 d0.length c0, .slice A1 d1.length c1, .slice A2 d2.length c2, .slice A3 d3.length c3] 64)) none 0 0 q0 := by rw [eq0]; exact Rd.nil _
    clear eq0
    generalize hW : w.alloc (.cells #[.bool false, .int .i32 k, .slice A0 d0.length c0, .slice A1 d1.length c1, .slice A2 d2.length c2, .slice A3 d3.length c3] 64) = W1 at *
    have kk : Kp no w W1 := k1
    have kd : Kp no W1 W1.drew := (Kp.refl _ _).drew
    have R1 := r1.keepN kk
    have R2 := r2.keepN kk
    have R3 := r3.keepN kk
    have D1 := fun W (k : Kp no W1 W) => Lib.hid (sBytes_opt (R1.keepN k) (by omega) 2 (by omega) (by omega))
    have D2 := fun W (k : Kp no W1 W) => Lib.hid (sBytes_opt (R2.keepN k) (by omega) 3 (by omega) (by omega))
    have D3 := fun W (k : Kp no W1 W) => Lib.hid (sBytes_opt (R3.keepN k) (by omega) 5 (by omega) (by omega))
    have hS : ∀ W, Kp no W1 W → Kp no W1 W ∧ W.cell? ⟨w.heap.size, 3, none⟩ = some (.slice A1 d1.length c1) ∧ W.cell? ⟨w.heap.size, 4, none⟩ = some (.slice A2 d2.length c2) ∧ W.cell? ⟨w.heap.size, 5, none⟩ = some (.slice A3 d3.length c3) := fun W k => ⟨k, (hbk.keepN k).cell 3, (hbk.keepN k).cell 4, (hbk.keepN k).cell 5⟩
    have HS := Lib.hid hS
    clear hS
    go_region_held3 (fun W => Kp no W1 W ∧ W.cell? ⟨w.heap.size, 3, none⟩ = some (.slice A1 d1.length c1) ∧ W.cell? ⟨w.heap.size, 4, none⟩ = some (.slice A2 d2.length c2) ∧ W.cell? ⟨w.heap.size, 5, none⟩ = some (.slice A3 d3.length c3))
      ((exact HS.out _ (by first | with_reducible exact kd | with_reducible exact k4 | with_reducible exact k5 | with_reducible exact k6 | with_reducible exact k6.alloc _ | with_reducible exact k7)))
      (first
      | (go_at_call 27; refine (Concat_to (l := Z) (RdS.lit w6 24 [⟨none, 0, 0, q0⟩, ⟨A4, _, c4, ob 2 d1⟩, ⟨A5, _, c5, ob 3 d2⟩, ⟨A6, _, c6, ob 5 d3⟩] (by
          intro s hs
          simp only [List.mem_cons, List.not_mem_nil, or_false] at hs
          rcases hs with rfl | rfl | rfl | rfl
          · exact RQ.keepN k6
          · exact M4.rd.keepN (M5.kp.then M6.kp)
          · exact M5.rd.keepN M6.kp
          · exact M6.rd) (by simp)) HZS.out HZF.out).mono ?_; rintro e w7 ⟨A7, c7, rfl, M7⟩; have k7 : Kp no W1 w7 := (k6.alloc _).then M7.kp)
      | (go_at_call 57; refine (D3 w5 k5).out.mono ?_; rintro e w6 ⟨A6, c6, rfl, M6⟩; have k6 := k5.then M6.kp)
      | (go_at_call 57; refine (D2 w4 k4).out.mono ?_; rintro e w5 ⟨A5, c5, rfl, M5⟩; have k5 := k4.then M5.kp)
      | (go_at_call 57; refine (D1 _ kd).out.mono ?_; rintro e w4 ⟨A4, c4, rfl, M4⟩; have k4 := kd.then M4.kp))
    all_goals
      have eZ : eb ⟨false, k, A0, c0, d0, A1, c1, d1, A2, c2, d2, A3, c3, d3⟩ = Z := by rw [HZ.out, HQ.out]; rfl
      have F := Lib.hid (show Made w (eb ⟨false, k, A0, c0, d0, A1, c1, d1, A2, c2, d2, A3, c3, d3⟩) (.returned (.slice A7 Z.length c7)) w7 from by rw [eZ]; exact ⟨A7, c7, rfl, M7.up (kk.then (k6.alloc _))⟩)
      clear eZ
      go_wp2
      go_ret
      exact F.out
  | true =>
    have D1 := Lib.hid (sKeyBytes_calls (r0.keepN k1) (by omega) k hk0 hk1)
    go_enter Tryd.func49, Tryd.ntmps49
    go_wp2_with (fail)
    refine D1.out.mono ?_
    rintro e u2 ⟨B2, e2, rfl, M2⟩
    have hkl := kb_len k d0
    have D2 := Lib.hid (sBytes_calls M2.rd (by omega) 1 (by omega) (by omega) true (fun _ => rfl))
    go_wp2_with (fail)
    refine D2.out.mono ?_
    rintro e W1 ⟨B3, e3, rfl, M3⟩
    have eq0 : q0 = wb 1 (kb k d0) := HQ.out
    have RQ : Rd W1 B3 q0.length e3 q0 := by rw [eq0]; exact M3.rd
    have eql : (wb 1 (kb k d0)).length = q0.length := by rw [eq0]
    rw [eql]
    have kk : Kp no w W1 := k1.then (M2.kp.then M3.kp)
    replace hbk := hbk.keepN (M2.kp.then M3.kp)
    clear eq0 eql M3 D2 D1 M2
    go_wp2_with (fail)
    have kd : Kp no W1 W1.drew := (Kp.refl _ _).drew
    have R1 := r1.keepN kk
    have R2 := r2.keepN kk
    have R3 := r3.keepN kk
    have D1 := fun W (k : Kp no W1 W) => Lib.hid (sBytes_opt (R1.keepN k) (by omega) 2 (by omega) (by omega))
    have D2 := fun W (k : Kp no W1 W) => Lib.hid (sBytes_opt (R2.keepN k) (by omega) 3 (by omega) (by omega))
    have D3 := fun W (k : Kp no W1 W) => Lib.hid (sBytes_opt (R3.keepN k) (by omega) 5 (by omega) (by omega))
    have hS : ∀ W, Kp no W1 W → Kp no W1 W ∧ W.cell? ⟨w.heap.size, 3, none⟩ = some (.slice A1 d1.length c1) ∧ W.cell? ⟨w.heap.size, 4, none⟩ = some (.slice A2 d2.length c2) ∧ W.cell? ⟨w.heap.size, 5, none⟩ = some (.slice A3 d3.length c3) := fun W k => ⟨k, (hbk.keepN k).cell 3, (hbk.keepN k).cell 4, (hbk.keepN k).cell 5⟩
    have HS := Lib.hid hS
    clear hS
    go_region_held3 (fun W => Kp no W1 W ∧ W.cell? ⟨w.heap.size, 3, none⟩ = some (.slice A1 d1.length c1) ∧ W.cell? ⟨w.heap.size, 4, none⟩ = some (.slice A2 d2.length c2) ∧ W.cell? ⟨w.heap.size, 5, none⟩ = some (.slice A3 d3.length c3))
      ((exact HS.out _ (by first | with_reducible exact kd | with_reducible exact k4 | with_reducible exact k5 | with_reducible exact k6 | with_reducible exact k6.alloc _ | with_reducible exact k7)))
      (first
      | (go_at_call 27; refine (Concat_to (l := Z) (RdS.lit w6 24 [⟨B3, _, e3, q0⟩, ⟨A4, _, c4, ob 2 d1⟩, ⟨A5, _, c5, ob 3 d2⟩, ⟨A6, _, c6, ob 5 d3⟩] (by
          intro s hs
          simp only [List.mem_cons, List.not_mem_nil, or_false] at hs
          rcases hs with rfl | rfl | rfl | rfl
          · exact RQ.keepN k6
          · exact M4.rd.keepN (M5.kp.then M6.kp)
          · exact M5.rd.keepN M6.kp
          · exact M6.rd) (by simp)) HZS.out HZF.out).mono ?_; rintro e w7 ⟨A7, c7, rfl, M7⟩; have k7 : Kp no W1 w7 := (k6.alloc _).then M7.kp)
      | (go_at_call 57; refine (D3 w5 k5).out.mono ?_; rintro e w6 ⟨A6, c6, rfl, M6⟩; have k6 := k5.then M6.kp)
      | (go_at_call 57; refine (D2 w4 k4).out.mono ?_; rintro e w5 ⟨A5, c5, rfl, M5⟩; have k5 := k4.then M5.kp)
      | (go_at_call 57; refine (D1 _ kd).out.mono ?_; rintro e w4 ⟨A4, c4, rfl, M4⟩; have k4 := kd.then M4.kp))
    all_goals
      have eZ : eb ⟨true, k, A0, c0, d0, A1, c1, d1, A2, c2, d2, A3, c3, d3⟩ = Z := by rw [HZ.out, HQ.out]; rfl
      have F := Lib.hid (show Made w (eb ⟨true, k, A0, c0, d0, A1, c1, d1, A2, c2, d2, A3, c3, d3⟩) (.returned (.slice A7 Z.length c7)) w7 from by rw [eZ]; exact ⟨A7, c7, rfl, M7.up (kk.then (k6.alloc _))⟩)
      clear eZ
      go_wp2
      go_ret
      exact F.out
end Go.Proofs.YtipleaojejbkpaaDoor
