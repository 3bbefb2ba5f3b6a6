/- Whether records are short: zzFits13, recordFits. The reference's RecordBytes. -/
import Derived.Test.YtipleaojejbkpaaDoorRcC
import Derived.Test.YtipleaojejbkpaaDoorEMoreA
namespace Go.Proofs.YtipleaojejbkpaaDoor
open Go Go.RowKit
set_option linter.unusedVariables false
set_option linter.unusedSimpArgs false
set_option maxRecDepth 100000

/-- A Boolean is told; if it is true, so is the sentence. -/
def Tells (p : Prop) (e : Ending) : Prop := ∃ b, e = .returned (.bool b) ∧ (b = true → p)
theorem Tells.no (p : Prop) : Tells p (.returned (.bool false)) := ⟨false, rfl, fun h => by cases h⟩
theorem Tells.yes {p : Prop} (h : p) : Tells p (.returned (.bool true)) := ⟨true, rfl, fun _ => h⟩

set_option maxHeartbeats 1000000 in
theorem zzFits4_calls {w : World} {A : Option Addr} {n c : Nat} {L : List (List Int)} (h : RdS w A n c L) :
    Calls Tryd.prog 59 #[.slice A n c] w fun e w' => w = w' ∧ Tells (n ≤ 2147483647) e := by
  have hcap := h.cap
  have hmax := h.max
  by_cases hn : 2147483647 < (n : Int)
  · clear h
    go_enter Tryd.func59, Tryd.ntmps59
    go_wp2
    go_ret
    exact ⟨rfl, Tells.no _⟩
  go_enter Tryd.func59, Tryd.ntmps59
  go_wp2
  go_loop [10] (fun i => ∃ k : Nat, k ≤ n ∧ i = .int .i64 k) (fun i => n - (intOf i).toNat)
  case atStart => exact ⟨0, Nat.zero_le _, rfl⟩
  case round =>
    obtain ⟨k, hk, rfl⟩ := hrel
    by_cases hlt : k < n
    · obtain ⟨g, o, rfl, hc⟩ := h.at_ (by omega)
      obtain ⟨A', c', h1, h2⟩ := hc k hlt
      have hm := h2.cap
      have hm2 := h2.max
      clear hc h2
      generalize (L.getD k []).length = m at *
      by_cases hb : 2147483647 < (m : Int)
      · go_wp2
        go_ret
        exact ⟨rfl, Tells.no _⟩
      · go_wp2
        go_round
        case rel => exact ⟨k + 1, by omega, by go_num⟩
        case measure => simp [intOf]; omega
    · obtain rfl : k = n := by omega
      go_wp2
      go_ret
      exact ⟨rfl, Tells.yes (by omega)⟩

set_option maxHeartbeats 1000000 in
theorem zzFits13_calls {w : World} (x : RV) (h : x.At w) :
    Calls Tryd.prog 30 #[.agg x.cells] w fun e w' => Kp no w w' ∧ Tells (x.d.length ≤ 2147483647 ∧ x.L.length ≤ 2147483647) e := by
  obtain ⟨A, c, d, q, B, e, L⟩ := x
  obtain ⟨hR, hS⟩ := h
  simp only at hR hS
  have ka : Kp no w (w.alloc (.cells #[.slice A d.length c, .int .u64 q, .slice B L.length e] 47)) := (Kp.refl _ _).alloc _
  have D := Lib.hid (zzFits4_calls (hS.keepN ka))
  have hc1 := hR.cap
  have hc2 := hR.max
  have hc3 := hS.cap
  have hc4 := hS.max
  clear hR hS
  by_cases hn : 2147483647 < (d.length : Int)
  · go_enter Tryd.func30, Tryd.ntmps30
    go_wp2
    go_ret
    exact ⟨ka, Tells.no _⟩
  go_enter Tryd.func30, Tryd.ntmps30
  go_wp2_with (fail)
  refine D.out.mono ?_
  rintro e w2 ⟨rfl, b, rfl, hb⟩
  cases b with
  | true =>
    have hL := hb rfl
    clear hb
    go_wp2
    go_ret
    exact ⟨ka, Tells.yes ⟨by show d.length ≤ _; omega, hL⟩⟩
  | false =>
    clear hb
    go_wp2
    go_ret
    exact ⟨ka, Tells.no _⟩

set_option maxHeartbeats 1000000 in
theorem recordFits1_calls {w : World} {A : Option Addr} {n c : Nat} (hn : n ≤ c) (hc : c ≤ 9223372036854775807) :
    Calls Tryd.prog 61 #[.slice A n c] w fun e w' => e = .returned (.bool (decide (300 < (n : Int)))) ∧ w = w' := by
  go_enter Tryd.func61, Tryd.ntmps61
  go_wp2
  go_ret
  exact ⟨by simp, rfl⟩

set_option maxHeartbeats 1000000 in
theorem IndexFunc_calls {w : World} {A : Option Addr} {n c : Nat} {L : List (List Int)} (h : RdS w A n c L) :
    Calls Tryd.prog 75 #[.slice A n c, .func (.func 61) #[] #[]] w fun e w' => w = w' ∧ ∃ r : Int, e = .returned (.int .i64 r) ∧ -1 ≤ r ∧ r ≤ 9223372036854775807 ∧ (r < 0 → ∀ j, j < n → (L.getD j []).length ≤ 300) := by
  have hcap := h.cap
  have hmax := h.max
  go_enter Tryd.func75, Tryd.ntmps75
  go_wp2
  go_loop [8] (fun i => ∃ k : Nat, k ≤ n ∧ i = .int .i64 k ∧ Hid (∀ j, j < k → (L.getD j []).length ≤ 300)) (fun i => n - (intOf i).toNat)
  case atStart => exact ⟨0, Nat.zero_le _, rfl, Lib.hid (fun j hj => absurd hj (by omega))⟩
  case round =>
    obtain ⟨k, hk, rfl, HJ⟩ := hrel
    by_cases hlt : k < n
    · obtain ⟨g, o, rfl, hc⟩ := h.at_ (by omega)
      obtain ⟨A', c', h1, h2⟩ := hc k hlt
      have D := Lib.hid (recordFits1_calls (w := w) (A := A') h2.cap h2.max)
      clear hc h2
      have HY := Lib.hid (rfl : (L.getD k []).length = (L.getD k []).length)
      obtain ⟨m, hm⟩ : ∃ m, m = (L.getD k []).length := ⟨_, rfl⟩
      rw [← hm] at h1 D
      have HM := Lib.hid hm
      clear hm HY
      go_wp2_with (fail)
      refine D.out.mono ?_
      rintro e w2 ⟨rfl, rfl⟩
      by_cases hb : 300 < (m : Int)
      · go_wp2
        go_ret
        exact ⟨rfl, k, rfl, by omega, by omega, fun h => by omega⟩
      · have hb2 : decide (300 < (m : Int)) = false := by simp; omega
        go_wp2
        go_round
        case rel => exact ⟨k + 1, by omega, by go_num, Lib.hid (fun j hj => by
            rcases Nat.lt_or_ge j k with hj2 | hj2
            · exact HJ.out j hj2
            · obtain rfl : j = k := by omega
              rw [← HM.out]; omega)⟩
        case measure => simp [intOf]; omega
    · obtain rfl : k = n := by omega
      go_wp2
      go_ret
      exact ⟨rfl, -1, rfl, by omega, by omega, fun _ => HJ.out⟩

set_option maxHeartbeats 1000000 in
theorem recordFits_calls {w : World} (x : RV) (h : x.At w) :
    Calls Tryd.prog 31 #[.agg x.cells] w fun e w' => Kp no w w' ∧ Tells (x.d.length ≤ 300 ∧ x.L.length ≤ 20 ∧ ∀ a ∈ x.L, a.length ≤ 300) e := by
  obtain ⟨A, c, d, q, B, e, L⟩ := x
  obtain ⟨hR, hS⟩ := h
  simp only at hR hS
  have ka : Kp no w (w.alloc (.cells #[.slice A d.length c, .int .u64 q, .slice B L.length e] 47)) := (Kp.refl _ _).alloc _
  have hc1 := hR.cap
  have hc2 := hR.max
  have hc3 := hS.cap
  have hc4 := hS.max
  have hI := IndexFunc_calls (hS.keepN ka)
  have D : Calls Tryd.prog 60 #[.slice B L.length e, .func (.func 61) #[] #[]] (w.alloc (.cells #[.slice A d.length c, .int .u64 q, .slice B L.length e] 47)) fun e' w' => w.alloc (.cells #[.slice A d.length c, .int .u64 q, .slice B L.length e] 47) = w' ∧ ∃ b, e' = .returned (.bool b) ∧ (b = false → ∀ a ∈ L, a.length ≤ 300) := by
    have HI := Lib.hid hI
    clear hI hR hS
    generalize w.alloc (.cells #[.slice A d.length c, .int .u64 q, .slice B L.length e] 47) = W at *
    go_enter Tryd.func60, Tryd.ntmps60
    go_wp2_with (fail)
    refine HI.out.mono ?_
    rintro e' w2 ⟨rfl, r, rfl, hr0, hr1, hr⟩
    have HR := Lib.hid hr
    clear hr
    by_cases hz : r < 0
    · have hz2 : decide (0 ≤ r) = false := by simp; omega
      go_wp2
      go_ret
      exact ⟨rfl, false, by simp, fun _ a ha => by
        obtain ⟨j, hj, rfl⟩ := List.getElem_of_mem ha
        have := HR.out hz j hj
        rwa [List.getD_eq_getElem?_getD, List.getElem?_eq_getElem hj] at this⟩
    · have hz2 : decide (0 ≤ r) = true := by simp; omega
      have hz3 : 0 ≤ r := by omega
      go_wp2
      go_ret
      exact ⟨rfl, true, by simp, fun h => by cases h⟩
  have HD := Lib.hid D
  clear D hI hR hS
  by_cases h1 : (d.length : Int) ≤ 300
  · by_cases h2 : (L.length : Int) ≤ 20
    · have e1 : decide ((d.length : Int) ≤ 300) = true := by simpa using h1
      have e2 : decide ((L.length : Int) ≤ 20) = true := by simpa using h2
      go_enter Tryd.func31, Tryd.ntmps31
      go_wp2_with (fail)
      refine HD.out.mono ?_
      rintro e' w2 ⟨rfl, b, rfl, hb⟩
      have HB := Lib.hid hb
      clear hb
      cases b with
      | false =>
        go_wp2
        go_ret
        exact ⟨ka, Tells.yes ⟨by show d.length ≤ _; omega, by show L.length ≤ _; omega, HB.out (by simp)⟩⟩
      | true =>
        go_wp2
        go_ret
        exact ⟨ka, Tells.no _⟩
    · have e1 : decide ((d.length : Int) ≤ 300) = true := by simpa using h1
      have e2 : decide ((L.length : Int) ≤ 20) = false := by simp; omega
      have h3 : 20 < (L.length : Int) := by omega
      clear h2
      go_enter Tryd.func31, Tryd.ntmps31
      go_wp2
      go_ret
      exact ⟨ka, Tells.no _⟩
  · have e1 : decide ((d.length : Int) ≤ 300) = false := by simp; omega
    have h3 : 300 < (d.length : Int) := by omega
    clear h1
    go_enter Tryd.func31, Tryd.ntmps31
    go_wp2
    go_ret
    exact ⟨ka, Tells.no _⟩
end Go.Proofs.YtipleaojejbkpaaDoor
namespace Go.Proofs.YtipleaojejbkpaaDoor
open Go Go.RowKit
set_option linter.unusedVariables false
set_option linter.unusedSimpArgs false
set_option maxRecDepth 100000

section
variable {P : Program} {ops : Array Oper} {o : Oper} {a : Act} {K : Act → World → Prop} {E : Prop}
/-- 'append(v, ys...)' as a step of a region that draws. -/
theorem step_own_append {W : World} (B : Nat) (hgd : o.guard = none) (s x : Operand) (t e : TypeId)
    (ho : o.op = .call { callee := .builtin .append, args := #[s, x], argTypes := #[t, t] })
    (ht : P.underlying t = some (.slice e)) (hinfo : (P.info? e).map (fun i => (i.zero, i.size, i.bytes)) = some (some (.int .u8 0), 1, 1))
    (v : Value) (l ys : List Int) (A : Option Addr) (m c : Nat) (hs : a.eval s = v) (hx : a.eval x = .slice A m c)
    (HO : Own W e B v l) (HR : Rd W A m c ys) (hB : B ≤ W.heap.size) (hl : l.length + m ≤ 140737488355328) {Q : Exit → Act → World → Prop}
    (h : ∀ v1 w1, Own w1 e B v1 (l ++ ys) → Kp (Of v) W w1 → Went W v v1 → K (a.put o.dst v1) w1) :
    if Region.wanted o (yielded ops a.tmps) = true then Oper.wp P o a W K Q else E := by
  have hw : Region.wanted o (yielded ops a.tmps) = true := by simp [Region.wanted, hgd]
  rw [if_pos hw]
  obtain ⟨v1, w1, hr, hown, hg, hat, hnn⟩ := run_own_append (P := P) B t e o.type ht hinfo v l ys A m c HO HR hB hl
  unfold Oper.wp execOp
  simp only [ho, resolve, invoke, builtin, Sem.run_bind, Sem.run_pure, Result.andThen_ok, List.map_toArray, List.map_cons, List.map_nil, hs, hx, hr]
  exact h v1 w1 hown ((Kp.refl _ _).grown hg fun k hk _ => hk) hat
end

set_option maxHeartbeats 8000000 in
theorem sRecordBytes_calls {w : World} (x : RV) (hx : x.At w) (hs0 : 0 ≤ x.seq) (hs1 : x.seq < 18446744073709551616) (hp : x.d.length ≤ 300) (ha : ∀ a ∈ x.L, a.length ≤ 300) (hn : x.L.length ≤ 20) :
    Calls Tryd.prog 38 #[.agg x.cells] w (Made w (rb ⟨x.d, x.seq, x.L⟩)) := by
  obtain ⟨A, c, d, q, B, e, L⟩ := x
  obtain ⟨hR, hS⟩ := hx
  simp only at hR hS hs0 hs1 hp ha hn
  have HA := Lib.hid (show ∀ j, j < L.length → (L.getD j []).length ≤ 300 from fun j hj => ha _ (by rw [List.getD_eq_getElem?_getD, List.getElem?_eq_getElem hj]; simp))
  clear ha
  have k1 : Kp no w (w.alloc (.cells #[.slice A d.length c, .int .u64 q, .slice B L.length e] 47)) := (Kp.refl _ _).alloc _
  have hb := Blk.new w #[.slice A d.length c, .int .u64 q, .slice B L.length e] 47
  have hcap := hS.cap
  have hmax := hS.max
  have D1 := Lib.hid (sBytes_opt (hR.keepN k1) (by omega) 1 (by omega) (by omega))
  go_enter Tryd.func38, Tryd.ntmps38
  go_wp2_with (fail)
  have hW1 : (w.alloc (.cells #[.slice A d.length c, .int .u64 q, .slice B L.length e] 47)).heap.size = w.heap.size + 1 := by simp
  have S1 := hS.keepN k1
  generalize w.alloc (.cells #[.slice A d.length c, .int .u64 q, .slice B L.length e] 47) = W1 at *
  refine D1.out.mono ?_
  rintro e' w2 ⟨A2, c2, rfl, M2⟩
  have O2 := M2.own
  have k2 := M2.kp
  have y1 := (hb.keepN k2).cell 1
  have HB2 := Lib.hid hb
  have hl1 : (ob 1 d).length ≤ 400 := by have := ob_len (f := 1) d; omega
  obtain ⟨p1, hp1⟩ : ∃ p, p = ob 1 d := ⟨_, rfl⟩
  rw [← hp1] at O2 hl1
  have HP1 := Lib.hid hp1
  rw [← hp1]
  clear hp1 M2 D1
  go_upto_if 11 with (fail)
  go_cut [3] from 6 (fun v wx => SoFar W1 (p1 ++ sqb q) v wx)
  case first =>
    by_cases hz : q = 0
    · have HZ := Lib.hid (show sqb q = [] from by unfold sqb; rw [if_pos hz])
      have hz2 : ¬ (0 : Int) < q := by omega
      clear hz
      go_wp2_with (fail)
      go_meet
      case rel => rw [HZ.out, List.append_nil]; exact ⟨A2, c2, rfl, O2, k2⟩
    · have HZ := Lib.hid (show sqb q = [16] ++ vint q from by unfold sqb; rw [if_neg hz])
      have hz2 : (0 : Int) < q := by omega
      clear hz
      have kd : Kp no w2 w2.drew := (Kp.refl _ _).drew
      have ka : Kp no w2 (w2.alloc (.cells #[.int .u8 16] 5)) := (Kp.refl _ _).alloc _
      have kda : Kp no w2 (w2.alloc (.cells #[.int .u8 16] 5)).drew := ka.drew
      have x1 := (HB2.out.keepN (k2.then kd)).cell 1
      have x1a := (HB2.out.keepN (k2.then ka)).cell 1
      have DV := fun W => Lib.hid (sVarint_calls (w := W) q hs0 hs1)
      have hvl := (vint_len q).2
      have hks := k2.size
      have HO := Lib.hid O2
      have HOB := Lib.hid (fun i (h : (Value.slice A2 p1.length c2).ownBlock = some i) => (O2.base i h).1)
      have R16 : Rd (w2.alloc (.cells #[.int .u8 16] 5)).drew (some ⟨w2.heap.size, 0, none⟩) 1 1 [16] := (Rd.lit w2 5 [16] (Byt.one (by omega) (by omega)) (by simp)).keepN ((Kp.refl _ _).drew)
      go_wp2_with (fail)
      go_region_law (first
        | (go_simp; go_at_call 56; refine (DV w3).out.mono ?_; rintro e w4 ⟨A4, c4, rfl, M4⟩)
        | (refine step_own_append W1.heap.size rfl (.tmp 14) (.tmp 17) 24 5 rfl Tryd.und_bytes Tryd.info_byte v3 (p1 ++ [16]) (vint q) A4 (vint q).length c4 rfl rfl (O3.keepN M4.kp) M4.rd (Nat.le_trans k3.size M4.kp.size) (by simp; omega) ?_; intro v5 w5 O5 hk5 hw5)
        | (refine step_own_append W1.heap.size rfl (.tmp 12) (.tmp 13) 24 5 rfl Tryd.und_bytes Tryd.info_byte (.slice A2 p1.length c2) p1 [16] (some ⟨w2.heap.size, 0, none⟩) 1 1 rfl rfl (HO.out.keepN kda) R16 (by simp; omega) (by simp; omega) ?_; intro v3 w3 O3 hk3 hw3; have k3 : Kp no W1 w3 := (k2.then kda).own (HO.out.keepN kda) (Nat.le_refl _) hk3; have x1c := ((HB2.out.keepN k3).cell 1)))
      all_goals
        have k4 := k3.then M4.kp
        have k5 : Kp no W1 w5 := k4.own (O3.keepN M4.kp) (Nat.le_refl _) hk5
        obtain ⟨A5, c5, rfl, _, _⟩ := O5.rd
        have F := Lib.hid (show SoFar W1 (p1 ++ sqb q) (.slice A5 (p1 ++ [16] ++ vint q).length c5) w5 from by
          have e1 : p1 ++ sqb q = p1 ++ [16] ++ vint q := by rw [HZ.out]; simp
          rw [e1]; exact ⟨A5, c5, rfl, O5, k5⟩)
        generalize (p1 ++ [16] ++ vint q).length = m at *
        go_wp2_with (fail)
        go_meet
        case rel => exact F.out
  case rest =>
    obtain ⟨B2, cc2, rfl, O3, k3⟩ := hcut
    have y2 := (HB2.out.keepN k3).cell 2
    have hl2 : (p1 ++ sqb q).length ≤ 500 := by have := sqb_len q; simp only [List.length_append]; omega
    obtain ⟨p2, hp2⟩ : ∃ p, p = p1 ++ sqb q := ⟨_, rfl⟩
    rw [← hp2] at O3 hl2
    have HP2 := Lib.hid hp2
    rw [← hp2]
    clear hp2 y1 O2 k2
    have HI : Hid (p2 = p2 ++ ras (L.take 0)) := Lib.hid (by simp [ras])
    obtain ⟨wb0, rfl⟩ : ∃ wb0, wb0 = wc := ⟨_, rfl⟩
    go_wp2
    go_loopw [3, 22] (fun v iv wr => ∃ (k : Nat) (z : List Int) (B3 : Option Addr) (c3 : Nat), k ≤ L.length ∧ iv = .int .i64 k ∧ v = .slice B3 z.length c3 ∧ Own wr 5 W1.heap.size (.slice B3 z.length c3) z ∧ Kp no W1 wr ∧ z.length ≤ 2000 + 1100 * k ∧ Hid (z = p2 ++ ras (L.take k))) (fun _ iv _ => L.length - (intOf iv).toNat)
    case atStart => exact ⟨0, p2, B2, cc2, Nat.zero_le _, rfl, rfl, O3, k3, by omega, HI⟩
    case round =>
      obtain ⟨k, z, B3, c3, hk0, rfl, rfl, O4, k4, hzl, HQ⟩ := hrel
      by_cases hlt : k < L.length
      · obtain ⟨g0, o0, hB0, hc⟩ := (S1.keepN k4).at_ (by omega)
        subst hB0
        obtain ⟨A', c', cu, hR'⟩ := hc k hlt
        have hra := Lib.hid (ras_next L k hlt)
        have hal := HA.out k hlt
        generalize L.getD k [] = y at *
        have D2 := Lib.hid (sBytes_opt hR' (by omega) 1 (by omega) (by omega))
        clear hc hR'
        go_wp2_with (fail)
        refine D2.out.mono ?_
        rintro e5 w5 ⟨A5, c5, rfl, M5⟩
        have ho := ob_len (f := 1) y
        have k5 := k4.then M5.kp
        obtain ⟨p3, hp3⟩ : ∃ p, p = ob 1 y := ⟨_, rfl⟩
        rw [← hp3] at M5 ho
        have HP3 := Lib.hid hp3
        rw [← hp3]
        clear hp3
        have D3 := Lib.hid (sBytes_calls M5.rd (by omega) 3 (by omega) (by omega) true (fun _ => rfl))
        go_wp2_with (fail)
        refine D3.out.mono ?_
        rintro e6 w6 ⟨A6, c6, rfl, M6⟩
        have k6 := k5.then M6.kp
        have O6 := O4.keepN (M5.kp.then M6.kp)
        have hwl : (wb 3 p3).length ≤ p3.length + 11 := by have := wb_len 3 p3; have := (vint_len (p3.length : Int)).2; omega
        have hM6 := M6.rd
        obtain ⟨p4, hp4⟩ : ∃ p, p = wb 3 p3 := ⟨_, rfl⟩
        rw [← hp4] at hM6 hwl
        have HP4 := Lib.hid (show p4 = aw y from by rw [hp4, HP3.out]; rfl)
        rw [← hp4]
        clear hp4 M6 M5 D2 D3
        have hk6 := k6.size
        go_wp2_with (first | (at_builtin; refine own_append W1.heap.size rfl (.tmp 26) (.tmp 29) 24 5 rfl Tryd.und_bytes Tryd.info_byte (.slice B3 z.length c3) z p4 A6 p4.length c6 rfl rfl O6 hM6 hk6 (by omega) ?_; intro v7 w7 O7 hk7 hw7 _; have k7 : Kp no W1 w7 := k6.own O6 (Nat.le_refl _) hk7))
        obtain ⟨A7, c7, rfl, _, _⟩ := O7.rd
        go_roundw
        case rel => exact ⟨k + 1, z ++ p4, A7, c7, by omega, by go_num, rfl, O7, k7, by simp only [List.length_append]; omega, Lib.hid (by rw [hra.out, HQ.out, HP4.out]; simp)⟩
        case measure => simp [intOf]; omega
      · obtain rfl : k = L.length := by omega
        have F := Lib.hid (show Made w (rb ⟨d, q, L⟩) (.returned (.slice B3 z.length c3)) wr from by
          have e1 : rb ⟨d, q, L⟩ = z := by
            unfold rb
            rw [HQ.out, List.take_length, HP2.out, HP1.out]
          rw [e1]
          obtain ⟨A9, c9, h9, hr9, _⟩ := O4.rd
          injection h9 with h9 _ h9'
          subst h9 h9'
          exact ⟨B3, c3, rfl, O4.lower (by omega), hr9, k1.then k4⟩)
        clear HQ
        go_wp2
        go_ret
        exact F.out
end Go.Proofs.YtipleaojejbkpaaDoor
