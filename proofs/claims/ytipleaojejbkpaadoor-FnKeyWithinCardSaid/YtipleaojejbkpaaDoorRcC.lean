/- (*PeerRecord).Marshal walked. RecordBytes walked. A record's message, plain: what is read of it. Records: sameRecord, recordsLive. -/
import Derived.Test.YtipleaojejbkpaaDoorRcB
import Derived.Test.YtipleaojejbkpaaDoorEMoreP
import Derived.Test.YtipleaojejbkpaaDoorTag
import Derived.Test.YtipleaojejbkpaaDoorMar
import Derived.Test.YtipleaojejbkpaaDoorEnvE
namespace Go.Proofs.YtipleaojejbkpaaDoor
open Go Go.RowKit
set_option linter.unusedVariables false
set_option linter.unusedSimpArgs false
set_option maxRecDepth 100000

set_option maxHeartbeats 1000000 in
theorem AB_own {w : World} {B : Nat} {u : Value} {l ys : List Int} {A : Option Addr} {n c : Nat} (h : Own w 5 B u l) (hB : B ≤ w.heap.size) (hl : l.length ≤ 1099511627776) (hR : Rd w A n c ys) (hn : n ≤ 1099511627776) (hx : Out (Of u) A) :
    Calls Tryd.prog 77 #[u, .slice A n c] w (Grown1 w B u (l ++ vint n ++ ys)) := by
  have D2 := Lib.hid (AV_calls h hB hl n (by omega) (by omega))
  have hvl : (l ++ vint (n : Int)).length ≤ l.length + 10 := by rw [List.length_append]; have := (vint_len n).2; omega
  generalize l ++ vint (n : Int) = q at *
  go_enter Tryd.func77, Tryd.ntmps77
  go_wp2_with (first | (go_at_call 78; refine D2.out.mono ?_; rintro e w2 ⟨A2, c2, rfl, hM2⟩; have hR2 := hR.keep hM2.kp hx) | (at_builtin; refine own_append B rfl (.tmp 9) (.tmp 10) 24 5 rfl Tryd.und_bytes Tryd.info_byte (.slice A2 q.length c2) q ys A n c rfl rfl hM2.own hR2 (by have := hM2.kp.size; omega) (by omega) ?_; intro v3 w3 hO3 hk3 hw3 _))
  go_ret
  exact Grown1.of hO3 (hM2.kp.grew hM2.went hk3) (hM2.went.trans hw3 hM2.kp.size)

/-- An address within a record's message; a record's message. -/
def aw (a : List Int) : List Int := wb 3 (ob 1 a)
def ras (L : List (List Int)) : List Int := (L.map aw).flatten
def sqb (q : Int) : List Int := if q = 0 then [] else [16] ++ vint q
def rb (st : RS) : List Int := ob 1 st.peer ++ sqb st.seq ++ ras st.addrs
theorem ob_len {f : Int} (l : List Int) : (ob f l).length ≤ l.length + 11 := by
  unfold ob
  split
  · simp
  · have := wb_len f l; have := (vint_len l.length).2; omega
theorem sqb_len (q : Int) : (sqb q).length ≤ 11 := by
  unfold sqb
  split
  · simp
  · have := (vint_len q).2; simp only [List.length_append, List.length_cons, List.length_nil]; omega
theorem aw_len (a : List Int) : (aw a).length ≤ a.length + 22 := by
  have := ob_len (f := 1) a
  unfold aw
  have := wb_len 3 (ob 1 a); have := (vint_len (ob 1 a).length).2; omega
theorem ras_next (L : List (List Int)) (k : Nat) (hk : k < L.length) : ras (L.take (k + 1)) = ras (L.take k) ++ aw (L.getD k []) := by
  unfold ras
  rw [take_next L k hk, List.map_append, List.flatten_append]
  simp
theorem ob_nil {f : Int} {l : List Int} (h : l.length = 0) : ob f l = [] := by unfold ob; rw [if_pos (List.eq_nil_of_length_eq_zero h)]
theorem ob_some {f : Int} {l : List Int} (h : 0 < l.length) : ob f l = wb f l := by unfold ob; rw [if_neg (by intro h0; rw [h0] at h; simp at h)]

/-- Bytes of one's own, so far. -/
def SoFar (w : World) (q : List Int) (v : Value) (wx : World) : Prop := ∃ B1 c1, v = .slice B1 q.length c1 ∧ Own wx 5 w.heap.size (.slice B1 q.length c1) q ∧ Kp no w wx

set_option maxHeartbeats 8000000 in
theorem RMarshal_calls {w : World} {B g : Nat} {T : TypeId} {pe ad : Value} {st : RS} (hb : Blk w g #[pe, .int .u64 st.seq, ad] T) (hst : RSt w B g pe (.int .u64 st.seq) ad st) (hs0 : 0 ≤ st.seq) (hs1 : st.seq < 18446744073709551616)
    (hp : st.peer.length ≤ 1000) (ha : ∀ a ∈ st.addrs, a.length ≤ 1000) (hn : st.addrs.length ≤ 1000) :
    Calls Tryd.prog 62 #[.pointer (some ⟨g, 0, none⟩)] w (MadeOk w (rb st)) := by
  obtain ⟨PA, PC, rfl, RP, _, LP, nP⟩ := hst.pe
  obtain ⟨us, hV, hPs⟩ := hst.ad
  obtain ⟨Aad, cad, rfl, hc1, hc2, hc3⟩ := hV.form
  have hul := hPs.len
  have HC3 := Lib.hid hc3
  have HUL := Lib.hid hul
  have HA := Lib.hid (show ∀ j, j < us.length → (st.addrs.getD j []).length ≤ 1000 from fun j hj => ha _ (by rw [List.getD_eq_getElem?_getD, List.getElem?_eq_getElem (by omega)]; simp))
  have hun : us.length ≤ 1000 := by omega
  have x0 := hb.cell 0
  have x1 := hb.cell 1
  have x2 := hb.cell 2
  clear hst ha hc3 hul hn
  go_enter Tryd.func62, Tryd.ntmps62
  go_upto_if 13 with (fail)
  go_cut [4] from 8 (fun v wx => SoFar w (ob 1 st.peer) v wx)
  case first =>
    by_cases hz : st.peer.length = 0
    · have hzi : ¬ (0 : Int) < (st.peer.length : Int) := by omega
      have HZ := Lib.hid (ob_nil (f := 1) hz)
      clear hz
      go_wp2_with (fail)
      go_meet
      case rel => rw [HZ.out]; exact ⟨none, 0, rfl, Own.nil _ _ _, Kp.refl _ _⟩
    · have hzi : (0 : Int) < (st.peer.length : Int) := by omega
      have HZ := Lib.hid (ob_some (f := 1) (l := st.peer) (by omega))
      have D1 := Lib.hid (AT_calls (Own.nil w 5 w.heap.size) (Nat.le_refl _) (by simp) 1 2 (by unfold tagOk; omega))
      clear hz
      go_wp2_with (fail)
      refine D1.out.mono ?_
      rintro e w1 ⟨B1, cc1, rfl, hM1⟩
      have k1 : Kp no w w1 := hM1.kpn (Own.nil w 5 w.heap.size) (Nat.le_refl _) (Kp.refl _ _)
      have O1 := hM1.own
      have y0 := (hb.keepN k1).cell 0
      obtain ⟨q1, hq1⟩ : ∃ q, q = ([] : List Int) ++ [1 * 8 + 2] := ⟨_, rfl⟩
      rw [← hq1] at O1
      have hl1 : q1.length ≤ 5 := by rw [hq1]; simp
      have hr1 : (([] : List Int) ++ [1 * 8 + 2]).length = q1.length := by rw [hq1]
      have D2 := Lib.hid (AB_calls O1 k1.size (by omega) (RP.keepN k1) (by omega) LP)
      have HQ1 := Lib.hid hq1
      rw [hr1]
      clear hM1 hq1 hr1 D1
      go_wp2_with (fail)
      refine D2.out.mono ?_
      rintro e w2 ⟨B2, cc2, rfl, hM2⟩
      have k2 : Kp no w w2 := hM2.kpn O1 (Nat.le_refl _) k1
      have F := Lib.hid (show SoFar w (ob 1 st.peer) (.slice B2 (q1 ++ vint st.peer.length ++ st.peer).length cc2) w2 from by
        have e1 : ob 1 st.peer = q1 ++ vint st.peer.length ++ st.peer := by rw [HZ.out, HQ1.out]; simp [wb]
        rw [e1]; exact ⟨B2, cc2, rfl, hM2.own, k2⟩)
      generalize (q1 ++ vint st.peer.length ++ st.peer).length = m at *
      clear hM2
      go_wp2_with (fail)
      go_meet
      case rel => exact F.out
  case rest =>
    obtain ⟨B1, c1, rfl, O1, k1⟩ := hcut
    have y1 := (hb.keepN k1).cell 1
    have hl1 : (ob 1 st.peer).length ≤ 1100 := by have := ob_len (f := 1) st.peer; omega
    obtain ⟨p1, hp1⟩ : ∃ p, p = ob 1 st.peer := ⟨_, rfl⟩
    rw [← hp1] at O1 hl1
    have HP1 := Lib.hid hp1
    rw [← hp1]
    clear hp1 x0 x1 x2
    obtain ⟨wa, rfl⟩ : ∃ wa, wa = wc := ⟨_, rfl⟩
    go_upto_if 26 with (fail)
    go_cut [4] from 8 (fun v wx => SoFar w (p1 ++ sqb st.seq) v wx)
    case first =>
      by_cases hz : st.seq = 0
      · have HZ := Lib.hid (show sqb st.seq = [] from by unfold sqb; rw [if_pos hz])
        have hz2 : (st.seq == 0) = true := by simpa using hz
        have hz3 : (st.seq != 0) = false := by simpa using hz
        go_wp2_with (fail)
        go_meet
        case rel => rw [HZ.out, List.append_nil]; exact ⟨B1, c1, rfl, O1, k1⟩
      · have HZ := Lib.hid (show sqb st.seq = [16] ++ vint st.seq from by unfold sqb; rw [if_neg hz])
        have hz2 : (st.seq == 0) = false := by simpa using hz
        have hz3 : (st.seq != 0) = true := by simpa using hz
        have D1 := Lib.hid (AT_calls O1 k1.size (by omega) 2 0 (by unfold tagOk; omega))
        go_wp2_with (fail)
        refine D1.out.mono ?_
        rintro e w1 ⟨B2, cc1, rfl, hM1⟩
        have k2 : Kp no w w1 := hM1.kpn O1 (Nat.le_refl _) k1
        have O2 := hM1.own
        have y2 := (hb.keepN k2).cell 1
        obtain ⟨q1, hq1⟩ : ∃ q, q = p1 ++ [2 * 8 + 0] := ⟨_, rfl⟩
        rw [← hq1] at O2
        have hl2 : q1.length ≤ 1200 := by rw [hq1]; simp; omega
        have hr1 : (p1 ++ [2 * 8 + 0]).length = q1.length := by rw [hq1]
        have D2 := Lib.hid (AV_calls O2 k2.size (by omega) st.seq hs0 hs1)
        have HQ1 := Lib.hid hq1
        rw [hr1]
        clear hM1 hq1 hr1 D1
        go_wp2_with (fail)
        refine D2.out.mono ?_
        rintro e w2 ⟨B3, cc2, rfl, hM2⟩
        have k3 : Kp no w w2 := hM2.kpn O2 (Nat.le_refl _) k2
        have F := Lib.hid (show SoFar w (p1 ++ sqb st.seq) (.slice B3 (q1 ++ vint st.seq).length cc2) w2 from by
          have e1 : p1 ++ sqb st.seq = q1 ++ vint st.seq := by rw [HZ.out, HQ1.out]; simp
          rw [e1]; exact ⟨B3, cc2, rfl, hM2.own, k3⟩)
        generalize (q1 ++ vint st.seq).length = m at *
        clear hM2
        go_wp2_with (fail)
        go_meet
        case rel => exact F.out
    case rest =>
      obtain ⟨B2, c2, rfl, O2, k2⟩ := hcut
      have y2 := (hb.keepN k2).cell 2
      have hl2 : (p1 ++ sqb st.seq).length ≤ 1200 := by have := sqb_len st.seq; simp only [List.length_append]; omega
      obtain ⟨p2, hp2⟩ : ∃ p, p = p1 ++ sqb st.seq := ⟨_, rfl⟩
      rw [← hp2] at O2 hl2
      have HP2 := Lib.hid hp2
      rw [← hp2]
      clear hp2 y1
      have HI : Hid (p2 = p2 ++ ras (st.addrs.take 0)) := Lib.hid (by simp [ras])
      obtain ⟨wb0, rfl⟩ : ∃ wb0, wb0 = wc := ⟨_, rfl⟩
      go_wp2
      go_loopw [4, 40] (fun v iv wr => ∃ (k : Nat) (q : List Int) (B3 : Option Addr) (c3 : Nat), k ≤ us.length ∧ iv = .int .i64 k ∧ v = .slice B3 q.length c3 ∧ Own wr 5 w.heap.size (.slice B3 q.length c3) q ∧ Kp no w wr ∧ q.length ≤ 2000 + 1100 * k ∧ Hid (q = p2 ++ ras (st.addrs.take k))) (fun _ iv _ => us.length - (intOf iv).toNat)
      case atStart => exact ⟨0, p2, B2, c2, Nat.zero_le _, rfl, rfl, O2, k2, by omega, HI⟩
      case round =>
        obtain ⟨k, q, B3, c3, hk0, rfl, rfl, O3, k3, hql, HQ⟩ := hrel
        by_cases hlt : k < us.length
        · obtain ⟨g0, hA0, hc⟩ := HC3.out (by omega)
          subst hA0
          have hkA : k < st.addrs.length := by have := HUL.out; omega
          obtain ⟨ga, sl, hu, _, hbk, hsl⟩ := hPs.get k hlt
          have hra := Lib.hid (ras_next st.addrs k hkA)
          have hal := HA.out k hlt
          generalize st.addrs.getD k [] = y at *
          obtain ⟨A', c', rfl, hR', _, hL', hn'⟩ := hsl
          have cu := hc k hlt
          rw [hu] at cu
          have cu1 := k3.cellN cu
          have cu2 : wr.cell? ⟨g0, 0 + k, none⟩ = some (.pointer (some ⟨ga, 0, none⟩)) := (by rw [Nat.zero_add]; exact cu1)
          have bk1 := hbk.keepN k3
          have cs := bk1.cell 0
          have RY := hR'.keepN k3
          have hks := k3.size
          obtain ⟨wr0, rfl⟩ : ∃ wr0, wr0 = wr := ⟨_, rfl⟩
          clear hc hu cu
          go_upto_if 49 with (fail)
          go_cut [7] from 41 to 63 (fun v wx => ∃ A8 c8, v = .slice A8 (ob 1 y).length c8 ∧ MadeAt wr0 wx A8 c8 (ob 1 y))
          case first =>
            by_cases hz : y.length = 0
            · have hzi : ¬ (0 : Int) < (y.length : Int) := by omega
              have HZ := Lib.hid (ob_nil (f := 1) hz)
              clear hz
              go_wp2_with (fail)
              go_meet
              case rel => rw [HZ.out]; exact ⟨none, 0, rfl, Own.nil _ _ _, Rd.nil _, Kp.refl _ _⟩
            · have hzi : (0 : Int) < (y.length : Int) := by omega
              have HZ := Lib.hid (ob_some (f := 1) (l := y) (by omega))
              have D1 := Lib.hid (AT_calls (Own.nil wr0 5 wr0.heap.size) (Nat.le_refl _) (by simp) 1 2 (by unfold tagOk; omega))
              clear hz
              go_wp2_with (fail)
              refine D1.out.mono ?_
              rintro e w1 ⟨B1, cc1, rfl, hM1⟩
              have k1 : Kp no wr0 w1 := hM1.kpn (Own.nil wr0 5 wr0.heap.size) (Nat.le_refl _) (Kp.refl _ _)
              have O1 := hM1.own
              have z0 := (bk1.keepN k1).cell 0
              obtain ⟨q1, hq1⟩ : ∃ q, q = ([] : List Int) ++ [1 * 8 + 2] := ⟨_, rfl⟩
              rw [← hq1] at O1
              have hl1 : q1.length ≤ 5 := by rw [hq1]; simp
              have hr1 : (([] : List Int) ++ [1 * 8 + 2]).length = q1.length := by rw [hq1]
              have D2 := Lib.hid (AB_calls O1 k1.size (by omega) (RY.keepN k1) (by omega) (hL'.mono hks))
              have HQ1 := Lib.hid hq1
              rw [hr1]
              clear hM1 hq1 hr1 D1
              go_wp2_with (fail)
              refine D2.out.mono ?_
              rintro e w2 ⟨B2', cc2, rfl, hM2⟩
              have k2' : Kp no wr0 w2 := hM2.kpn O1 (Nat.le_refl _) k1
              have F := Lib.hid (show ∃ A8 c8, Value.slice B2' (q1 ++ vint y.length ++ y).length cc2 = .slice A8 (ob 1 y).length c8 ∧ MadeAt wr0 w2 A8 c8 (ob 1 y) from by
                have e1 : ob 1 y = q1 ++ vint y.length ++ y := by rw [HZ.out, HQ1.out]; simp [wb]
                rw [e1]; exact ⟨B2', cc2, rfl, hM2.own, hM2.rd, k2'⟩)
              generalize (q1 ++ vint y.length ++ y).length = m at *
              clear hM2
              go_wp2_with (fail)
              go_meet
              case rel => exact F.out
          case rest =>
            obtain ⟨A8, c8, rfl, M8⟩ := hcut
            have ho := ob_len (f := 1) y
            have O4 := O3.keepN M8.kp
            have k4 := k3.then M8.kp
            have HB3 := Lib.hid O3.base
            obtain ⟨p3, hp3⟩ : ∃ p, p = ob 1 y := ⟨_, rfl⟩
            rw [← hp3] at M8 ho
            have HP3 := Lib.hid hp3
            rw [← hp3]
            clear hp3
            have D4 := Lib.hid (AT_calls O4 k4.size (by omega) 3 2 (by unfold tagOk; omega))
            go_wp2_with (fail)
            refine D4.out.mono ?_
            rintro e w5 ⟨B5, c5, rfl, hM5⟩
            have k5 : Kp no w w5 := hM5.kpn O4 (Nat.le_refl _) k4
            have O5 := hM5.own
            have R8 := M8.rd.keep hM5.kp (fun a ha hv => by
              have h1 := (HB3.out _ hv).2
              have h2 := (M8.own.base a.block (by rw [ha]; rfl)).1
              omega)
            have hx8 : Out (Of (.slice B5 (q ++ [3 * 8 + 2]).length c5)) A8 := fun a ha hv => by
              have h2 := M8.own.base a.block (by rw [ha]; rfl)
              rcases hM5.went with hw | ⟨b, hw, hbb⟩
              · have hv' : (Value.slice B3 q.length c3).ownBlock = some a.block := by rw [← hw]; exact hv
                have h1 := (HB3.out _ hv').2
                omega
              · have hv' : _ = some a.block := hv
                rw [hw] at hv'
                injection hv' with hv'
                omega
            obtain ⟨q1, hq1⟩ : ∃ q1, q1 = q ++ [3 * 8 + 2] := ⟨_, rfl⟩
            rw [← hq1] at O5 hx8
            have hl1 : q1.length ≤ 2001 + 1100 * k := by rw [hq1]; simp; omega
            have hr1 : (q ++ [3 * 8 + 2]).length = q1.length := by rw [hq1]
            have D5 := Lib.hid (AB_own O5 k5.size (by omega) R8 (by omega) hx8)
            have HQ1 := Lib.hid hq1
            rw [hr1]
            clear hM5 hq1 hr1 D4
            go_wp2_with (fail)
            refine D5.out.mono ?_
            rintro e w6 ⟨B6, c6, rfl, hM6⟩
            have k6 : Kp no w w6 := hM6.kpn O5 (Nat.le_refl _) k5
            have O6 := hM6.own
            obtain ⟨q2, hq2⟩ : ∃ q2, q2 = q1 ++ vint p3.length ++ p3 := ⟨_, rfl⟩
            rw [← hq2] at O6
            have hl2 : q2.length ≤ 2000 + 1100 * (k + 1) := by rw [hq2]; have := (vint_len p3.length).2; simp only [List.length_append]; omega
            have hr2 : (q1 ++ vint p3.length ++ p3).length = q2.length := by rw [hq2]
            have HQ2 := Lib.hid (show q2 = p2 ++ ras (st.addrs.take (k + 1)) from by
              rw [hra.out, hq2, HQ1.out, HQ.out, HP3.out]; simp [aw, wb])
            rw [hr2]
            clear hM6 hq2 hr2 D5
            go_wp2_with (fail)
            go_roundw
            case rel => exact ⟨k + 1, q2, B6, c6, by omega, by go_num, rfl, O6, k6, hl2, HQ2⟩
            case measure => simp [intOf]; omega
        · obtain rfl : k = us.length := by omega
          have F := Lib.hid (show MadeOk w (rb st) (.returned (.tuple #[.slice B3 q.length c3, .nilIface])) wr from by
            have e1 : rb st = q := by
              unfold rb
              rw [HQ.out, HUL.out, List.take_length, HP2.out, HP1.out]
            rw [e1]
            obtain ⟨A9, c9, h9, hr9, _⟩ := O3.rd
            injection h9 with h9 _ h9'
            subst h9 h9'
            exact ⟨B3, c3, rfl, O3, hr9, k3⟩)
          clear HQ
          go_wp2
          go_ret2
          exact F.out
end Go.Proofs.YtipleaojejbkpaaDoor
namespace Go.Proofs.YtipleaojejbkpaaDoor
open Go Go.RowKit
set_option linter.unusedVariables false
set_option linter.unusedSimpArgs false
set_option maxRecDepth 100000

structure PCut (w : World) (d : List Int) (q : Int) (e : Value) (wx : World) (gP : Nat) (pe : Value) : Prop where
  e : e = .pointer (some ⟨gP, 0, none⟩)
  ge : w.heap.size ≤ gP
  blk : Blk wx gP #[pe, .int .u64 q, .slice none 0 0] 99
  kp : Kp no w wx
  rst : RSt wx (gP + 1) gP pe (.int .u64 q) (.slice none 0 0) ⟨d, q, []⟩

set_option maxHeartbeats 8000000 in
theorem RecordBytes_calls {w : World} (x : RV) (hx : x.At w) (hs0 : 0 ≤ x.seq) (hs1 : x.seq < 18446744073709551616) (hp : x.d.length ≤ 1000) (ha : ∀ a ∈ x.L, a.length ≤ 1000) (hn : x.L.length ≤ 1000) :
    Calls Tryd.prog 34 #[.agg x.cells] w (MadeT w (rb ⟨x.d, x.seq, x.L⟩)) := by
  obtain ⟨A, c, d, q, B, e, L⟩ := x
  obtain ⟨hR, hS⟩ := hx
  simp only at hR hS hs0 hs1 hp ha hn
  have HA := Lib.hid (show ∀ j, j < L.length → (L.getD j []).length ≤ 1000 from fun j hj => ha _ (by rw [List.getD_eq_getElem?_getD, List.getElem?_eq_getElem hj]; simp))
  have HA0 := Lib.hid ha
  clear ha
  have k1 : Kp no w (w.alloc (.cells #[.slice A d.length c, .int .u64 q, .slice B L.length e] 47)) := (Kp.refl _ _).alloc _
  have hb := Blk.new w #[.slice A d.length c, .int .u64 q, .slice B L.length e] 47
  have hw1s : w.heap.size + 1 ≤ (w.alloc (.cells #[.slice A d.length c, .int .u64 q, .slice B L.length e] 47)).heap.size := by simp
  have hcap := hS.cap
  have hmax := hS.max
  go_enter Tryd.func34, Tryd.ntmps34
  go_upto_region 1 with (fail)
  generalize hW : w.alloc (.cells #[.slice A d.length c, .int .u64 q, .slice B L.length e] 47) = W1 at *
  have kd : Kp no W1 W1.drew := (Kp.refl _ _).drew
  have R1 := hR.keepN k1
  have S1 := hS.keepN k1
  have D1 := fun W (k : Kp no W1 W) => Lib.hid (Clone_calls (R1.keepN k) (by omega))
  have HH := Lib.hid (fun W (k : Kp no W1 W) => (⟨(hb.keepN k).cell 0, (hb.keepN k).cell 1⟩ : W.cell? ⟨w.heap.size, 0, none⟩ = some (.slice A d.length c) ∧ W.cell? ⟨w.heap.size, 1, none⟩ = some (.int .u64 q)))
  go_cut [4] from 9 to 15 (fun p wx => ∃ gP pe, PCut W1 d q p wx gP pe)
  case first =>
    obtain ⟨x0, x1⟩ := HH.out _ kd
    go_region_with (first
      | (go_at_call 22; refine (D1 _ kd).out.mono ?_; rintro e w4 ⟨A4, c4, rfl, M4⟩; have k4 := kd.then M4.kp; obtain ⟨x0', x1'⟩ := HH.out _ k4))
    all_goals
      go_wp2_with (fail)
      go_meet
      case rel =>
        have ka : Kp no w4 (w4.alloc (.cells #[.slice A4 d.length c4, .int .u64 q, .slice none 0 0] 99)) := (Kp.refl _ _).alloc _
        have hs4 := M4.kp.size
        have hs4' : W1.heap.size ≤ w4.heap.size := by simpa using hs4
        have hl4 : ∀ a, A4 = some a → a.block < w4.heap.size := fun a ha => M4.lo a ha
        exact ⟨w4.heap.size, .slice A4 d.length c4, rfl, hs4', Blk.new _ _ _, (kd.then M4.kp).then ka, ⟨A4, c4, rfl, M4.rd.keepN ka, (fun a ha hs => by
            have := hl4 a ha
            rcases hs with hs | hs
            · have hs : a.block = _ := hs; omega
            · cases hs), (fun a ha => by have := hl4 a ha; have := ka.size; omega), (by show d.length ≤ _; omega)⟩, rfl, [], VOwn.nil _ _ _, trivial⟩
  case rest =>
    obtain ⟨gP, pe, rfl, hge, bP, kP, hst⟩ := hcut
    have hb2 := (hb.keepN kP).cell 2
    have hgs := bP.lt
    have HI : Hid (RSt wc (gP + 1) gP pe (.int .u64 q) (.slice none 0 0) ⟨d, q, L.take 0⟩) := Lib.hid (by simpa using hst)
    obtain ⟨wa, rfl⟩ : ∃ wa, wa = wc := ⟨_, rfl⟩
    clear hst
    go_wp2
    go_loopw [19] (fun iv wr => ∃ (k : Nat) (ad : Value), k ≤ L.length ∧ iv = .int .i64 k ∧ Blk wr gP #[pe, .int .u64 q, ad] 99 ∧ Hid (RSt wr (gP + 1) gP pe (.int .u64 q) ad ⟨d, q, L.take k⟩) ∧ Kp no W1 wr) (fun iv _ => L.length - (intOf iv).toNat)
    case atStart => exact ⟨0, _, Nat.zero_le _, rfl, bP, HI, kP⟩
    case round =>
      obtain ⟨k, ad, hk0, rfl, hbr, HST, hk⟩ := hrel
      have hks := hk.size
      have hgr := hbr.lt
      by_cases hlt : k < L.length
      · obtain ⟨g0, o0, hB0, hc⟩ := (S1.keepN hk).at_ (by omega)
        subst hB0
        obtain ⟨A', c', cu, hR'⟩ := hc k hlt
        have htk := Lib.hid (take_next L k hlt)
        have hal := HA.out k hlt
        generalize L.getD k [] = y at *
        have kdr : Kp no wr wr.drew := (Kp.refl _ _).drew
        have DC := fun W (k : Kp no wr W) => Lib.hid (Clone_calls (hR'.keepN k) (by omega))
        obtain ⟨us, hV, hPs⟩ := HST.out.ad
        have hPl := hPs.len
        have hul : us.length ≤ k := by rw [hPl]; simp; omega
        obtain ⟨VA, vc, had, _, _, _⟩ := hV.form
        have HVB := Lib.hid (fun i (hi : ad.ownBlock = some i) => (hV.base i hi))
        have HBO := Lib.hid hbr
        have o2 := (hbr.keepN kdr).cell 2
        have hbc := hbr.cell 2
        rw [had] at o2 hbc
        have HPS := Lib.hid hPs
        clear hc hR' hPl hPs
        go_wp2_with (fail)
        go_region_law (first
          | (go_simp; go_at_call 22; refine (DC _ kdr).out.mono ?_; rintro e w5 ⟨A5, c5, rfl, M5⟩; have k5 := kdr.then M5.kp; have hs5 := k5.size; have k5a : Kp no wr (w5.alloc (.cells #[.slice A5 y.length c5] 102)) := k5.alloc _; have k5b : Kp no wr ((w5.alloc (.cells #[.slice A5 y.length c5] 102)).alloc (.cells #[.pointer (some ⟨w5.heap.size, 0, none⟩)] 100)) := k5a.alloc _; have o5 := (HBO.out.keepN k5).cell 2; have o5a := (HBO.out.keepN k5a).cell 2; have o5b := (HBO.out.keepN k5b).cell 2; rw [had] at o5 o5a o5b)
          | (refine step_one_append (gP + 1) rfl (.tmp 27) (.tmp 32) 97 100 rfl Tryd.und_pAddrs (.pointer none) 8 Tryd.info_pAddr rfl (by omega) ad us (.pointer (some ⟨w5.heap.size, 0, none⟩)) (w5.heap.size + 1) had.symm rfl (by simp) rfl (hV.keepN k5b) (by simp; omega) (by omega) ?_; intro A6 c6 w6 hV6 hk6 hw6; have bE6 := (HBO.out.keepN k5b).keep hk6 (fun h => by have := HVB.out _ h; omega); have e2 := bE6.cell 2; have ef2 := bE6.free 2))
        all_goals
          go_wp2
          go_roundw
          case rel =>
            have kS : Kp (· = gP) w6 (w6.setCell ⟨gP, 2, none⟩ (.slice A6 (us.length + 1) c6)) := (Kp.refl (· = gP) w6).setCell (p := ⟨gP, 2, none⟩) (fun _ => rfl) _
            have kF := ((hk.then k5b).trans hk6 (fun i hi h => by have := HVB.out i h; omega)).trans kS (fun i hi h => by have h : i = gP := h; omega)
            have kab : Kp no w5 ((w5.alloc (.cells #[.slice A5 y.length c5] 102)).alloc (.cells #[.pointer (some ⟨w5.heap.size, 0, none⟩)] 100)) := ((Kp.refl _ _).alloc _).alloc _
            have hblk : Blk ((w5.alloc (.cells #[.slice A5 y.length c5] 102)).alloc (.cells #[.pointer (some ⟨w5.heap.size, 0, none⟩)] 100)) w5.heap.size #[.slice A5 y.length c5] 102 := (Blk.new w5 _ _).alloc _
            have hl5 : ∀ a, A5 = some a → a.block < w5.heap.size := fun a ha => M5.lo a ha
            have hfr : Fresh wr.heap.size (.slice A5 y.length c5) := fun a n c h => by have := M5.fresh a n c h; simpa using this
            have hsl : SlAt ((w5.alloc (.cells #[.slice A5 y.length c5] 102)).alloc (.cells #[.pointer (some ⟨w5.heap.size, 0, none⟩)] 100)) (· = w5.heap.size) (.slice A5 y.length c5) y :=
              ⟨A5, c5, rfl, M5.rd.keepN kab, (fun a ha hs => by have := hl5 a ha; have hs : a.block = _ := hs; omega), (fun a ha => by have := hl5 a ha; have := kab.size; omega), by omega⟩
            have hst7 := HST.out.more k5b hblk hsl hs5 hfr hgr HPS.out (fun i hi => (HVB.out i hi).2) hV6 hk6 hw6 kS (by omega)
            exact ⟨k + 1, _, by omega, by go_num, bE6.set 2 _, Lib.hid (by rw [htk.out]; exact hst7), kF⟩
          case measure => simp [intOf]; omega
      · obtain rfl : k = L.length := by omega
        have hst := HST.out
        rw [List.take_length] at hst
        have DM := Lib.hid (RMarshal_calls (st := ⟨d, q, L⟩) hbr hst hs0 hs1 hp HA0.out hn)
        clear hst
        go_wp2_with (fail)
        refine DM.out.mono ?_
        rintro e w7 ⟨A7, c7, rfl, M7⟩
        have hM := M7.up (k1.then hk)
        have F := Lib.hid (show ∀ m, MadeT w (rb ⟨d, q, L⟩) (.returned (.tuple #[.slice A7 (rb ⟨d, q, L⟩).length c7, .bool true])) (w7.drewN m) from fun m => ⟨A7, c7, rfl, hM.then ((Kp.refl _ _).drewN m)⟩)
        clear hM M7 DM
        generalize rb ⟨d, q, L⟩ = z at *
        go_wp2_with (fail)
        go_quiet (fail)
        all_goals
          go_wp2
          go_ret2
          exact F.out _
end Go.Proofs.YtipleaojejbkpaaDoor
namespace Go.Proofs.YtipleaojejbkpaaDoor
open Go
set_option linter.unusedVariables false
set_option linter.unusedSimpArgs false
set_option maxRecDepth 100000

/-- What is right of a record's parts. -/
structure ROk (x : RS) : Prop where
  bp : Byt x.peer
  np : x.peer.length ≤ 300
  s0 : 0 ≤ x.seq
  s1 : x.seq < 18446744073709551616
  ba : ∀ a ∈ x.addrs, Byt a
  na : ∀ a ∈ x.addrs, a.length ≤ 300
  nn : x.addrs.length ≤ 20
def sqf (q : Int) : List Fld := if q = 0 then [] else [⟨2, 0, q, []⟩]
def raf (L : List (List Int)) : List Fld := L.map (fun a => ⟨3, 2, 0, ob 1 a⟩)
def rbf (x : RS) : List Fld := obf 1 x.peer ++ sqf x.seq ++ raf x.addrs
theorem sqb_byt {q : Int} (h0 : 0 ≤ q) (h1 : q < 18446744073709551616) : Byt (sqb q) := by
  unfold sqb
  split
  · exact Byt.nil
  · exact (Byt.one (by omega) (by omega)).app (vint_byt q h0 h1)
theorem aw_byt {a : List Int} (h : Byt a) (hn : a.length ≤ 300) : Byt (aw a) := by
  have := ob_len (f := 1) a
  exact wb_byt (by omega) (by omega) (ob_byt (by omega) (by omega) h hn) (by omega)
theorem ras_cons (a : List Int) (L : List (List Int)) : ras (a :: L) = aw a ++ ras L := by simp [ras]
theorem ras_byt : ∀ {L : List (List Int)}, (∀ a ∈ L, Byt a) → (∀ a ∈ L, a.length ≤ 300) → Byt (ras L)
  | [], _, _ => Byt.nil
  | a :: L, h, hn => by
    rw [ras_cons]
    exact (aw_byt (h a (by simp)) (hn a (by simp))).app (ras_byt (fun b hb => h b (by simp [hb])) (fun b hb => hn b (by simp [hb])))
theorem ras_len : ∀ {L : List (List Int)}, (∀ a ∈ L, a.length ≤ 300) → (ras L).length ≤ 400 * L.length
  | [], _ => by simp [ras]
  | a :: L, hn => by
    rw [ras_cons, List.length_append, List.length_cons]
    have := aw_len a
    have := hn a (by simp)
    have := ras_len (L := L) (fun b hb => hn b (by simp [hb]))
    omega
theorem rb_byt {x : RS} (h : ROk x) : Byt (rb x) := ((ob_byt (by omega) (by omega) h.bp h.np).app (sqb_byt h.s0 h.s1)).app (ras_byt h.ba h.na)
theorem rb_len {x : RS} (h : ROk x) : (rb x).length ≤ 9000 := by
  unfold rb
  have := ob_len (f := 1) x.peer
  have := sqb_len x.seq
  have := ras_len h.na
  have := h.np
  have := h.nn
  simp only [List.length_append]
  omega
theorem From_sq {b r : List Int} {p : List Fld} {q : Int} (h : From b p (sqb q ++ r)) (h0 : 0 ≤ q) (h1 : q < 18446744073709551616) (hr : Byt r) : From b (p ++ sqf q) r := by
  have hb := (sqb_byt h0 h1).app hr
  unfold sqb at h hb
  unfold sqf
  split at h
  · rename_i he
    rw [if_pos he]
    simpa using h
  · rename_i he
    rw [if_neg he]
    rw [if_neg he] at hb
    exact h.step hb (by simp) (by have := hd_small 2 q r (by omega) (by omega) h0 h1; simpa using this)
theorem From_ra : ∀ {L : List (List Int)} {b r : List Int} {p : List Fld}, From b p (ras L ++ r) → (∀ a ∈ L, Byt a) → (∀ a ∈ L, a.length ≤ 300) → Byt r → From b (p ++ raf L) r
  | [], b, r, p, h, _, _, _ => by simpa [ras, raf] using h
  | a :: L, b, r, p, h, hb, hn, hr => by
    have ha := hb a (by simp)
    have hna := hn a (by simp)
    have hL := ras_byt (L := L) (fun c hc => hb c (by simp [hc])) (fun c hc => hn c (by simp [hc]))
    have hol := ob_len (f := 1) a
    rw [ras_cons, List.append_assoc] at h
    have h1 : From b (p ++ [⟨3, 2, 0, ob 1 a⟩]) (ras L ++ r) := h.step ((aw_byt ha hna).app (hL.app hr)) (by have := wb_pos 3 (ob 1 a); rw [List.length_append]; unfold aw; omega) (hd_wb 3 (ob 1 a) (ras L ++ r) (by omega) (by omega) (by omega))
    have h2 := From_ra (L := L) h1 (fun c hc => hb c (by simp [hc])) (fun c hc => hn c (by simp [hc])) hr
    have e : p ++ raf (a :: L) = p ++ [⟨3, 2, 0, ob 1 a⟩] ++ raf L := by simp [raf]
    rw [e]; exact h2
theorem From_rb {b r : List Int} {p : List Fld} {x : RS} (h : From b p (rb x ++ r)) (hx : ROk x) (hr : Byt r) : From b (p ++ rbf x) r := by
  have h3 := (ras_byt hx.ba hx.na).app hr
  have h2 := (sqb_byt hx.s0 hx.s1).app h3
  have e : rb x ++ r = ob 1 x.peer ++ (sqb x.seq ++ (ras x.addrs ++ r)) := by simp [rb]
  rw [e] at h
  have a1 := From_ob h (by omega) (by omega) hx.bp hx.np h2
  have a2 := From_sq a1 hx.s0 hx.s1 h3
  have a3 := From_ra a2 hx.ba hx.na hr
  have e2 : p ++ rbf x = p ++ obf 1 x.peer ++ sqf x.seq ++ raf x.addrs := by simp [rbf]
  rw [e2]; exact a3
theorem wf_ob {a : List Int} (h : Byt a) (hn : a.length ≤ 300) : wf (ob 1 a) = .ok (obf 1 a) := by
  have h1 := From_ob (r := []) (by rw [List.append_nil]; exact From.start (ob 1 a)) (by omega) (by omega) h hn Byt.nil
  simpa using h1.done
theorem fo_obf1 (a : List Int) : fo astep (obf 1 a) [] = .ok a := by
  unfold obf
  split
  · rename_i he; subst he; rfl
  · rw [fo_one, astep_1]
theorem whole_ob {a : List Int} (h : Byt a) (hn : a.length ≤ 300) : whole astep (ob 1 a) [] = .ok a := by rw [whole_ok (wf_ob h hn), fo_obf1]
theorem fo_raf : ∀ {L : List (List Int)} (s : RS), (∀ a ∈ L, Byt a) → (∀ a ∈ L, a.length ≤ 300) → fo rstep (raf L) s = .ok { s with addrs := s.addrs ++ L }
  | [], s, _, _ => by simp [raf, fo]
  | a :: L, s, hb, hn => by
    have e : raf (a :: L) = [⟨3, 2, 0, ob 1 a⟩] ++ raf L := by simp [raf]
    rw [e, fo_app, fo_one, rstep_3, whole_ob (hb a (by simp)) (hn a (by simp))]
    simp only [addressed]
    rw [fo_raf _ (fun c hc => hb c (by simp [hc])) (fun c hc => hn c (by simp [hc]))]
    simp
theorem fo_sqf (s : RS) (q : Int) (h : s.seq = 0) : fo rstep (sqf q) s = .ok { s with seq := q } := by
  unfold sqf
  split
  · rename_i he; subst he; rw [← h]; rfl
  · rw [fo_one, rstep_2]
theorem fo_obfr (s : RS) (l : List Int) (h : s.peer = []) : fo rstep (obf 1 l) s = .ok { s with peer := l } := by
  unfold obf
  split
  · rename_i he; subst he; rw [← h]; rfl
  · rw [fo_one, rstep_1]
theorem fo_rbf {x : RS} (hx : ROk x) : fo rstep (rbf x) RS.zero = .ok x := by
  unfold rbf
  rw [fo_app, fo_app, fo_obfr _ _ rfl]
  simp only
  rw [fo_sqf _ _ rfl]
  simp only
  rw [fo_raf _ hx.ba hx.na]
  simp [RS.zero]
theorem whole_rb {x : RS} (hx : ROk x) : whole rstep (rb x) RS.zero = .ok x := by
  have h1 := From_rb (r := []) (by rw [List.append_nil]; exact From.start (rb x)) hx Byt.nil
  have h2 := h1.done
  rw [List.nil_append] at h2
  rw [whole_ok h2, fo_rbf hx]
theorem rlive : rb ⟨[5], 3, []⟩ = [10, 1, 5, 16, 3] := by simp [rb, ob, wb, sqb, ras, vint_1]
theorem rlive_res {x : RV} {ok : Bool} (h : RRes [10, 1, 5, 16, 3] x ok) : ok = true ∧ x.seq = 3 ∧ x.d = [5] := by
  rw [← rlive] at h
  unfold RRes at h
  rw [whole_rb ⟨Byt.one (by omega) (by omega), by simp, by simp, by simp, by simp, by simp, by simp⟩] at h
  exact ⟨h.1, h.2.q, h.2.p⟩
end Go.Proofs.YtipleaojejbkpaaDoor
namespace Go.Proofs.YtipleaojejbkpaaDoor
open Go Go.RowKit
set_option linter.unusedVariables false
set_option linter.unusedSimpArgs false
set_option maxRecDepth 100000

set_option maxHeartbeats 1000000 in
theorem EqualFunc_same {w : World} {A B : Option Addr} {n c d : Nat} {L : List (List Int)} (h : RdS w A n c L) (h' : RdS w B n d L) :
    Calls Tryd.prog 40 #[.slice A n c, .slice B n d, .func (.func 24) #[] #[]] w fun e w' => e = .returned (.bool true) ∧ w = w' := by
  have hcap := h.cap
  have hmax := h.max
  have hcap' := h'.cap
  have hmax' := h'.max
  go_enter Tryd.func40, Tryd.ntmps40
  go_wp2
  go_loop [17] (fun i => ∃ k : Nat, k ≤ n ∧ i = .int .i64 k) (fun i => n - (intOf i).toNat)
  case atStart => exact ⟨0, Nat.zero_le _, rfl⟩
  case round =>
    obtain ⟨k, hk, rfl⟩ := hrel
    by_cases hlt : k < n
    · obtain ⟨g, o, rfl, hc⟩ := h.at_ (by omega)
      obtain ⟨g', o', rfl, hc'⟩ := h'.at_ (by omega)
      obtain ⟨A', c', h1, h2⟩ := hc k hlt
      obtain ⟨B', d', h1', h2'⟩ := hc' k hlt
      have D := Lib.hid (Equal_same h2 h2')
      clear hc hc' h2 h2'
      generalize (L.getD k []).length = m at *
      go_wp2_with (fail)
      refine D.out.mono ?_
      rintro e w2 ⟨rfl, rfl⟩
      go_wp2
      go_round
      case rel => exact ⟨k + 1, by omega, by go_num⟩
      case measure => simp [intOf]; omega
    · obtain rfl : k = n := by omega
      go_wp2
      go_ret
      exact ⟨rfl, rfl⟩

set_option maxHeartbeats 1000000 in
theorem sameRecord_same {w : World} {A B A' B' : Option Addr} {c e c' e' : Nat} {d : List Int} {q : Int} {L : List (List Int)}
    (h0 : Rd w A d.length c d) (h1 : RdS w B L.length e L) (g0 : Rd w A' d.length c' d) (g1 : RdS w B' L.length e' L) :
    Calls Tryd.prog 37 #[.agg #[.slice A d.length c, .int .u64 q, .slice B L.length e], .agg #[.slice A' d.length c', .int .u64 q, .slice B' L.length e']] w
      fun e w' => e = .returned (.bool true) ∧ Kp no w w' := by
  have ka : Kp no w ((w.alloc (.cells #[.slice A d.length c, .int .u64 q, .slice B L.length e] 47)).alloc (.cells #[.slice A' d.length c', .int .u64 q, .slice B' L.length e'] 47)) := ((Kp.refl _ _).alloc _).alloc _
  have D0 := Lib.hid (Equal_same (h0.keepN ka) (g0.keepN ka))
  have D1 := Lib.hid (EqualFunc_same (h1.keepN ka) (g1.keepN ka))
  go_enter Tryd.func37, Tryd.ntmps37
  go_wp2_with (fail)
  refine D0.out.mono ?_
  rintro e w2 ⟨rfl, rfl⟩
  go_wp2_with (fail)
  refine D1.out.mono ?_
  rintro e w2 ⟨rfl, rfl⟩
  go_wp2
  go_ret
  exact ⟨rfl, ka⟩

set_option maxHeartbeats 4000000 in
theorem recordsLive_calls {w : World} (hE : RErrs w) :
    Calls Tryd.prog 32 #[] w fun e w' => e = .returned (.bool true) ∧ Kp no w w' := by
  have b1 : Byt [5] := Byt.one (by omega) (by omega)
  have b6 : Byt [10, 1, 5, 16, 3] := by intro x hx; simp at hx; omega
  have ka : Kp no w (w.alloc (.cells (nums .u8 [5]).toArray 5)) := (Kp.refl _ _).alloc _
  have R1 := Rd.lit w 5 [5] b1 (by simp)
  have D1 := Lib.hid (RecordBytes_calls ⟨some ⟨w.heap.size, 0, none⟩, 1, [5], 3, none, 0, []⟩ ⟨R1, RdS.nil _ _ _ (by show (0 : Nat) ≤ _; omega)⟩ (by show (0 : Int) ≤ 3; omega) (by show (3 : Int) < _; omega) (by simp) (by simp) (by simp))
  simp only [rlive, RV.cells] at D1
  go_enter Tryd.func32, Tryd.ntmps32
  go_wp2_with (fail)
  refine D1.out.mono ?_
  rintro e w2 ⟨A2, c2, rfl, M2⟩
  have k2 := ka.then M2.kp
  have kc : Kp no w2 (w2.alloc (.cells (nums .u8 [10, 1, 5, 16, 3]).toArray 5)) := (Kp.refl _ _).alloc _
  have D2 := Lib.hid (RecordOf_calls (Rd.lit w2 5 [10, 1, 5, 16, 3] b6 (by simp)) (by simp) (hE.keepN (k2.then kc)))
  go_wp2_with (fail)
  refine D2.out.mono ?_
  rintro e w3 ⟨hk3, ⟨XA, f0, xd, xq, XB, f1, xl⟩, ok, rfl, hat, _, _, hres⟩
  obtain ⟨rfl, hq, hd⟩ := rlive_res hres
  simp only at hq hd
  subst hq hd
  have hp2 := hat.r
  simp only at hp2
  have k3 := (k2.then kc).then hk3
  have kx : Kp no w3 (w3.alloc (.cells #[.slice XA 1 f0, .int .u64 3, .slice XB xl.length f1] 47)) := (Kp.refl _ _).alloc _
  have hs3 : (w3.alloc (.cells #[.slice XA 1 f0, .int .u64 3, .slice XB xl.length f1] 47)).heap.size = w3.heap.size + 1 := by simp
  generalize hW3 : w3.alloc (.cells #[.slice XA 1 f0, .int .u64 3, .slice XB xl.length f1] 47) = W3 at *
  have ky : Kp no W3 (W3.alloc (.cells (nums .u8 [10, 1, 5, 16, 3]).toArray 5)) := (Kp.refl _ _).alloc _
  have RL := Rd.lit W3 5 [10, 1, 5, 16, 3] b6 (by simp)
  have kz : Kp no (W3.alloc (.cells (nums .u8 [10, 1, 5, 16, 3]).toArray 5)) ((W3.alloc (.cells (nums .u8 [10, 1, 5, 16, 3]).toArray 5)).alloc (.cells (nums .u8 [5]).toArray 5)) := (Kp.refl _ _).alloc _
  have R22 := Rd.lit (W3.alloc (.cells (nums .u8 [10, 1, 5, 16, 3]).toArray 5)) 5 [5] b1 (by simp)
  have hs4 : (W3.alloc (.cells (nums .u8 [10, 1, 5, 16, 3]).toArray 5)).heap.size = W3.heap.size + 1 := by simp
  rw [hs4, hs3] at R22
  rw [hs3] at RL
  have D3 := Lib.hid (Equal_same (M2.rd.keepN (kc.then (hk3.then (kx.then ky)))) RL)
  have D4 := Lib.hid (Equal_same (hp2.keepN (kx.then (ky.then kz))) R22)
  have kF := k3.then (kx.then (ky.then kz))
  subst hW3
  clear hs3 hs4 RL R22
  go_wp2_with (fail)
  refine D3.out.mono ?_
  rintro e w4 ⟨rfl, rfl⟩
  go_wp2_with (fail)
  refine D4.out.mono ?_
  rintro e w5 ⟨rfl, rfl⟩
  go_wp2
  go_ret
  exact ⟨rfl, kF⟩
end Go.Proofs.YtipleaojejbkpaaDoor
