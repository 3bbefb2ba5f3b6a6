/- (*PeerRecord).Marshal walked. -/
import Derived.Test.YtipleaojejbkpaaDoorRecE
import Derived.Test.YtipleaojejbkpaaDoorEMoreP
import Derived.Test.YtipleaojejbkpaaDoorTag
import Derived.Test.YtipleaojejbkpaaDoorMar
namespace Go.Proofs.YtipleaojejbkpaaDoor
open Go Go.RowKit
set_option linter.unusedVariables false
set_option linter.unusedSimpArgs false
set_option maxRecDepth 100000

set_option maxHeartbeats 1000000 in
theorem AB_own {w : World} {B : Nat} {u : Value} {l ys : List Int} {A : Option Addr} {n c : Nat} (h : Own w 5 B u l) (hB : B ≤ w.heap.size) (hl : l.length ≤ 1099511627776) (hR : Rd w A n c ys) (hn : n ≤ 1099511627776) (hx : Out (Of u) A) :
    Calls Tryd.prog 77 #[u, .slice A n c] w (Grown1 w B u (l ++ vint n ++ ys)) := by
  have D2 := Lib.hid (AV_calls h hB hl n (by omega) (by omega))
  have hvl : (l ++ vint (n : Int)).length ≤ l.length + 10 := by rw [List.length_append]; have := (vint_len n).2; omega
  generalize l ++ vint (n : Int) = q at *
  go_enter Tryd.func77, Tryd.ntmps77
  go_wp2_with (first | (go_at_call 78; refine D2.out.mono ?_; rintro e w2 ⟨A2, c2, rfl, hM2⟩; have hR2 := hR.keep hM2.kp hx) | (at_builtin; refine own_append B rfl (.tmp 9) (.tmp 10) 24 5 rfl Tryd.und_bytes Tryd.info_byte (.slice A2 q.length c2) q ys A n c rfl rfl hM2.own hR2 (by have := hM2.kp.size; omega) (by omega) ?_; intro v3 w3 hO3 hk3 hw3 _))
  go_ret
  exact Grown1.of hO3 (hM2.kp.grew hM2.went hk3) (hM2.went.trans hw3 hM2.kp.size)

/-- An address within a record's message; a record's message. -/
def aw (a : List Int) : List Int := wb 3 (ob 1 a)
def ras (L : List (List Int)) : List Int := (L.map aw).flatten
def sqb (q : Int) : List Int := if q = 0 then [] else [16] ++ vint q
def rb (st : RS) : List Int := ob 1 st.peer ++ sqb st.seq ++ ras st.addrs
theorem ob_len {f : Int} (l : List Int) : (ob f l).length ≤ l.length + 11 := by
  unfold ob
  split
  · simp
  · have := wb_len f l; have := (vint_len l.length).2; omega
theorem sqb_len (q : Int) : (sqb q).length ≤ 11 := by
  unfold sqb
  split
  · simp
  · have := (vint_len q).2; simp only [List.length_append, List.length_cons, List.length_nil]; omega
theorem aw_len (a : List Int) : (aw a).length ≤ a.length + 22 := by
  have := ob_len (f := 1) a
  unfold aw
  have := wb_len 3 (ob 1 a); have := (vint_len (ob 1 a).length).2; omega
theorem ras_next (L : List (List Int)) (k : Nat) (hk : k < L.length) : ras (L.take (k + 1)) = ras (L.take k) ++ aw (L.getD k []) := by
  unfold ras
  rw [take_next L k hk, List.map_append, List.flatten_append]
  simp
theorem ob_nil {f : Int} {l : List Int} (h : l.length = 0) : ob f l = [] := by unfold ob; rw [if_pos (List.eq_nil_of_length_eq_zero h)]
theorem ob_some {f : Int} {l : List Int} (h : 0 < l.length) : ob f l = wb f l := by unfold ob; rw [if_neg (by intro h0; rw [h0] at h; simp at h)]

/-- Bytes of one's own, so far. -/
def SoFar (w : World) (q : List Int) (v : Value) (wx : World) : Prop := ∃ B1 c1, v = .slice B1 q.length c1 ∧ Own wx 5 w.heap.size (.slice B1 q.length c1) q ∧ Kp no w wx

set_option maxHeartbeats 8000000 in
theorem RMarshal_calls {w : World} {B g : Nat} {T : TypeId} {pe ad : Value} {st : RS} (hb : Blk w g #[pe, .int .u64 st.seq, ad] T) (hst : RSt w B g pe (.int .u64 st.seq) ad st) (hs0 : 0 ≤ st.seq) (hs1 : st.seq < 18446744073709551616)
    (hp : st.peer.length ≤ 1000) (ha : ∀ a ∈ st.addrs, a.length ≤ 1000) (hn : st.addrs.length ≤ 1000) :
    Calls Tryd.prog 62 #[.pointer (some ⟨g, 0, none⟩)] w (MadeOk w (rb st)) := by
  obtain ⟨PA, PC, rfl, RP, _, LP, nP⟩ := hst.pe
  obtain ⟨us, hV, hPs⟩ := hst.ad
  obtain ⟨Aad, cad, rfl, hc1, hc2, hc3⟩ := hV.form
  have hul := hPs.len
  have HC3 := Lib.hid hc3
  have HUL := Lib.hid hul
  have HA := Lib.hid (show ∀ j, j < us.length → (st.addrs.getD j []).length ≤ 1000 from fun j hj => ha _ (by rw [List.getD_eq_getElem?_getD, List.getElem?_eq_getElem (by omega)]; simp))
  have hun : us.length ≤ 1000 := by omega
  have x0 := hb.cell 0
  have x1 := hb.cell 1
  have x2 := hb.cell 2
  clear hst ha hc3 hul hn
  go_enter Tryd.func62, Tryd.ntmps62
  go_upto_if 13 with (fail)
  go_cut [4] from 8 (fun v wx => SoFar w (ob 1 st.peer) v wx)
  case first =>
    by_cases hz : st.peer.length = 0
    · have hzi : ¬ (0 : Int) < (st.peer.length : Int) := by omega
      have HZ := Lib.hid (ob_nil (f := 1) hz)
      clear hz
      go_wp2_with (fail)
      go_meet
      case rel => rw [HZ.out]; exact ⟨none, 0, rfl, Own.nil _ _ _, Kp.refl _ _⟩
    · have hzi : (0 : Int) < (st.peer.length : Int) := by omega
      have HZ := Lib.hid (ob_some (f := 1) (l := st.peer) (by omega))
      have D1 := Lib.hid (AT_calls (Own.nil w 5 w.heap.size) (Nat.le_refl _) (by simp) 1 2 (by unfold tagOk; omega))
      clear hz
      go_wp2_with (fail)
      refine D1.out.mono ?_
      rintro e w1 ⟨B1, cc1, rfl, hM1⟩
      have k1 : Kp no w w1 := hM1.kpn (Own.nil w 5 w.heap.size) (Nat.le_refl _) (Kp.refl _ _)
      have O1 := hM1.own
      have y0 := (hb.keepN k1).cell 0
      obtain ⟨q1, hq1⟩ : ∃ q, q = ([] : List Int) ++ [1 * 8 + 2] := ⟨_, rfl⟩
      rw [← hq1] at O1
      have hl1 : q1.length ≤ 5 := by rw [hq1]; simp
      have hr1 : (([] : List Int) ++ [1 * 8 + 2]).length = q1.length := by rw [hq1]
      have D2 := Lib.hid (AB_calls O1 k1.size (by omega) (RP.keepN k1) (by omega) LP)
      have HQ1 := Lib.hid hq1
      rw [hr1]
      clear hM1 hq1 hr1 D1
      go_wp2_with (fail)
      refine D2.out.mono ?_
      rintro e w2 ⟨B2, cc2, rfl, hM2⟩
      have k2 : Kp no w w2 := hM2.kpn O1 (Nat.le_refl _) k1
      have F := Lib.hid (show SoFar w (ob 1 st.peer) (.slice B2 (q1 ++ vint st.peer.length ++ st.peer).length cc2) w2 from by
        have e1 : ob 1 st.peer = q1 ++ vint st.peer.length ++ st.peer := by rw [HZ.out, HQ1.out]; simp [wb]
        rw [e1]; exact ⟨B2, cc2, rfl, hM2.own, k2⟩)
      generalize (q1 ++ vint st.peer.length ++ st.peer).length = m at *
      clear hM2
      go_wp2_with (fail)
      go_meet
      case rel => exact F.out
  case rest =>
    obtain ⟨B1, c1, rfl, O1, k1⟩ := hcut
    have y1 := (hb.keepN k1).cell 1
    have hl1 : (ob 1 st.peer).length ≤ 1100 := by have := ob_len (f := 1) st.peer; omega
    obtain ⟨p1, hp1⟩ : ∃ p, p = ob 1 st.peer := ⟨_, rfl⟩
    rw [← hp1] at O1 hl1
    have HP1 := Lib.hid hp1
    rw [← hp1]
    clear hp1 x0 x1 x2
    obtain ⟨wa, rfl⟩ : ∃ wa, wa = wc := ⟨_, rfl⟩
    go_upto_if 26 with (fail)
    go_cut [4] from 8 (fun v wx => SoFar w (p1 ++ sqb st.seq) v wx)
    case first =>
      by_cases hz : st.seq = 0
      · have HZ := Lib.hid (show sqb st.seq = [] from by unfold sqb; rw [if_pos hz])
        have hz2 : (st.seq == 0) = true := by simpa using hz
        have hz3 : (st.seq != 0) = false := by simpa using hz
        go_wp2_with (fail)
        go_meet
        case rel => rw [HZ.out, List.append_nil]; exact ⟨B1, c1, rfl, O1, k1⟩
      · have HZ := Lib.hid (show sqb st.seq = [16] ++ vint st.seq from by unfold sqb; rw [if_neg hz])
        have hz2 : (st.seq == 0) = false := by simpa using hz
        have hz3 : (st.seq != 0) = true := by simpa using hz
        have D1 := Lib.hid (AT_calls O1 k1.size (by omega) 2 0 (by unfold tagOk; omega))
        go_wp2_with (fail)
        refine D1.out.mono ?_
        rintro e w1 ⟨B2, cc1, rfl, hM1⟩
        have k2 : Kp no w w1 := hM1.kpn O1 (Nat.le_refl _) k1
        have O2 := hM1.own
        have y2 := (hb.keepN k2).cell 1
        obtain ⟨q1, hq1⟩ : ∃ q, q = p1 ++ [2 * 8 + 0] := ⟨_, rfl⟩
        rw [← hq1] at O2
        have hl2 : q1.length ≤ 1200 := by rw [hq1]; simp; omega
        have hr1 : (p1 ++ [2 * 8 + 0]).length = q1.length := by rw [hq1]
        have D2 := Lib.hid (AV_calls O2 k2.size (by omega) st.seq hs0 hs1)
        have HQ1 := Lib.hid hq1
        rw [hr1]
        clear hM1 hq1 hr1 D1
        go_wp2_with (fail)
        refine D2.out.mono ?_
        rintro e w2 ⟨B3, cc2, rfl, hM2⟩
        have k3 : Kp no w w2 := hM2.kpn O2 (Nat.le_refl _) k2
        have F := Lib.hid (show SoFar w (p1 ++ sqb st.seq) (.slice B3 (q1 ++ vint st.seq).length cc2) w2 from by
          have e1 : p1 ++ sqb st.seq = q1 ++ vint st.seq := by rw [HZ.out, HQ1.out]; simp
          rw [e1]; exact ⟨B3, cc2, rfl, hM2.own, k3⟩)
        generalize (q1 ++ vint st.seq).length = m at *
        clear hM2
        go_wp2_with (fail)
        go_meet
        case rel => exact F.out
    case rest =>
      obtain ⟨B2, c2, rfl, O2, k2⟩ := hcut
      have y2 := (hb.keepN k2).cell 2
      have hl2 : (p1 ++ sqb st.seq).length ≤ 1200 := by have := sqb_len st.seq; simp only [List.length_append]; omega
      obtain ⟨p2, hp2⟩ : ∃ p, p = p1 ++ sqb st.seq := ⟨_, rfl⟩
      rw [← hp2] at O2 hl2
      have HP2 := Lib.hid hp2
      rw [← hp2]
      clear hp2 y1
      have HI : Hid (p2 = p2 ++ ras (st.addrs.take 0)) := Lib.hid (by simp [ras])
      obtain ⟨wb0, rfl⟩ : ∃ wb0, wb0 = wc := ⟨_, rfl⟩
      go_wp2
      go_loopw [4, 40] (fun v iv wr => ∃ (k : Nat) (q : List Int) (B3 : Option Addr) (c3 : Nat), k ≤ us.length ∧ iv = .int .i64 k ∧ v = .slice B3 q.length c3 ∧ Own wr 5 w.heap.size (.slice B3 q.length c3) q ∧ Kp no w wr ∧ q.length ≤ 2000 + 1100 * k ∧ Hid (q = p2 ++ ras (st.addrs.take k))) (fun _ iv _ => us.length - (intOf iv).toNat)
      case atStart => exact ⟨0, p2, B2, c2, Nat.zero_le _, rfl, rfl, O2, k2, by omega, HI⟩
      case round =>
        obtain ⟨k, q, B3, c3, hk0, rfl, rfl, O3, k3, hql, HQ⟩ := hrel
        by_cases hlt : k < us.length
        · obtain ⟨g0, hA0, hc⟩ := HC3.out (by omega)
          subst hA0
          have hkA : k < st.addrs.length := by have := HUL.out; omega
          obtain ⟨ga, sl, hu, _, hbk, hsl⟩ := hPs.get k hlt
          have hra := Lib.hid (ras_next st.addrs k hkA)
          have hal := HA.out k hlt
          generalize st.addrs.getD k [] = y at *
          obtain ⟨A', c', rfl, hR', _, hL', hn'⟩ := hsl
          have cu := hc k hlt
          rw [hu] at cu
          have cu1 := k3.cellN cu
          have cu2 : wr.cell? ⟨g0, 0 + k, none⟩ = some (.pointer (some ⟨ga, 0, none⟩)) := (by rw [Nat.zero_add]; exact cu1)
          have bk1 := hbk.keepN k3
          have cs := bk1.cell 0
          have RY := hR'.keepN k3
          have hks := k3.size
          obtain ⟨wr0, rfl⟩ : ∃ wr0, wr0 = wr := ⟨_, rfl⟩
          clear hc hu cu
          go_upto_if 49 with (fail)
          go_cut [7] from 41 to 63 (fun v wx => ∃ A8 c8, v = .slice A8 (ob 1 y).length c8 ∧ MadeAt wr0 wx A8 c8 (ob 1 y))
          case first =>
            by_cases hz : y.length = 0
            · have hzi : ¬ (0 : Int) < (y.length : Int) := by omega
              have HZ := Lib.hid (ob_nil (f := 1) hz)
              clear hz
              go_wp2_with (fail)
              go_meet
              case rel => rw [HZ.out]; exact ⟨none, 0, rfl, Own.nil _ _ _, Rd.nil _, Kp.refl _ _⟩
            · have hzi : (0 : Int) < (y.length : Int) := by omega
              have HZ := Lib.hid (ob_some (f := 1) (l := y) (by omega))
              have D1 := Lib.hid (AT_calls (Own.nil wr0 5 wr0.heap.size) (Nat.le_refl _) (by simp) 1 2 (by unfold tagOk; omega))
              clear hz
              go_wp2_with (fail)
              refine D1.out.mono ?_
              rintro e w1 ⟨B1, cc1, rfl, hM1⟩
              have k1 : Kp no wr0 w1 := hM1.kpn (Own.nil wr0 5 wr0.heap.size) (Nat.le_refl _) (Kp.refl _ _)
              have O1 := hM1.own
              have z0 := (bk1.keepN k1).cell 0
              obtain ⟨q1, hq1⟩ : ∃ q, q = ([] : List Int) ++ [1 * 8 + 2] := ⟨_, rfl⟩
              rw [← hq1] at O1
              have hl1 : q1.length ≤ 5 := by rw [hq1]; simp
              have hr1 : (([] : List Int) ++ [1 * 8 + 2]).length = q1.length := by rw [hq1]
              have D2 := Lib.hid (AB_calls O1 k1.size (by omega) (RY.keepN k1) (by omega) (hL'.mono hks))
              have HQ1 := Lib.hid hq1
              rw [hr1]
              clear hM1 hq1 hr1 D1
              go_wp2_with (fail)
              refine D2.out.mono ?_
              rintro e w2 ⟨B2', cc2, rfl, hM2⟩
              have k2' : Kp no wr0 w2 := hM2.kpn O1 (Nat.le_refl _) k1
              have F := Lib.hid (show ∃ A8 c8, Value.slice B2' (q1 ++ vint y.length ++ y).length cc2 = .slice A8 (ob 1 y).length c8 ∧ MadeAt wr0 w2 A8 c8 (ob 1 y) from by
                have e1 : ob 1 y = q1 ++ vint y.length ++ y := by rw [HZ.out, HQ1.out]; simp [wb]
                rw [e1]; exact ⟨B2', cc2, rfl, hM2.own, hM2.rd, k2'⟩)
              generalize (q1 ++ vint y.length ++ y).length = m at *
              clear hM2
              go_wp2_with (fail)
              go_meet
              case rel => exact F.out
          case rest =>
            obtain ⟨A8, c8, rfl, M8⟩ := hcut
            have ho := ob_len (f := 1) y
            have O4 := O3.keepN M8.kp
            have k4 := k3.then M8.kp
            have HB3 := Lib.hid O3.base
            obtain ⟨p3, hp3⟩ : ∃ p, p = ob 1 y := ⟨_, rfl⟩
            rw [← hp3] at M8 ho
            have HP3 := Lib.hid hp3
            rw [← hp3]
            clear hp3
            have D4 := Lib.hid (AT_calls O4 k4.size (by omega) 3 2 (by unfold tagOk; omega))
            go_wp2_with (fail)
            refine D4.out.mono ?_
            rintro e w5 ⟨B5, c5, rfl, hM5⟩
            have k5 : Kp no w w5 := hM5.kpn O4 (Nat.le_refl _) k4
            have O5 := hM5.own
            have R8 := M8.rd.keep hM5.kp (fun a ha hv => by
              have h1 := (HB3.out _ hv).2
              have h2 := (M8.own.base a.block (by rw [ha]; rfl)).1
              omega)
            have hx8 : Out (Of (.slice B5 (q ++ [3 * 8 + 2]).length c5)) A8 := fun a ha hv => by
              have h2 := M8.own.base a.block (by rw [ha]; rfl)
              rcases hM5.went with hw | ⟨b, hw, hbb⟩
              · have hv' : (Value.slice B3 q.length c3).ownBlock = some a.block := by rw [← hw]; exact hv
                have h1 := (HB3.out _ hv').2
                omega
              · have hv' : _ = some a.block := hv
                rw [hw] at hv'
                injection hv' with hv'
                omega
            obtain ⟨q1, hq1⟩ : ∃ q1, q1 = q ++ [3 * 8 + 2] := ⟨_, rfl⟩
            rw [← hq1] at O5 hx8
            have hl1 : q1.length ≤ 2001 + 1100 * k := by rw [hq1]; simp; omega
            have hr1 : (q ++ [3 * 8 + 2]).length = q1.length := by rw [hq1]
            have D5 := Lib.hid (AB_own O5 k5.size (by omega) R8 (by omega) hx8)
            have HQ1 := Lib.hid hq1
            rw [hr1]
            clear hM5 hq1 hr1 D4
            go_wp2_with (fail)
            refine D5.out.mono ?_
            rintro e w6 ⟨B6, c6, rfl, hM6⟩
            have k6 : Kp no w w6 := hM6.kpn O5 (Nat.le_refl _) k5
            have O6 := hM6.own
            obtain ⟨q2, hq2⟩ : ∃ q2, q2 = q1 ++ vint p3.length ++ p3 := ⟨_, rfl⟩
            rw [← hq2] at O6
            have hl2 : q2.length ≤ 2000 + 1100 * (k + 1) := by rw [hq2]; have := (vint_len p3.length).2; simp only [List.length_append]; omega
            have hr2 : (q1 ++ vint p3.length ++ p3).length = q2.length := by rw [hq2]
            have HQ2 := Lib.hid (show q2 = p2 ++ ras (st.addrs.take (k + 1)) from by
              rw [hra.out, hq2, HQ1.out, HQ.out, HP3.out]; simp [aw, wb])
            rw [hr2]
            clear hM6 hq2 hr2 D5
            go_wp2_with (fail)
            go_roundw
            case rel => exact ⟨k + 1, q2, B6, c6, by omega, by go_num, rfl, O6, k6, hl2, HQ2⟩
            case measure => simp [intOf]; omega
        · obtain rfl : k = us.length := by omega
          have F := Lib.hid (show MadeOk w (rb st) (.returned (.tuple #[.slice B3 q.length c3, .nilIface])) wr from by
            have e1 : rb st = q := by
              unfold rb
              rw [HQ.out, HUL.out, List.take_length, HP2.out, HP1.out]
            rw [e1]
            obtain ⟨A9, c9, h9, hr9, _⟩ := O3.rd
            injection h9 with h9 _ h9'
            subst h9 h9'
            exact ⟨B3, c3, rfl, O3, hr9, k3⟩)
          clear HQ
          go_wp2
          go_ret2
          exact F.out
end Go.Proofs.YtipleaojejbkpaaDoor
