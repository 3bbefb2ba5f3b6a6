/- RecordOf walked. -/
import Derived.Test.YtipleaojejbkpaaDoorRecD
namespace Go.Proofs.YtipleaojejbkpaaDoor
open Go Go.RowKit
set_option linter.unusedVariables false
set_option linter.unusedSimpArgs false
set_option maxRecDepth 100000

/-- The copies that are made so far. -/
structure RLo (w3 : World) (r gO : Nat) (A4 : Option Addr) (c4 : Nat) (st : RS) (k : Nat) (v : Value) (us : List Value) (wr : World) : Prop where
  kp : Kp no w3 wr
  blk : Blk wr gO #[.slice A4 st.peer.length c4, .int .u64 st.seq, v] 47
  row : VOwn wr 24 w3.heap.size v us
  at_ : SsAt wr (So gO r v) us (st.addrs.take k)
  pe : SlAt wr (So gO r v) (.slice A4 st.peer.length c4) st.peer
  ne : ∀ i, v.ownBlock = some i → i ≠ gO

set_option maxHeartbeats 8000000 in
theorem RecordOf_calls {w : World} {A : Option Addr} {n c : Nat} {l : List Int} (h : Rd w A n c l) (hn : n ≤ 1099511627776) (hE : RErrs w) :
    Calls Tryd.prog 36 #[.slice A n c] w (ROf w l) := by
  obtain rfl := h.len
  have hsz := hE.sz
  have kx : Kp no w (w.alloc (.cells #[.slice none 0 0, .int .u64 0, .slice none 0 0] 47)) := (Kp.refl _ _).alloc _
  have k1 : Kp no w ((w.alloc (.cells #[.slice none 0 0, .int .u64 0, .slice none 0 0] 47)).alloc (.cells #[.slice none 0 0, .int .u64 0, .slice none 0 0] 99)) := kx.alloc _
  have D1 := Lib.hid (Clone_calls (h.keepN k1) (by omega))
  go_enter Tryd.func36, Tryd.ntmps36
  go_wp2_with (fail)
  refine D1.out.mono ?_
  rintro e w2 ⟨A2, c2, rfl, M2⟩
  have k2 := k1.then M2.kp
  have hE2 := hE.keepN k2
  have hs2 : w.heap.size + 2 ≤ w2.heap.size := by have := M2.kp.size; simp at this; omega
  have hr2 := ((Blk.new w #[.slice none 0 0, .int .u64 0, .slice none 0 0] 47).alloc (.cells #[.slice none 0 0, .int .u64 0, .slice none 0 0] 99)).keepN M2.kp
  have hb2 := (Blk.new (w.alloc (.cells #[.slice none 0 0, .int .u64 0, .slice none 0 0] 47)) #[.slice none 0 0, .int .u64 0, .slice none 0 0] 99).keepN M2.kp
  rw [show (w.alloc (.cells #[.slice none 0 0, .int .u64 0, .slice none 0 0] 47)).heap.size = w.heap.size + 1 from by simp] at hb2
  have D2 := Lib.hid (RUnmarshal_calls M2.rd hn hE2 (w.heap.size + 1) 99 (by omega) _ _ _ hb2 (M2.hi _ (fun i hi => by simp; omega)) M2.lo)
  go_wp2_with (fail)
  refine D2.out.mono ?_
  rintro e w3 ⟨hk3, pe, sq, ad, st, hb3, hs3, hnum, hF⟩
  have k3 : Kp no w w3 := k2.trans hk3 (fun i hi h => by omega)
  have hr3 := hr2.keep hk3 (by show ¬ _ = _; omega)
  have hss := hk3.size
  have hfe := hF.end_
  have HF2 := Lib.hid hF
  clear hF
  rcases hfe with rfl | ⟨t, v, rfl⟩
  · obtain ⟨PA, PC, rfl, RP, _, _, nP⟩ := hs3.pe
    obtain rfl := hs3.sq
    obtain ⟨us0, hV0, hP0⟩ := hs3.ad
    obtain ⟨Aad, cad, rfl, hc1, hc2, hc3⟩ := hV0.form
    have hul := hP0.len
    have kd : Kp no w3 w3.drew := (Kp.refl _ _).drew
    have DP := fun W (k : Kp no w3 W) => Lib.hid (Clone_calls (RP.keepN k) (by omega))
    have hS : ∀ W, Kp no w3 W → Kp no w3 W ∧ W.cell? ⟨w.heap.size + 1, 0, none⟩ = some (.slice PA st.peer.length PC) ∧ W.cell? ⟨w.heap.size + 1, 1, none⟩ = some (.int .u64 st.seq) := fun W k => ⟨k, (hb3.keepN k).cell 0, (hb3.keepN k).cell 1⟩
    have HS := Lib.hid hS
    clear hS
    have kda : Kp no w3 (w3.alloc (.cells #[.slice none 0 0, .int .u64 0, .slice none 0 0] 47)).drew := ((Kp.refl no w3).alloc _).drew
    have bz3 : Blk (w3.alloc (.cells #[.slice none 0 0, .int .u64 0, .slice none 0 0] 47)).drew w3.heap.size #[.slice none 0 0, .int .u64 0, .slice none 0 0] 47 := (Blk.new w3 #[.slice none 0 0, .int .u64 0, .slice none 0 0] 47).drew
    have HC3 := Lib.hid hc3
    have HUL := Lib.hid hul
    clear hs3 hc3 hul
    go_wp2_with (fail)
    go_upto_region 4 with (fail)
    go_cut [5] from 13 to 19 (fun e wx => ∃ gE A4 c4, RCut w3 st.peer st.seq e wx gE A4 c4)
    case first =>
      go_region_held3 (fun W => Kp no w3 W ∧ W.cell? ⟨w.heap.size + 1, 0, none⟩ = some (.slice PA st.peer.length PC) ∧ W.cell? ⟨w.heap.size + 1, 1, none⟩ = some (.int .u64 st.seq))
        ((exact HS.out _ (by first | with_reducible exact kd | with_reducible exact kda | with_reducible exact k4 | with_reducible exact k4.alloc _ | with_reducible exact kp3n k4 (by omega) _ _ _ | with_reducible exact kp3n (k4.alloc _) (by omega) _ _ _)))
        (first
        | (go_at_call 22; refine (DP _ (by first | with_reducible exact kd | with_reducible exact kda)).out.mono ?_; rintro e w4 ⟨A4, c4, rfl, M4⟩; have k4 : Kp no w3 w4 := (by first | with_reducible exact kd.then M4.kp | with_reducible exact kda.then M4.kp); have hz4 := k4.size; (try with_reducible have bz4 := bz3.keepN M4.kp); (try with_reducible have zf := fun i => bz4.free i); (try with_reducible have zc0 := bz4.cell 0); (try with_reducible have zc1 := bz4.cell 1); (try with_reducible have zc2 := bz4.cell 2)))
      all_goals
        go_wp2_with (fail)
        go_meet
        case rel =>
          have s4 := M4.kp.size
          have p4 := M4.own
          have R4 := M4.rd
          have n4 : ∀ a, A4 = some a → a.block < w4.heap.size := fun a ha => M4.lo a ha
          try simp at s4
          have q4 : ∀ a, A4 = some a → w3.heap.size ≤ a.block ∧ a.block < w4.heap.size := fun a ha => ⟨by have b1 := p4.base a.block (by rw [ha]; rfl); (try simp at b1); omega, n4 a ha⟩
          have LATE := RCut.late (q := st.seq) k4 R4 q4
          first
          | with_reducible exact LATE
          | exact RCut.early (by omega) (bz3.keepN M4.kp) k4 R4 (fun a ha => by have := q4 a ha; have b1 := p4.base a.block (by rw [ha]; rfl); (try simp at b1); omega)
    case rest =>
      obtain ⟨gE, A4, c4, rfl, hge, bE, kE, R4, o4, l4⟩ := hcut
      have b6 := hb3.keepN kE
      have x2 := b6.cell 2
      have hrlt : w.heap.size < w3.heap.size := by omega
      have HI : RLo w3 w.heap.size gE A4 c4 st 0 (.slice none 0 0) [] wc := ⟨kE, bE, VOwn.nil _ _ _, trivial, ⟨A4, c4, rfl, R4, (fun a ha hs => by
        refine o4 a ha ?_
        rcases hs with hs | hs | hs
        · exact .inr hs
        · exact .inl (by rw [hs]; exact hrlt)
        · cases hs), l4, nP⟩, (fun i hi => by cases hi)⟩
      clear bE R4 o4 l4 b6
      go_wp2
      go_loopw [22] (fun i wr => ∃ (k : Nat) (v : Value) (us : List Value), k ≤ us0.length ∧ us.length = k ∧ i = .int .i64 k ∧ RLo w3 w.heap.size gE A4 c4 st k v us wr) (fun i _ => us0.length - (intOf i).toNat)
      case atStart => exact ⟨0, _, [], Nat.zero_le _, rfl, rfl, HI⟩
      case round =>
        obtain ⟨k, v, us, hk0, hkl, rfl, HL⟩ := hrel
        subst hkl
        by_cases hlt : us.length < us0.length
        · obtain ⟨g0, hA0, hc⟩ := HC3.out (by omega)
          subst hA0
          have hkA : us.length < st.addrs.length := by have := HUL.out; omega
          obtain ⟨ga, sl, hu, _, hbk, hsl⟩ := hP0.get us.length hlt
          have htk := Lib.hid (take_next st.addrs us.length hkA)
          generalize st.addrs.getD us.length [] = y at *
          obtain ⟨A', c', rfl, hR', _, _, hn'⟩ := hsl
          have cu := hc us.length hlt
          rw [hu] at cu
          have cu1 := HL.kp.cellN cu
          have cu2 : wr.cell? ⟨g0, 0 + us.length, none⟩ = some (.pointer (some ⟨ga, 0, none⟩)) := (by rw [Nat.zero_add]; exact cu1)
          have bk1 := (hbk.keepN HL.kp).drew
          have cs := bk1.cell 0
          have kdr : Kp no wr wr.drew := (Kp.refl _ _).drew
          have DC := fun W (k : Kp no wr W) => Lib.hid (Clone_calls ((hR'.keepN HL.kp).keepN k) (by omega))
          have bO := HL.blk.drew
          have hgE := HL.blk.lt
          have hV := HL.row
          have hks := HL.kp.size
          obtain ⟨VA, vc, rfl, _, _, _⟩ := hV.form
          have o2 := bO.cell 2
          have HVB := Lib.hid (fun i (hi : (Value.slice VA us.length vc).ownBlock = some i) => (hV.base i hi))
          have HBO := Lib.hid HL.blk
          have HNE := Lib.hid HL.ne
          have HLH := Lib.hid HL
          clear hc hu cu hbk hR' HL
          go_wp2_with (fail)
          go_region_law (first
            | (go_simp; go_at_call 22; refine (DC _ kdr).out.mono ?_; rintro e w5 ⟨A5, c5, rfl, M5⟩; have k5 := kdr.then M5.kp; have hs5 := k5.size; have k5a : Kp no wr (w5.alloc (.cells #[.slice A5 y.length c5] 24)) := k5.alloc _; have o5 := (HBO.out.keepN k5).cell 2; have o5a := (HBO.out.keepN k5a).cell 2)
            | (refine step_one_append w3.heap.size rfl (.tmp 27) (.tmp 33) 45 24 rfl Tryd.und_bytess (.slice none 0 0) 24 Tryd.info_bytes rfl (by omega) (.slice VA us.length vc) us (.slice A5 y.length c5) w5.heap.size rfl rfl ((Blk.new w5 #[.slice A5 y.length c5] 24).cell 0) rfl (hV.keepN k5a) (by simp; omega) (by omega) ?_; intro A6 c6 w6 hV6 hk6 hw6; have bE6 := (HBO.out.keepN k5a).keep hk6 (fun h => HNE.out _ h rfl); have e2 := bE6.cell 2; have ef2 := bE6.free 2))
          all_goals
            go_wp2
            go_roundw
            case rel =>
              have kS : Kp (· = gE) w6 (w6.setCell ⟨gE, 2, none⟩ (.slice A6 (us.length + 1) c6)) := (Kp.refl (· = gE) w6).setCell (p := ⟨gE, 2, none⟩) (fun _ => rfl) _
              have HL := HLH.out
              have kF := ((HL.kp.then k5a).trans hk6 (fun i hi h => absurd (HVB.out i h).1 (by omega))).trans kS (fun i hi h => by have h : i = gE := h; omega)
              have HNE2 : ∀ i, (Value.slice A6 (us.length + 1) c6).ownBlock = some i → i ≠ gE := by
                intro j hj
                rcases hw6 with hw | ⟨b, hw, hbb⟩
                · rw [hw] at hj; exact HNE.out j hj
                · rw [hw] at hj; injection hj with hj; have := k5a.size; omega
              have hV7 := hV6.keep kS (fun j hj h => HNE2 j hj h)
              exact ⟨us.length + 1, _, us ++ [.slice A5 y.length c5], by omega, by simp, by go_num, kF, bE6.set 2 _, by simpa using hV7, by
                rw [htk.out]
                exact HL.at_.more k5a ((M5.sl (by omega)).keepN ((Kp.refl no w5).alloc _)) (fun a n c h => by have := M5.fresh a n c h; simpa using this) hgE (by omega) (fun i hi => (HVB.out i hi).2) hk6 hw6 kS, HL.pe.went k5a hk6 hw6 kS, (fun i hi => HNE2 i hi)⟩
            case measure => simp [intOf]; omega
        · have hke : us.length = us0.length := by omega
          have hkS := HL.kp.size
          have htk : st.addrs.take us.length = st.addrs := by rw [hke, HUL.out]; exact List.take_length
          have hat := HL.at_
          rw [htk] at hat
          have hpe := HL.pe
          have hV := HL.row
          have hbO := HL.blk
          have hkw := k3.then HL.kp
          have hr7 := hr3.keepN HL.kp
          obtain ⟨BA, be, rfl, _⟩ := SsAt.rds hat hV
          have hge2 : w.heap.size < gE := by omega
          have oc0 := hbO.cell 0
          have oc1 := hbO.cell 1
          have oc2 := hbO.cell 2
          have rf0 := hr7.free 0
          have rf1 := hr7.free 1
          have rf2 := hr7.free 2
          have qc0 := hr7.cell 0
          have qc1 := hr7.cell 1
          have qc2 := hr7.cell 2
          have kst := kp3 (Kp.refl (· = w.heap.size) wr) (.slice A4 st.peer.length c4) (.int .u64 st.seq) (.slice BA st.addrs.length be)
          have hrF := ((hr7.set 0 (.slice A4 st.peer.length c4)).set 1 (.int .u64 st.seq)).set 2 (.slice BA st.addrs.length be)
          have kF := hkw.trans kst (fun j hj h => by omega)
          obtain ⟨PA', PC', hpq, RPF, _, _, _⟩ := hpe.keep kst (fun j hj _ => .inr (.inl hj))
          injection hpq with hp1 hp2 hp3
          subst hp1 hp3
          obtain ⟨BA', be', hq, RSF⟩ := SsAt.rds (hat.keep kst (fun j hj _ => .inr (.inl hj))) (hV.keep kst (fun j hj h => by have := (hV.base j hj).1; have h : j = _ := h; omega))
          injection hq with hq1 hq2 hq3
          subst hq1 hq3
          clear hat hV HL hbO htk hpe hr7
          have hnl : ¬ (us.length : Int) < (us0.length : Int) := by omega
          clear hke hlt
          go_wp2
          (try simp only [Exit.inBlock, Exit.then]); refine bodyPost_ret (results_cellrow_tmp rfl _ _ w.heap.size 47 (RV.cells ⟨A4, c4, st.peer, st.seq, BA, be, st.addrs⟩) _ rfl hrF Tryd.underlying47 rfl infoRD) rfl ?_
          exact ⟨kF, ⟨A4, c4, st.peer, st.seq, BA, be, st.addrs⟩, true, rfl, ⟨RPF, RSF⟩, nP, hnum, RRes.ofOk HF2.out ⟨rfl, rfl, rfl⟩⟩
  · have R := Lib.hid (RRes.ofBad HF2.out ⟨t, v, rfl⟩ RV.zero)
    clear HF2
    have r0 := hr3.free 0
    have r1 := hr3.free 1
    have r2 := hr3.free 2
    have q0 := hr3.cell 0
    have q1 := hr3.cell 1
    have q2 := hr3.cell 2
    go_wp2
    have hk4 : Kp no w (((w3.setCell ⟨w.heap.size, 0, none⟩ (.slice none 0 0)).setCell ⟨w.heap.size, 1, none⟩ (.int .u64 0)).setCell ⟨w.heap.size, 2, none⟩ (.slice none 0 0)) :=
      ((k3.setCell (p := ⟨w.heap.size, 0, none⟩) (fun h => by simp at h) _).setCell (p := ⟨w.heap.size, 1, none⟩) (fun h => by simp at h) _).setCell (p := ⟨w.heap.size, 2, none⟩) (fun h => by simp at h) _
    have hr4 := ((hr3.set 0 (.slice none 0 0)).set 1 (.int .u64 0)).set 2 (.slice none 0 0)
    (try simp only [Exit.inBlock, Exit.then]); refine bodyPost_ret (results_cellrow_tmp rfl _ _ w.heap.size 47 RV.zero.cells _ rfl hr4 Tryd.underlying47 rfl infoRD) rfl ?_
    exact ⟨hk4, RV.zero, false, rfl, RV.zero_at _, by simp [RV.zero], by simp [RV.zero], R.out⟩
end Go.Proofs.YtipleaojejbkpaaDoor
