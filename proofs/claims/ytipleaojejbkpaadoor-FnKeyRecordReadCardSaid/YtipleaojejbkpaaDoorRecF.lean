/- The reference's RecordOf. -/
import Derived.Test.YtipleaojejbkpaaDoorRecD
import Derived.Test.YtipleaojejbkpaaDoorEnvD
import Derived.Deep.CutBlock
namespace Go.Proofs.YtipleaojejbkpaaDoor
open Go Go.RowKit
set_option linter.unusedVariables false
set_option linter.unusedSimpArgs false
set_option maxRecDepth 100000

/-- What the reference tells of a record. -/
def SRRes (l : List Int) (x : RV) (ok opn : Bool) : Prop := match whole rstep l RS.zero with
  | .ok s => ok = true ∧ opn = false ∧ RTold s x
  | .bad => ok = false ∧ opn = false
  | .opn => opn = true
def SRO (w : World) (l : List Int) (e : Ending) (w' : World) : Prop :=
  Kp no w w' ∧ ∃ (x : RV) (ok opn : Bool), e = .returned (.tuple #[.agg x.cells, .bool ok, .bool opn]) ∧ x.At w' ∧ SRRes l x ok opn
theorem SRRes.no {l : List Int} {x : RV} (h : whole rstep l RS.zero = .bad) : SRRes l x false false := by unfold SRRes; rw [h]; exact ⟨rfl, rfl⟩
theorem SRRes.opn {l : List Int} {x : RV} (h : whole rstep l RS.zero = .opn) : SRRes l x false true := by unfold SRRes; rw [h]
theorem SRRes.yes {l : List Int} {x : RV} {s : RS} (h : whole rstep l RS.zero = .ok s) (ht : RTold s x) : SRRes l x true false := by unfold SRRes; rw [h]; exact ⟨rfl, rfl, ht⟩

/-- Where the reading of the fields stands. -/
structure SRRel (w : World) (B : Nat) (A1 : Option Addr) (c1 : Nat) (xs : List FM) (i : Nat) (s : RS) (pe ad : Value) (us : List Value) (wr : World) : Prop where
  le : i ≤ xs.length
  kp : Kp no w wr
  sz : B ≤ wr.heap.size
  blk : Blk wr w.heap.size #[pe, .int .u64 s.seq, ad] 47
  run : fo rstep ((xs.take i).map (·.f)) RS.zero = .ok s
  pe : SlAt wr (fun j => w.heap.size ≤ j) pe s.peer
  row : VOwn wr 24 B ad us
  at_ : SsAt wr (fun j => w.heap.size ≤ j) us s.addrs
  frd : FRd wr A1 xs.length c1 xs
  ul : us.length ≤ i
/-- Where the reading of an address stands. -/
structure SIRel (w w3 : World) (ys : List FM) (j : Nat) (a : List Int) (v : Value) (wr : World) : Prop where
  le : j ≤ ys.length
  kp : Kp no w3 wr
  run : fo astep ((ys.take j).map (·.f)) [] = .ok a
  sl : SlAt wr (fun j => w.heap.size ≤ j) v a
theorem FRd.block {w : World} {A : Option Addr} {n c : Nat} {xs : List FM} (h : FRd w A n c xs) : ∀ g0, A = some ⟨g0, 0, none⟩ → 0 < n → g0 < w.heap.size := fun g0 e hp => by
  obtain ⟨g, e', hc⟩ := h.at_ hp
  rw [e] at e'
  cases e'
  have hl := h.len
  exact World.block_lt_of_cell? w ⟨g0, 0, none⟩ (u := .int .u64 (xs[0].f.num)) (by have := hc 0 0 (by omega) (by omega); simpa [FM.cells] using this)

theorem wfN_num : ∀ (k : Nat) (l : List Int) (fs : List Fld), Byt l → wfN k l = .ok fs → fs.length ≤ l.length
  | 0, l, fs, _, h => by simp [wfN] at h; subst h; simp
  | k + 1, [], fs, _, h => by simp [wfN] at h; subst h; simp
  | k + 1, c :: l, fs, hb, h => by
    have h' : (match hd (c :: l) with | .bad => Res.bad | .opn => .opn | .fld f r => (wfN k r).put f) = .ok fs := h
    cases hh : hd (c :: l) with
    | bad => rw [hh] at h'; cases h'
    | opn => rw [hh] at h'; cases h'
    | fld g r =>
      rw [hh] at h'
      have hs := hd_short hb hh
      cases hr : wfN k r with
      | bad => simp [hr, Res.put] at h'
      | opn => simp [hr, Res.put] at h'
      | ok gs =>
        simp [hr, Res.put] at h'
        subst h'
        have h1 := wfN_num k r gs hs.2 hr
        have h2 := hs.1
        simp only [List.length_cons] at *
        omega
theorem wf_num {l : List Int} {fs : List Fld} (hb : Byt l) (h : wf l = .ok fs) : fs.length ≤ l.length := wfN_num _ l fs hb h

set_option maxHeartbeats 8000000 in
theorem sRecordOf_calls {w : World} {A : Option Addr} {n c : Nat} {l : List Int} (h : Rd w A n c l) (hn : n ≤ 1099511627776) (hlo : Lo w.heap.size A) :
    Calls Tryd.prog 35 #[.slice A n c] w (SRO w l) := by
  obtain rfl := h.len
  have k1 : Kp no w (w.alloc (.cells #[.slice none 0 0, .int .u64 0, .slice none 0 0] 47)) := (Kp.refl _ _).alloc _
  have D := Lib.hid (sFields_calls (h.keepN k1) hn (fun a ha => by have := hlo a ha; simp; omega))
  have hr1 := Blk.new w #[.slice none 0 0, .int .u64 0, .slice none 0 0] 47
  go_enter Tryd.func35, Tryd.ntmps35
  go_wp2_with (fail)
  refine D.out.mono ?_
  rintro e w2 ⟨hk2, hm⟩
  have k2 := k1.then hk2
  have hr2 := hr1.keepN hk2
  have hs2 : w.heap.size < w2.heap.size := by have := hk2.size; simp at this; omega
  cases hw : wf l with
  | bad =>
    rw [hw] at hm
    obtain rfl := hm
    have R := Lib.hid (SRRes.no (l := l) (x := RV.zero) (by unfold whole; rw [hw]))
    clear hw
    have zf0 := hr2.free 0
    have zf1 := hr2.free 1
    have zf2 := hr2.free 2
    have zc0 := hr2.cell 0
    have zc1 := hr2.cell 1
    have zc2 := hr2.cell 2
    go_wp2
    have hk4 : Kp no w (((w2.setCell ⟨w.heap.size, 0, none⟩ (.slice none 0 0)).setCell ⟨w.heap.size, 1, none⟩ (.int .u64 0)).setCell ⟨w.heap.size, 2, none⟩ (.slice none 0 0)) := ((k2.setCell (p := ⟨w.heap.size, 0, none⟩) (fun h => by simp at h) (.slice none 0 0)).setCell (p := ⟨w.heap.size, 1, none⟩) (fun h => by simp at h) (.int .u64 0)).setCell (p := ⟨w.heap.size, 2, none⟩) (fun h => by simp at h) (.slice none 0 0)
    have hr4 := ((hr2.set 0 (.slice none 0 0)).set 1 (.int .u64 0)).set 2 (.slice none 0 0)
    (try simp only [Exit.inBlock, Exit.then]); refine bodyPost_ret (results_cellrow_tmp2 rfl _ _ w.heap.size 47 RV.zero.cells _ rfl hr4 Tryd.underlying47 rfl infoRD) rfl ?_
    exact ⟨hk4, RV.zero, false, false, rfl, RV.zero_at _, R.out⟩
  | opn =>
    rw [hw] at hm
    obtain rfl := hm
    have R := Lib.hid (SRRes.opn (l := l) (x := RV.zero) (by unfold whole; rw [hw]))
    clear hw
    have zf0 := hr2.free 0
    have zf1 := hr2.free 1
    have zf2 := hr2.free 2
    have zc0 := hr2.cell 0
    have zc1 := hr2.cell 1
    have zc2 := hr2.cell 2
    go_wp2
    have hk4 : Kp no w (((w2.setCell ⟨w.heap.size, 0, none⟩ (.slice none 0 0)).setCell ⟨w.heap.size, 1, none⟩ (.int .u64 0)).setCell ⟨w.heap.size, 2, none⟩ (.slice none 0 0)) := ((k2.setCell (p := ⟨w.heap.size, 0, none⟩) (fun h => by simp at h) (.slice none 0 0)).setCell (p := ⟨w.heap.size, 1, none⟩) (fun h => by simp at h) (.int .u64 0)).setCell (p := ⟨w.heap.size, 2, none⟩) (fun h => by simp at h) (.slice none 0 0)
    have hr4 := ((hr2.set 0 (.slice none 0 0)).set 1 (.int .u64 0)).set 2 (.slice none 0 0)
    (try simp only [Exit.inBlock, Exit.then]); refine bodyPost_ret (results_cellrow_tmp2 rfl _ _ w.heap.size 47 RV.zero.cells _ rfl hr4 Tryd.underlying47 rfl infoRD) rfl ?_
    exact ⟨hk4, RV.zero, false, true, rfl, RV.zero_at _, R.out⟩
  | ok fs =>
    rw [hw] at hm
    obtain ⟨A1, c1, xs, rfl, hR, rfl, hX, hnew⟩ := hm
    have HX := Lib.hid (fun x hx => hX x hx (fun j => w.heap.size ≤ j) (fun a ha hq => by have := hlo a ha; omega))
    clear hX
    have HN := Lib.hid hnew
    clear hnew
    have HW := Lib.hid hw
    have HL := Lib.hid (wf_len h.byt hw)
    clear hw
    have HI : SRRel w w2.heap.size A1 c1 xs 0 RS.zero (.slice none 0 0) (.slice none 0 0) [] w2 := ⟨by omega, k2, Nat.le_refl _, hr2, rfl, SlAt.nil _ _, VOwn.nil _ _ _, trivial, hR, by simp⟩
    have HG := Lib.hid hR.block
    have hcap := hR.cap
    have hmx := hR.max
    have hxn : xs.length ≤ 1099511627776 := by have := wf_num h.byt HW.out; rw [List.length_map] at this; omega
    clear hR hr2 hr1
    go_wp2
    go_loopw [26] (fun iv wr => ∃ i s pe ad us, iv = .int .i64 (i : Nat) ∧ SRRel w w2.heap.size A1 c1 xs i s pe ad us wr) (fun iv _ => xs.length - (intOf iv).toNat)
    case atStart => exact ⟨0, _, _, _, _, rfl, HI⟩
    case round =>
      obtain ⟨i, s, pe, ad, us, rfl, hle, hk, hsz, hrb, hrun, hpe, hV, hat, hf, hul⟩ := hrel
      obtain ⟨wo, rfl⟩ : ∃ wo : World, wo = wr := ⟨_, rfl⟩
      have hks := hk.size
      have hrl := hrb.lt
      obtain ⟨VA, vc, hadv, _, _, _⟩ := hV.form
      have rf0 := hrb.free 0
      have rf1 := hrb.free 1
      have rf2 := hrb.free 2
      have rc0 := hrb.cell 0
      have rc1 := hrb.cell 1
      have rc2 := hrb.cell 2
      by_cases hi : i < xs.length
      · obtain ⟨ga, rfl, hc⟩ := hf.at_ (by omega)
        have hga : w.heap.size + 1 ≤ ga := by have := HN.out _ rfl; simp at this; omega
        have hga2 : ga < w2.heap.size := HG.out ga rfl (by omega)
        have hx := hf.rd xs[i] (List.getElem_mem hi)
        have f0 := hc i 0 (by omega) hi
        have f1 := hc i 1 (by omega) hi
        have f2 := hc i 2 (by omega) hi
        have f3 := hc i 3 (by omega) hi
        clear hc
        have hft := fun s' => fs_take2 rstep xs RS.zero s s' i hi hrun
        have hfb := fs_bad rstep xs RS.zero s i hi hrun
        have hfo := fs_opn rstep xs RS.zero s i hi hrun
        have hxl := HX.out xs[i] (List.getElem_mem hi)
        have hxd : xs[i].f.data.length ≤ 1099511627776 := Nat.le_trans (HL.out xs[i].f (List.mem_map_of_mem (List.getElem_mem hi))) hn
        generalize hxs : xs[i] = x at *
        have HFT := Lib.hid hft
        have HFB := Lib.hid hfb
        have HFO := Lib.hid hfo
        have HRN := Lib.hid hrun
        clear hft hfb hfo hrun hxs
        simp only [FM.cells, List.getElem?_cons_zero, List.getElem?_cons_succ, Nat.add_zero] at f0 f1 f2 f3
        have hii : (i : Int) < (xs.length : Int) := by omega
        have hsplit : (x.f.num = 1 ∧ x.f.kind = 2) ∨ (x.f.num = 2 ∧ x.f.kind = 0) ∨ (x.f.num = 3 ∧ x.f.kind = 2) ∨ ((x.f.num = 1 ∧ ¬ x.f.kind = 2) ∨ (x.f.num = 2 ∧ ¬ x.f.kind = 0) ∨ (x.f.num = 3 ∧ ¬ x.f.kind = 2) ∨ (¬ x.f.num = 1 ∧ ¬ x.f.num = 2 ∧ ¬ x.f.num = 3)) := by omega
        rcases hsplit with ⟨hn1, hn2⟩ | ⟨hn1, hn2⟩ | ⟨hn1, hn2⟩ | hother
        · have hes : rstep s x.f = .ok { s with peer := x.f.data } := by unfold rstep; rw [if_pos ⟨hn1, hn2⟩]
          rw [hn1] at f0
          rw [hn2] at f1
          have HES := Lib.hid hes
          have HN1 := Lib.hid hn1
          have HN2 := Lib.hid hn2
          clear hes hn1 hn2
          go_wp2
          go_roundw
          case rel =>
            have kA : Kp (· = w.heap.size) wo ((wo.setCell ⟨w.heap.size, 0, none⟩ (.slice x.A x.f.data.length x.c)).alloc (.cells #[.int .u64 1, .int .u64 2, .int .u64 x.f.val, .slice x.A x.f.data.length x.c] 109)) := ((Kp.refl (· = w.heap.size) wo).setCell (p := ⟨w.heap.size, 0, none⟩) (fun _ => rfl) _).alloc _
            exact ⟨i + 1, { s with peer := x.f.data }, (.slice x.A x.f.data.length x.c), ad, us, rfl, by omega, hk.trans kA (fun j hj h => by omega), Nat.le_trans hsz kA.size, (hrb.set 0 _).alloc _, HFT.out _ HES.out, ⟨x.A, x.c, rfl, hx.keep kA (fun q hq h => hxl q hq (by have h : q.block = _ := h; omega)), hxl, fun q hq => (by have := hxl q hq; have := kA.size; simp only at *; omega), hxd⟩, hV.keep kA (fun j hj h => by have := (hV.base j hj).1; have h : j = _ := h; omega), hat.keep kA (fun j hj _ => by have hj : j = _ := hj; omega), hf.keep kA (fun a ha => by cases ha; show ¬ ga = _; omega) (fun y hy q hq h => HX.out y hy q hq (by have h : q.block = _ := h; omega)), by omega⟩
          case measure => simp [intOf]; omega
        · have hes : rstep s x.f = .ok { s with seq := x.f.val } := by unfold rstep; rw [if_neg (by omega), if_pos ⟨hn1, hn2⟩]
          rw [hn1] at f0
          rw [hn2] at f1
          have HES := Lib.hid hes
          clear hes hn1 hn2
          go_wp2
          go_roundw
          case rel =>
            have kA : Kp (· = w.heap.size) wo ((wo.setCell ⟨w.heap.size, 1, none⟩ (.int .u64 x.f.val)).alloc (.cells #[.int .u64 2, .int .u64 0, .int .u64 x.f.val, .slice x.A x.f.data.length x.c] 109)) := ((Kp.refl (· = w.heap.size) wo).setCell (p := ⟨w.heap.size, 1, none⟩) (fun _ => rfl) _).alloc _
            exact ⟨i + 1, { s with seq := x.f.val }, pe, ad, us, rfl, by omega, hk.trans kA (fun j hj h => by omega), Nat.le_trans hsz kA.size, (hrb.set 1 _).alloc _, HFT.out _ HES.out, hpe.keep kA (fun j hj _ => by have hj : j = _ := hj; omega), hV.keep kA (fun j hj h => by have := (hV.base j hj).1; have h : j = _ := h; omega), hat.keep kA (fun j hj _ => by have hj : j = _ := hj; omega), hf.keep kA (fun a ha => by cases ha; show ¬ ga = _; omega) (fun y hy q hq h => HX.out y hy q hq (by have h : q.block = _ := h; omega)), by omega⟩
          case measure => simp [intOf]; omega
        · have hes : rstep s x.f = addressed s (whole astep x.f.data []) := by unfold rstep; rw [if_neg (by omega), if_neg (by omega), if_pos ⟨hn1, hn2⟩]
          rw [hn1] at f0
          rw [hn2] at f1
          have HES := Lib.hid hes
          clear hes hn1 hn2
          have kf : Kp no wo (wo.alloc (.cells #[.int .u64 3, .int .u64 2, .int .u64 x.f.val, .slice x.A x.f.data.length x.c] 109)) := (Kp.refl _ _).alloc _
          have hrf := hrb.keepN kf
          have DI := Lib.hid (sFields_calls (hx.keepN kf) hxd (fun q hq => by have := hxl q hq; simp only at this; simp; omega))
          go_wp2_with (fail)
          refine DI.out.mono ?_
          rintro e w3 ⟨hk3, hmi⟩
          have k03 := kf.then hk3
          have kW3 := hk.then k03
          have hr3 := hrf.keepN hk3
          have hs3 := hk3.size
          have hxk := HL
          cases hwi : wf x.f.data with
          | bad =>
            rw [hwi] at hmi
            obtain rfl := hmi
            have R := Lib.hid (SRRes.no (l := l) (x := RV.zero) (whole_is HW.out (HFB.out (by rw [HES.out, show whole astep x.f.data [] = .bad from by unfold whole; rw [hwi]]; rfl))))
            clear hwi
            have zf0 := hr3.free 0
            have zf1 := hr3.free 1
            have zf2 := hr3.free 2
            have zc0 := hr3.cell 0
            have zc1 := hr3.cell 1
            have zc2 := hr3.cell 2
            go_wp2
            have hk4 : Kp no w (((w3.setCell ⟨w.heap.size, 0, none⟩ (.slice none 0 0)).setCell ⟨w.heap.size, 1, none⟩ (.int .u64 0)).setCell ⟨w.heap.size, 2, none⟩ (.slice none 0 0)) := ((kW3.setCell (p := ⟨w.heap.size, 0, none⟩) (fun h => by simp at h) (.slice none 0 0)).setCell (p := ⟨w.heap.size, 1, none⟩) (fun h => by simp at h) (.int .u64 0)).setCell (p := ⟨w.heap.size, 2, none⟩) (fun h => by simp at h) (.slice none 0 0)
            have hr4 := ((hr3.set 0 (.slice none 0 0)).set 1 (.int .u64 0)).set 2 (.slice none 0 0)
            (try simp only [Exit.inBlock, Exit.then]); refine bodyPost_ret (results_cellrow_tmp2 rfl _ _ w.heap.size 47 RV.zero.cells _ rfl hr4 Tryd.underlying47 rfl infoRD) rfl ?_
            exact ⟨hk4, RV.zero, false, false, rfl, RV.zero_at _, R.out⟩
          | opn =>
            rw [hwi] at hmi
            obtain rfl := hmi
            have R := Lib.hid (SRRes.opn (l := l) (x := RV.zero) (whole_is HW.out (HFO.out (by rw [HES.out, show whole astep x.f.data [] = .opn from by unfold whole; rw [hwi]]; rfl))))
            clear hwi
            have zf0 := hr3.free 0
            have zf1 := hr3.free 1
            have zf2 := hr3.free 2
            have zc0 := hr3.cell 0
            have zc1 := hr3.cell 1
            have zc2 := hr3.cell 2
            go_wp2
            have hk4 : Kp no w (((w3.setCell ⟨w.heap.size, 0, none⟩ (.slice none 0 0)).setCell ⟨w.heap.size, 1, none⟩ (.int .u64 0)).setCell ⟨w.heap.size, 2, none⟩ (.slice none 0 0)) := ((kW3.setCell (p := ⟨w.heap.size, 0, none⟩) (fun h => by simp at h) (.slice none 0 0)).setCell (p := ⟨w.heap.size, 1, none⟩) (fun h => by simp at h) (.int .u64 0)).setCell (p := ⟨w.heap.size, 2, none⟩) (fun h => by simp at h) (.slice none 0 0)
            have hr4 := ((hr3.set 0 (.slice none 0 0)).set 1 (.int .u64 0)).set 2 (.slice none 0 0)
            (try simp only [Exit.inBlock, Exit.then]); refine bodyPost_ret (results_cellrow_tmp2 rfl _ _ w.heap.size 47 RV.zero.cells _ rfl hr4 Tryd.underlying47 rfl infoRD) rfl ?_
            exact ⟨hk4, RV.zero, false, true, rfl, RV.zero_at _, R.out⟩
          | ok gs =>
            rw [hwi] at hmi
            obtain ⟨A2, c2, ys, rfl, hRi, rfl, hXi, hnewi⟩ := hmi
            have HXI := Lib.hid (fun y hy => hXi y hy (fun j => w.heap.size ≤ j) hxl)
            have HWI := Lib.hid hwi
            have HLI := Lib.hid (wf_len hx.byt hwi)
            have HRI := Lib.hid hRi
            have hcapi := hRi.cap
            have hmxi := hRi.max
            clear hXi hwi hnewi
            have HSI : SIRel w w3 ys 0 [] (.slice none 0 0) w3 := ⟨Nat.zero_le _, Kp.refl _ _, rfl, SlAt.nil _ _⟩
            clear hRi
            go_upto_block 3 with (fail)
            go_cut [8] from 76 to 90 (fun v wx => ∃ a, SIRel w w3 ys ys.length a v wx)
            case first =>
              go_wp2
              go_loopw [8, 76] (fun v jv wr => ∃ j a, jv = .int .i64 (j : Nat) ∧ SIRel w w3 ys j a v wr) (fun _ jv _ => ys.length - (intOf jv).toNat)
              case atStart => exact ⟨0, _, rfl, HSI⟩
              case round =>
                obtain ⟨j, a, rfl, hjl, hkj, hrunj, hsj⟩ := hrel
                by_cases hj : j < ys.length
                · obtain ⟨gb, rfl, hcj⟩ := (HRI.out.keepN hkj).at_ (by omega)
                  have hy := HRI.out.rd ys[j] (List.getElem_mem hj)
                  have g0 := hcj j 0 (by omega) hj
                  have g1 := hcj j 1 (by omega) hj
                  have g2 := hcj j 2 (by omega) hj
                  have g3 := hcj j 3 (by omega) hj
                  clear hcj
                  have hftj := fun s' => fs_take2 astep ys [] a s' j hj hrunj
                  have hyl := HXI.out ys[j] (List.getElem_mem hj)
                  have hyd : ys[j].f.data.length ≤ 1099511627776 := Nat.le_trans (HLI.out ys[j].f (List.mem_map_of_mem (List.getElem_mem hj))) hxd
                  generalize hyj : ys[j] = y at *
                  have HFTJ := Lib.hid hftj
                  clear hftj hyj hrunj
                  simp only [FM.cells, List.getElem?_cons_zero, List.getElem?_cons_succ, Nat.add_zero] at g0 g1 g2 g3
                  have hjj : (j : Int) < (ys.length : Int) := by omega
                  have hsp : (y.f.num = 1 ∧ y.f.kind = 2) ∨ (y.f.num = 1 ∧ ¬ y.f.kind = 2) ∨ ¬ y.f.num = 1 := by omega
                  rcases hsp with ⟨m1, m2⟩ | ⟨m1, m2⟩ | m1
                  · have hes : astep a y.f = .ok y.f.data := by unfold astep; rw [if_pos ⟨m1, m2⟩]
                    rw [m1] at g0
                    rw [m2] at g1
                    have HESJ := Lib.hid hes
                    clear hes m1 m2
                    have kB : Kp no wr (wr.alloc (.cells #[.int .u64 1, .int .u64 2, .int .u64 y.f.val, .slice y.A y.f.data.length y.c] 109)) := (Kp.refl _ _).alloc _
                    go_wp2
                    go_roundw
                    case rel => exact ⟨j + 1, _, rfl, by omega, hkj.then kB, HFTJ.out _ HESJ.out, y.A, y.c, rfl, (hy.keepN hkj).keepN kB, hyl, (fun q hq => by have := hyl q hq; have := hkj.size; have := kB.size; have := kf.size; simp only at *; omega), hyd⟩
                    case measure => simp [intOf]; omega
                  · have HESJ := Lib.hid (astep_0 a y.f (by omega))
                    have x2 : (y.f.kind == 2) = false := by simpa using m2
                    have x3 : (y.f.kind != 2) = true := by simpa using m2
                    rw [m1] at g0
                    clear m1
                    have kB : Kp no wr (wr.alloc (.cells #[.int .u64 1, .int .u64 y.f.kind, .int .u64 y.f.val, .slice y.A y.f.data.length y.c] 109)) := (Kp.refl _ _).alloc _
                    go_wp2
                    go_roundw
                    case rel => exact ⟨j + 1, _, rfl, by omega, hkj.then kB, HFTJ.out _ HESJ.out, hsj.keepN kB⟩
                    case measure => simp [intOf]; omega
                  · have HESJ := Lib.hid (astep_0 a y.f (by omega))
                    have x2 : (y.f.num == 1) = false := by simpa using m1
                    have x3 : (y.f.num != 1) = true := by simpa using m1
                    have kB : Kp no wr (wr.alloc (.cells #[.int .u64 y.f.num, .int .u64 y.f.kind, .int .u64 y.f.val, .slice y.A y.f.data.length y.c] 109)) := (Kp.refl _ _).alloc _
                    go_wp2
                    go_roundw
                    case rel => exact ⟨j + 1, _, rfl, by omega, hkj.then kB, HFTJ.out _ HESJ.out, hsj.keepN kB⟩
                    case measure => simp [intOf]; omega
                · obtain rfl : j = ys.length := by omega
                  go_wp2
                  go_meet
                  case rel => exact ⟨a, hjl, hkj, hrunj, hsj⟩
            case rest =>
              obtain ⟨a, _, hki, hruni, A8, c8, rfl, R8, O8, L8, n8⟩ := hcut
              have hwa : whole astep x.f.data [] = .ok a := whole_is HWI.out (by rw [List.take_length] at hruni; exact hruni)
              have hrn := HFT.out { s with addrs := s.addrs ++ [a] } (by rw [HES.out, hwa]; rfl)
              have HRN2 := Lib.hid hrn
              clear hrn hwa hruni
              have kW := kW3.then hki
              have k0c := k03.then hki
              have hrc := hrb.keepN k0c
              have yc2 := hrc.cell 2
              have yf2 := hrc.free 2
              have hVc := hV.keepN k0c
              have ka : Kp no wc (wc.alloc (.cells #[.slice A8 a.length c8] 24)) := (Kp.refl _ _).alloc _
              have hsc := k0c.size
              have hsa := ka.size
              have HVB := Lib.hid (fun q (hq : ad.ownBlock = some q) => (hV.base q hq).1)
              rw [hadv] at yc2
              go_wp2_with (first | (at_builtin; refine one_append w2.heap.size rfl (.tmp 92) (.tmp 94) 45 24 rfl Tryd.und_bytess (.slice none 0 0) 24 Tryd.info_bytes rfl (by omega) ad us (.slice A8 a.length c8) wc.heap.size hadv.symm rfl ((Blk.new wc #[.slice A8 a.length c8] 24).cell 0) rfl (hVc.keepN ka) (by omega) (by omega) ?_; intro A6 c6 w6 hV6 hk6 hw6; have b6 := (hrc.keepN ka).keep hk6 (fun h => by have := HVB.out _ h; omega); have e2 := b6.cell 2; have ef2 := b6.free 2))
              go_roundw
              case rel =>
                have kS : Kp (· = w.heap.size) w6 (w6.setCell ⟨w.heap.size, 2, none⟩ (.slice A6 (us.length + 1) c6)) := (Kp.refl (· = w.heap.size) w6).setCell (p := ⟨w.heap.size, 2, none⟩) (fun _ => rfl) _
                have kY : Kp (fun j => j = w.heap.size ∨ ad.ownBlock = some j) wc (w6.setCell ⟨w.heap.size, 2, none⟩ (.slice A6 (us.length + 1) c6)) := ((ka.mono (fun _ _ h => h.elim)).trans hk6 (fun _ _ h => .inr h)).trans kS (fun _ _ h => .inl h)
                have kX : Kp (fun j => j = w.heap.size ∨ ad.ownBlock = some j) wo (w6.setCell ⟨w.heap.size, 2, none⟩ (.slice A6 (us.length + 1) c6)) := (k0c.mono (fun _ _ h => h.elim)).trans kY (fun _ _ h => h)
                have hSub : ∀ j, (j = w.heap.size ∨ ad.ownBlock = some j) → w.heap.size ≤ j := fun j hj => by
                  rcases hj with hj | hj
                  · omega
                  · have := HVB.out j hj; omega
                have kF := hk.trans kX (fun j hj h => by have := hSub j h; omega)
                exact ⟨i + 1, { s with addrs := s.addrs ++ [a] }, pe, _, us ++ [.slice A8 a.length c8], rfl, by omega, kF, Nat.le_trans hsz kX.size, b6.set 2 _, HRN2.out, hpe.keep kX (fun j hj _ => hSub j hj), by
                    have := hV6.keep kS (fun j hj h => by have := (hV6.base j hj).1; have h : j = _ := h; omega)
                    simpa using this, SsAt.snoc (SlAt.keep ⟨A8, c8, rfl, R8, O8, L8, n8⟩ kY (fun j hj _ => hSub j hj)) (hat.keep kX (fun j hj _ => hSub j hj)), hf.keep kX (fun a ha h => by
                    cases ha
                    rcases h with h | h
                    · have h : ga = _ := h; omega
                    · have := HVB.out _ h; simp only at this; omega) (fun y hy q hq h => HX.out y hy q hq (hSub _ h)), by simp; omega⟩
              case measure => simp [intOf]; omega
        · have HES := Lib.hid (rstep_0 s x.f (by omega) (by omega) (by omega))
          have kf : Kp no wo (wo.alloc (.cells #[.int .u64 x.f.num, .int .u64 x.f.kind, .int .u64 x.f.val, .slice x.A x.f.data.length x.c] 109)) := (Kp.refl _ _).alloc _
          have REL := Lib.hid (show SRRel w w2.heap.size (some ⟨ga, 0, none⟩) c1 xs (i + 1) s pe ad us (wo.alloc (.cells #[.int .u64 x.f.num, .int .u64 x.f.kind, .int .u64 x.f.val, .slice x.A x.f.data.length x.c] 109)) from
            ⟨by omega, hk.then kf, Nat.le_trans hsz kf.size, hrb.keepN kf, HFT.out _ HES.out, hpe.keepN kf, hV.keepN kf, hat.keep kf (fun _ h _ => h.elim), hf.keepN kf, by omega⟩)
          rcases hother with ⟨hn1, hn2⟩ | ⟨hn1, hn2⟩ | ⟨hn1, hn2⟩ | ⟨n1, n2, n3⟩
          · have x2 : (x.f.kind == 2) = false := by simpa using hn2
            have x3 : (x.f.kind != 2) = true := by simpa using hn2
            rw [hn1] at f0 REL
            clear hn1
            go_wp2
            go_roundw
            case rel => exact ⟨i + 1, _, pe, ad, us, rfl, REL.out⟩
            case measure => simp [intOf]; omega
          · have x2 : (x.f.kind == 0) = false := by simpa using hn2
            have x3 : (x.f.kind != 0) = true := by simpa using hn2
            rw [hn1] at f0 REL
            clear hn1
            go_wp2
            go_roundw
            case rel => exact ⟨i + 1, _, pe, ad, us, rfl, REL.out⟩
            case measure => simp [intOf]; omega
          · have x2 : (x.f.kind == 2) = false := by simpa using hn2
            have x3 : (x.f.kind != 2) = true := by simpa using hn2
            rw [hn1] at f0 REL
            clear hn1
            go_wp2
            go_roundw
            case rel => exact ⟨i + 1, _, pe, ad, us, rfl, REL.out⟩
            case measure => simp [intOf]; omega
          · have x1 : (x.f.num == 1) = false := by simpa using n1
            have x2 : (x.f.num == 2) = false := by simpa using n2
            have x3 : (x.f.num == 3) = false := by simpa using n3
            have x4 : (x.f.num != 1) = true := by simpa using n1
            have x5 : (x.f.num != 2) = true := by simpa using n2
            have x6 : (x.f.num != 3) = true := by simpa using n3
            go_wp2
            go_roundw
            case rel => exact ⟨i + 1, _, pe, ad, us, rfl, REL.out⟩
            case measure => simp [intOf]; omega
      · obtain rfl : i = xs.length := by omega
        obtain ⟨PA, PC, rfl, RP, OP, LP, nP⟩ := hpe
        obtain ⟨BA, be, rfl, _⟩ := SsAt.rds hat hV
        rw [List.take_length] at hrun
        have HT := Lib.hid (SRRes.yes (l := l) (x := ⟨PA, PC, s.peer, s.seq, BA, be, s.addrs⟩) (whole_is HW.out hrun) ⟨rfl, rfl, rfl⟩)
        have kst := kp3 (Kp.refl (· = w.heap.size) wo) (.slice PA s.peer.length PC) (.int .u64 s.seq) (.slice BA s.addrs.length be)
        have hrF := ((hrb.set 0 (.slice PA s.peer.length PC)).set 1 (.int .u64 s.seq)).set 2 (.slice BA s.addrs.length be)
        have kF := hk.trans kst (fun j hj h => by omega)
        have RPF := RP.keep kst (fun a ha h => OP a ha (by have h : a.block = _ := h; omega))
        obtain ⟨BA', be', hq, RSF⟩ := SsAt.rds (hat.keep kst (fun j hj _ => by have hj : j = _ := hj; omega)) (hV.keep kst (fun j hj h => by have := (hV.base j hj).1; have h : j = _ := h; omega))
        injection hq with hq1 hq2 hq3
        subst hq1 hq3
        clear hrun hat hV hadv
        go_wp2
        (try simp only [Exit.inBlock, Exit.then]); refine bodyPost_ret (results_cellrow_tmp2 rfl _ _ w.heap.size 47 (RV.cells ⟨PA, PC, s.peer, s.seq, BA, be, s.addrs⟩) _ rfl hrF Tryd.underlying47 rfl infoRD) rfl ?_
        exact ⟨kF, ⟨PA, PC, s.peer, s.seq, BA, be, s.addrs⟩, true, false, rfl, ⟨RPF, RSF⟩, HT.out⟩
end Go.Proofs.YtipleaojejbkpaaDoor
