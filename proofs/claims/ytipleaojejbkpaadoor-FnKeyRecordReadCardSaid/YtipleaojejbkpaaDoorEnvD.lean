/- The reference's EnvelopeOf. -/
import Derived.Test.YtipleaojejbkpaaDoorEnvC
import Derived.Test.YtipleaojejbkpaaDoorOver
namespace Go.Proofs.YtipleaojejbkpaaDoor
open Go Go.RowKit
set_option linter.unusedVariables false
set_option linter.unusedSimpArgs false
set_option maxRecDepth 100000

theorem results_cellrow_tmp2 {P : Program} {fn : Func} {p u x : Tmp} {ty : TypeId} (h : fn.results = #[.cell p ty, .tmp u, .tmp x]) (tmps : Array Value) (w : World) (g : Nat) (t : TypeId) (cs : Array Value) (d : TypeDesc)
    (hp : tmps.getD p undef = .pointer (some ⟨g, 0, none⟩)) (hg : Blk w g cs t)
    (hu : P.underlying ty = some d) (hd : (match d with | .struct _ | .array _ _ => true | _ => false) = true) (hi : (P.info? ty).map (·.size) = some cs.size) :
    (results fn tmps).run P w = .ok (.tuple #[.agg cs, tmps.getD u undef, tmps.getD x undef]) w := by
  have hp' : tmps[p]?.getD undef = .pointer (some ⟨g, 0, none⟩) := by simpa using hp
  have hg' : w.heap[g]? = some (.cells cs t (0, 0)) := hg
  simp only [results, h]
  simp [Sem.run_bind, Result.andThen, hp', asAddr, run_loadVar_row w g t ty cs (0, 0) d hg' hu hd hi]

/-- What the reference tells of an envelope. -/
def SERes (l : List Int) (x : EV) (ok opn : Bool) : Prop := match efin (whole estep l ES.zero) with
  | .ok s => ok = true ∧ opn = false ∧ ETold s x
  | .bad => ok = false ∧ opn = false
  | .opn => opn = true
def SEO (w : World) (l : List Int) (e : Ending) (w' : World) : Prop :=
  Kp no w w' ∧ ∃ (x : EV) (ok opn : Bool), e = .returned (.tuple #[.agg x.cells, .bool ok, .bool opn]) ∧ x.At w' ∧ SERes l x ok opn

theorem fs_take2 {σ : Type} (step : σ → Fld → R3 σ) (xs : List FM) (s0 s s' : σ) (i : Nat) (h : i < xs.length) (ha : fo step ((xs.take i).map (·.f)) s0 = .ok s) (hb : step s xs[i].f = .ok s') : fo step ((xs.take (i + 1)).map (·.f)) s0 = .ok s' := by
  rw [List.take_succ_eq_append_getElem h, List.map_append, fo_app, ha]
  simp only [List.map_cons, List.map_nil, fo_one, hb]
theorem fs_bad {σ : Type} (step : σ → Fld → R3 σ) (xs : List FM) (s0 s : σ) (i : Nat) (h : i < xs.length) (ha : fo step ((xs.take i).map (·.f)) s0 = .ok s) (hb : step s xs[i].f = .bad) : fo step (xs.map (·.f)) s0 = .bad := by
  rw [← List.take_append_drop i xs, List.drop_eq_getElem_cons h, List.map_append, fo_app, ha]
  simp only [List.map_cons, fo, hb]
theorem fs_opn {σ : Type} (step : σ → Fld → R3 σ) (xs : List FM) (s0 s : σ) (i : Nat) (h : i < xs.length) (ha : fo step ((xs.take i).map (·.f)) s0 = .ok s) (hb : step s xs[i].f = .opn) : fo step (xs.map (·.f)) s0 = .opn := by
  rw [← List.take_append_drop i xs, List.drop_eq_getElem_cons h, List.map_append, fo_app, ha]
  simp only [List.map_cons, fo, hb]

/-- Where the reading of the fields stands. -/
structure SERel (w : World) (gR gK : Nat) (A1 : Option Addr) (c1 : Nat) (xs : List FM) (i : Nat) (s : ES) (has : Bool) (ty pl sg : Value) (k : Int) (sl : Value) (ik h : Bool) (ks : KS) (wr : World) : Prop where
  le : i ≤ xs.length
  kp : Kp no w wr
  blk : Blk wr gR #[.bool has, .int .i32 0, .slice none 0 0, ty, pl, sg] 64
  kblk : Blk wr gK #[.int .i32 k, sl, .bool ik, .bool h] 81
  sk : SK wr (fun j => w.heap.size ≤ j) k sl ik h ks
  run : fo estep ((xs.take i).map (·.f)) ES.zero = .ok s
  key : s.key.getD (none, none) = ks ∧ has = s.key.isSome
  z : has = false → k = 0 ∧ sl = .slice none 0 0
  ty : SlAt wr (fun j => w.heap.size ≤ j) ty s.ty
  pl : SlAt wr (fun j => w.heap.size ≤ j) pl s.pl
  sg : SlAt wr (fun j => w.heap.size ≤ j) sg s.sg
  frd : FRd wr A1 xs.length c1 xs
theorem whole_is {σ : Type} {st : σ → Fld → R3 σ} {l : List Int} {s : σ} {r : R3 σ} {xs : List FM} (hw : wf l = .ok (xs.map (·.f))) (h : fo st (xs.map (·.f)) s = r) : whole st l s = r := by rw [whole_ok hw]; exact h
theorem SERes.no {l : List Int} {x : EV} (h : efin (whole estep l ES.zero) = .bad) : SERes l x false false := by unfold SERes; rw [h]; exact ⟨rfl, rfl⟩
theorem SERes.opn {l : List Int} {x : EV} (h : efin (whole estep l ES.zero) = .opn) : SERes l x false true := by unfold SERes; rw [h]
theorem SERes.yes {l : List Int} {x : EV} {s : ES} (h : efin (whole estep l ES.zero) = .ok s) (ht : ETold s x) : SERes l x true false := by unfold SERes; rw [h]; exact ⟨rfl, rfl, ht⟩

theorem fld_len {l : List Int} (hb : Byt l) {f : Fld} {r : List Int} (h : hd l = .fld f r) : f.data.length ≤ l.length := by
  obtain ⟨n, k, _, _, _, _, _, _, _, hv, _, _, hd', h1, h2, h3, h4⟩ := hd_fld hb h
  rw [hd']
  split
  · rename_i hk
    unfold dof
    split
    · rename_i v k' hz
      rw [bsz_len (hb.drop _) hz]
      obtain ⟨a, b, c, _⟩ := bsz_some (hb.drop _) hz
      rw [List.length_drop] at c
      omega
    · simp
  · simp
theorem wfN_len : ∀ (k : Nat) (l : List Int) (fs : List Fld), Byt l → wfN k l = .ok fs → ∀ f ∈ fs, f.data.length ≤ l.length
  | 0, l, fs, _, h, f, hf => by simp [wfN] at h; subst h; cases hf
  | k + 1, [], fs, _, h, f, hf => by simp [wfN] at h; subst h; cases hf
  | k + 1, c :: l, fs, hb, h, f, hf => by
    have h' : (match hd (c :: l) with | .bad => Res.bad | .opn => .opn | .fld f r => (wfN k r).put f) = .ok fs := h
    cases hh : hd (c :: l) with
    | bad => rw [hh] at h'; cases h'
    | opn => rw [hh] at h'; cases h'
    | fld g r =>
      rw [hh] at h'
      have hs := hd_short hb hh
      have hl := fld_len hb hh
      cases hr : wfN k r with
      | bad => simp [hr, Res.put] at h'
      | opn => simp [hr, Res.put] at h'
      | ok gs =>
        simp [hr, Res.put] at h'
        subst h'
        rcases List.mem_cons.1 hf with rfl | hf
        · exact hl
        · exact Nat.le_trans (wfN_len k r gs hs.2 hr f hf) (Nat.le_of_lt hs.1)
theorem wf_len {l : List Int} {fs : List Fld} (hb : Byt l) (h : wf l = .ok fs) : ∀ f ∈ fs, f.data.length ≤ l.length := wfN_len _ l fs hb h

set_option maxHeartbeats 8000000 in
theorem sEnvelopeOf_calls {w : World} {A : Option Addr} {n c : Nat} {l : List Int} (h : Rd w A n c l) (hn : n ≤ 1099511627776) (hlo : Lo w.heap.size A) :
    Calls Tryd.prog 42 #[.slice A n c] w (SEO w l) := by
  obtain rfl := h.len
  have k1 : Kp no w (w.alloc (.cells #[.bool false, .int .i32 0, .slice none 0 0, .slice none 0 0, .slice none 0 0, .slice none 0 0] 64)) := (Kp.refl _ _).alloc _
  have D := Lib.hid (sFields_calls (h.keepN k1) hn (fun a ha => by have := hlo a ha; simp; omega))
  have hr1 := Blk.new w #[.bool false, .int .i32 0, .slice none 0 0, .slice none 0 0, .slice none 0 0, .slice none 0 0] 64
  go_enter Tryd.func42, Tryd.ntmps42
  go_wp2_with (fail)
  refine D.out.mono ?_
  rintro e w2 ⟨hk2, hm⟩
  have k2 := k1.then hk2
  have hr2 := hr1.keepN hk2
  have hs2 : w.heap.size < w2.heap.size := by have := hk2.size; simp at this; omega
  cases hw : wf l with
  | bad =>
    rw [hw] at hm
    obtain rfl := hm
    have R := Lib.hid (SERes.no (l := l) (x := EV.zero) (by rw [show whole estep l ES.zero = .bad from by unfold whole; rw [hw]]; rfl))
    clear hw
    have rf0 := hr2.free 0
    have rf1 := hr2.free 1
    have rf2 := hr2.free 2
    have rf3 := hr2.free 3
    have rf4 := hr2.free 4
    have rf5 := hr2.free 5
    have rc0 := hr2.cell 0
    have rc1 := hr2.cell 1
    have rc2 := hr2.cell 2
    have rc3 := hr2.cell 3
    have rc4 := hr2.cell 4
    have rc5 := hr2.cell 5
    go_wp2
    have hk4 : Kp no w ((((((w2.setCell ⟨w.heap.size, 0, none⟩ (.bool false)).setCell ⟨w.heap.size, 1, none⟩ (.int .i32 0)).setCell ⟨w.heap.size, 2, none⟩ (.slice none 0 0)).setCell ⟨w.heap.size, 3, none⟩ (.slice none 0 0)).setCell ⟨w.heap.size, 4, none⟩ (.slice none 0 0)).setCell ⟨w.heap.size, 5, none⟩ (.slice none 0 0)) := ((((((k2.setCell (p := ⟨w.heap.size, 0, none⟩) (fun h => by simp at h) (.bool false)).setCell (p := ⟨w.heap.size, 1, none⟩) (fun h => by simp at h) (.int .i32 0)).setCell (p := ⟨w.heap.size, 2, none⟩) (fun h => by simp at h) (.slice none 0 0)).setCell (p := ⟨w.heap.size, 3, none⟩) (fun h => by simp at h) (.slice none 0 0)).setCell (p := ⟨w.heap.size, 4, none⟩) (fun h => by simp at h) (.slice none 0 0)).setCell (p := ⟨w.heap.size, 5, none⟩) (fun h => by simp at h) (.slice none 0 0))
    have hr4 := ((((((hr2.set 0 (.bool false)).set 1 (.int .i32 0)).set 2 (.slice none 0 0)).set 3 (.slice none 0 0)).set 4 (.slice none 0 0)).set 5 (.slice none 0 0))
    (try simp only [Exit.inBlock, Exit.then]); refine bodyPost_ret (results_cellrow_tmp2 rfl _ _ w.heap.size 64 EV.zero.cells _ rfl hr4 Tryd.underlying64 rfl infoE) rfl ?_
    exact ⟨hk4, EV.zero, false, false, rfl, EV.zero_at _, R.out⟩
  | opn =>
    rw [hw] at hm
    obtain rfl := hm
    have R := Lib.hid (SERes.opn (l := l) (x := EV.zero) (by rw [show whole estep l ES.zero = .opn from by unfold whole; rw [hw]]; rfl))
    clear hw
    have rf0 := hr2.free 0
    have rf1 := hr2.free 1
    have rf2 := hr2.free 2
    have rf3 := hr2.free 3
    have rf4 := hr2.free 4
    have rf5 := hr2.free 5
    have rc0 := hr2.cell 0
    have rc1 := hr2.cell 1
    have rc2 := hr2.cell 2
    have rc3 := hr2.cell 3
    have rc4 := hr2.cell 4
    have rc5 := hr2.cell 5
    go_wp2
    have hk4 : Kp no w ((((((w2.setCell ⟨w.heap.size, 0, none⟩ (.bool false)).setCell ⟨w.heap.size, 1, none⟩ (.int .i32 0)).setCell ⟨w.heap.size, 2, none⟩ (.slice none 0 0)).setCell ⟨w.heap.size, 3, none⟩ (.slice none 0 0)).setCell ⟨w.heap.size, 4, none⟩ (.slice none 0 0)).setCell ⟨w.heap.size, 5, none⟩ (.slice none 0 0)) := ((((((k2.setCell (p := ⟨w.heap.size, 0, none⟩) (fun h => by simp at h) (.bool false)).setCell (p := ⟨w.heap.size, 1, none⟩) (fun h => by simp at h) (.int .i32 0)).setCell (p := ⟨w.heap.size, 2, none⟩) (fun h => by simp at h) (.slice none 0 0)).setCell (p := ⟨w.heap.size, 3, none⟩) (fun h => by simp at h) (.slice none 0 0)).setCell (p := ⟨w.heap.size, 4, none⟩) (fun h => by simp at h) (.slice none 0 0)).setCell (p := ⟨w.heap.size, 5, none⟩) (fun h => by simp at h) (.slice none 0 0))
    have hr4 := ((((((hr2.set 0 (.bool false)).set 1 (.int .i32 0)).set 2 (.slice none 0 0)).set 3 (.slice none 0 0)).set 4 (.slice none 0 0)).set 5 (.slice none 0 0))
    (try simp only [Exit.inBlock, Exit.then]); refine bodyPost_ret (results_cellrow_tmp2 rfl _ _ w.heap.size 64 EV.zero.cells _ rfl hr4 Tryd.underlying64 rfl infoE) rfl ?_
    exact ⟨hk4, EV.zero, false, true, rfl, EV.zero_at _, R.out⟩
  | ok fs =>
    rw [hw] at hm
    obtain ⟨A1, c1, xs, rfl, hR, rfl, hX, hnew⟩ := hm
    have HX := Lib.hid (fun x hx => hX x hx (fun j => w.heap.size ≤ j) (fun a ha hq => by have := hlo a ha; omega))
    clear hX
    have HN := Lib.hid hnew
    clear hnew
    have HW := Lib.hid hw
    have HL := Lib.hid (wf_len h.byt hw)
    clear hw
    have ka : Kp no w2 (w2.alloc (.cells #[.int .i32 0, .slice none 0 0, .bool false, .bool false] 81)) := (Kp.refl _ _).alloc _
    have HI : SERel w w.heap.size w2.heap.size A1 c1 xs 0 ES.zero false (.slice none 0 0) (.slice none 0 0) (.slice none 0 0) 0 (.slice none 0 0) false false (none, none) (w2.alloc (.cells #[.int .i32 0, .slice none 0 0, .bool false, .bool false] 81)) :=
      ⟨by omega, k2.then ka, hr2.keepN ka, Blk.new _ _ _, ⟨rfl, rfl, (fun _ h => by cases h), by omega, none, 0, 0, rfl, Out.none _, (fun _ h => by cases h)⟩, rfl, ⟨rfl, rfl⟩, (fun _ => ⟨rfl, rfl⟩), SlAt.nil _ _, SlAt.nil _ _, SlAt.nil _ _, hR.keepN ka⟩
    have HG := Lib.hid (show ∀ g0, A1 = some ⟨g0, 0, none⟩ → 0 < xs.length → g0 < w2.heap.size from fun g0 e hp => by
      obtain ⟨g, e', hc⟩ := hR.at_ hp
      rw [e] at e'
      cases e'
      exact World.block_lt_of_cell? w2 ⟨g0, 0, none⟩ (u := .int .u64 (xs[0].f.num)) (by have := hc 0 0 (by omega) hp; simpa [FM.cells] using this))
    have hcap := hR.cap
    have hmx := hR.max
    clear hR hr2 hr1
    go_wp2
    go_loopw [23] (fun iv wr => ∃ i s has ty pl sg k sl ik h ks, iv = .int .i64 (i : Nat) ∧ SERel w w.heap.size w2.heap.size A1 c1 xs i s has ty pl sg k sl ik h ks wr) (fun iv _ => xs.length - (intOf iv).toNat)
    case atStart => exact ⟨0, _, _, _, _, _, _, _, _, _, _, rfl, HI⟩
    case round =>
      obtain ⟨i, s, has, ty, pl, sg, k, sl, ik, h', ks, rfl, hle, hk, hrb, hkb, hsk, hrun, ⟨hkey, hhas⟩, hz, hty, hpl, hsg, hf⟩ := hrel
      have hks := hk.size
      have hrl := hrb.lt
      have hkl := hkb.lt
      by_cases hi : i < xs.length
      · obtain ⟨ga, rfl, hc⟩ := hf.at_ (by omega)
        have hga : w.heap.size + 1 ≤ ga := by have := HN.out _ rfl; simp at this; omega
        have hga2 : ga < w2.heap.size := HG.out ga rfl (by omega)
        have hx := hf.rd xs[i] (List.getElem_mem hi)
        have f0 := hc i 0 (by omega) hi
        have f1 := hc i 1 (by omega) hi
        have f2 := hc i 2 (by omega) hi
        have f3 := hc i 3 (by omega) hi
        clear hc
        have hft := fun s' => fs_take2 estep xs ES.zero s s' i hi hrun
        have hfb := fs_bad estep xs ES.zero s i hi hrun
        have hfo := fs_opn estep xs ES.zero s i hi hrun
        have hxl := HX.out xs[i] (List.getElem_mem hi)
        have hxd : xs[i].f.data.length ≤ 1099511627776 := Nat.le_trans (HL.out xs[i].f (List.mem_map_of_mem (List.getElem_mem hi))) hn
        generalize hxs : xs[i] = x at *
        have HFT := Lib.hid hft
        have HFB := Lib.hid hfb
        have HFO := Lib.hid hfo
        have HRN := Lib.hid hrun
        clear hft hfb hfo hrun hxs
        simp only [FM.cells, List.getElem?_cons_zero, List.getElem?_cons_succ, Nat.add_zero] at f0 f1 f2 f3
        have hii : (i : Int) < (xs.length : Int) := by omega
        have kf : Kp no wr (wr.alloc (.cells #[.int .u64 x.f.num, .int .u64 x.f.kind, .int .u64 x.f.val, .slice x.A x.f.data.length x.c] 109)) := (Kp.refl _ _).alloc _
        by_cases hk2 : x.f.kind = 2
        · skip
          rw [hk2] at f1
          have rf0 := hrb.free 0
          have rf3 := hrb.free 3
          have rf4 := hrb.free 4
          have rf5 := hrb.free 5
          have rc0 := hrb.cell 0
          have rc3 := hrb.cell 3
          have rc4 := hrb.cell 4
          have rc5 := hrb.cell 5
          have hsplit : x.f.num = 1 ∨ x.f.num = 2 ∨ x.f.num = 3 ∨ x.f.num = 5 ∨ (¬ x.f.num = 1 ∧ ¬ x.f.num = 2 ∧ ¬ x.f.num = 3 ∧ ¬ x.f.num = 5) := by omega
          rcases hsplit with hn | hn | hn | hn | ⟨n1, n2, n3, n5⟩
          · rw [hn] at f0
            have hes1 : estep s x.f = keyed s (wf x.f.data) := by unfold estep; rw [if_pos hk2, if_pos hn]
            have kA : Kp (· = w.heap.size) wr ((wr.setCell ⟨w.heap.size, 0, none⟩ (.bool true)).alloc (.cells #[.int .u64 1, .int .u64 2, .int .u64 x.f.val, .slice x.A x.f.data.length x.c] 109)) := ((Kp.refl (· = w.heap.size) wr).setCell (p := ⟨w.heap.size, 0, none⟩) (fun _ => rfl) _).alloc _
            have hsA := kA.size
            have kW := hk.trans kA (fun j hj h => by omega)
            have hrA := (hrb.set 0 (.bool true)).alloc (.cells #[.int .u64 1, .int .u64 2, .int .u64 x.f.val, .slice x.A x.f.data.length x.c] 109)
            have DO := Lib.hid (sOver_calls (hx.keep kA (fun q hq h => hxl q hq (by have h : q.block = _ := h; omega))) hxd (fun q hq => by have := hxl q hq; simp only at this; omega) (fun j => w.heap.size ≤ j) w2.heap.size 81 (by omega) k sl ik h' ks (hkb.keep kA (by show ¬ _ = _; omega)) (hsk.keep kA (fun j hj => by have hj : j = _ := hj; omega)) hxl)
            go_wp2_with (fail)
            refine DO.out.mono ?_
            rintro e w3 ⟨hkO, k3', sl3, ik3, hh3, ks3, hb3, hs3, hmm⟩
            have hk3 : Kp no w w3 := kW.trans hkO (fun j hj h => by omega)
            have hr3 := hrA.keep hkO (by show ¬ _ = _; omega)
            have yf0 := hr3.free 0
            have yf1 := hr3.free 1
            have yf2 := hr3.free 2
            have yf3 := hr3.free 3
            have yf4 := hr3.free 4
            have yf5 := hr3.free 5
            have yc0 := hr3.cell 0
            have yc1 := hr3.cell 1
            have yc2 := hr3.cell 2
            have yc3 := hr3.cell 3
            have yc4 := hr3.cell 4
            have yc5 := hr3.cell 5
            cases hwd : wf x.f.data with
              | ok gs =>
                rw [hwd] at hmm
                obtain ⟨rfl, rfl⟩ := hmm
                have hes : estep s x.f = .ok { s with key := some (gs.foldl kstep ks) } := by rw [hes1, hwd]; show R3.ok _ = _; rw [hkey]
                have hkk : Kp (fun j => j = w.heap.size ∨ j = w2.heap.size) wr w3 := (kA.mono (fun j _ h => .inl h)).trans hkO (fun j hj h => .inr h)
                clear hwd
                go_wp2
                go_roundw
                case rel =>
                  exact ⟨i + 1, _, true, ty, pl, sg, k3', sl3, ik3, hh3, _, rfl, by omega, hk3, hr3, hb3, hs3, HFT.out _ hes, ⟨rfl, rfl⟩, (fun h => by cases h), hty.keep hkk (fun j hj _ => by rcases hj with hj | hj <;> omega), hpl.keep hkk (fun j hj _ => by rcases hj with hj | hj <;> omega), hsg.keep hkk (fun j hj _ => by rcases hj with hj | hj <;> omega), hf.keep hkk (fun a ha h => by cases ha; rcases h with h | h <;> (have h : ga = _ := h; omega)) (fun y hy q hq h => HX.out y hy q hq (by rcases h with h | h <;> (have h : q.block = _ := h; omega)))⟩
                case measure => simp [intOf]; omega
              | bad =>
                rw [hwd] at hmm
                obtain rfl := hmm
                have R := Lib.hid (SERes.no (l := l) (x := EV.zero) (by rw [whole_is HW.out (HFB.out (by rw [hes1, hwd]; rfl))]; rfl))
                clear hwd
                go_wp2
                have hk4 : Kp no w ((((((w3.setCell ⟨w.heap.size, 0, none⟩ (.bool false)).setCell ⟨w.heap.size, 1, none⟩ (.int .i32 0)).setCell ⟨w.heap.size, 2, none⟩ (.slice none 0 0)).setCell ⟨w.heap.size, 3, none⟩ (.slice none 0 0)).setCell ⟨w.heap.size, 4, none⟩ (.slice none 0 0)).setCell ⟨w.heap.size, 5, none⟩ (.slice none 0 0)) := ((((((hk3.setCell (p := ⟨w.heap.size, 0, none⟩) (fun h => by simp at h) (.bool false)).setCell (p := ⟨w.heap.size, 1, none⟩) (fun h => by simp at h) (.int .i32 0)).setCell (p := ⟨w.heap.size, 2, none⟩) (fun h => by simp at h) (.slice none 0 0)).setCell (p := ⟨w.heap.size, 3, none⟩) (fun h => by simp at h) (.slice none 0 0)).setCell (p := ⟨w.heap.size, 4, none⟩) (fun h => by simp at h) (.slice none 0 0)).setCell (p := ⟨w.heap.size, 5, none⟩) (fun h => by simp at h) (.slice none 0 0))
                have hr4 := ((((((hr3.set 0 (.bool false)).set 1 (.int .i32 0)).set 2 (.slice none 0 0)).set 3 (.slice none 0 0)).set 4 (.slice none 0 0)).set 5 (.slice none 0 0))
                (try simp only [Exit.inBlock, Exit.then]); refine bodyPost_ret (results_cellrow_tmp2 rfl _ _ w.heap.size 64 EV.zero.cells _ rfl hr4 Tryd.underlying64 rfl infoE) rfl ?_
                exact ⟨hk4, EV.zero, false, false, rfl, EV.zero_at _, R.out⟩
              | opn =>
                rw [hwd] at hmm
                obtain rfl := hmm
                have R := Lib.hid (SERes.opn (l := l) (x := EV.zero) (by rw [whole_is HW.out (HFO.out (by rw [hes1, hwd]; rfl))]; rfl))
                clear hwd
                go_wp2
                have hk4 : Kp no w ((((((w3.setCell ⟨w.heap.size, 0, none⟩ (.bool false)).setCell ⟨w.heap.size, 1, none⟩ (.int .i32 0)).setCell ⟨w.heap.size, 2, none⟩ (.slice none 0 0)).setCell ⟨w.heap.size, 3, none⟩ (.slice none 0 0)).setCell ⟨w.heap.size, 4, none⟩ (.slice none 0 0)).setCell ⟨w.heap.size, 5, none⟩ (.slice none 0 0)) := ((((((hk3.setCell (p := ⟨w.heap.size, 0, none⟩) (fun h => by simp at h) (.bool false)).setCell (p := ⟨w.heap.size, 1, none⟩) (fun h => by simp at h) (.int .i32 0)).setCell (p := ⟨w.heap.size, 2, none⟩) (fun h => by simp at h) (.slice none 0 0)).setCell (p := ⟨w.heap.size, 3, none⟩) (fun h => by simp at h) (.slice none 0 0)).setCell (p := ⟨w.heap.size, 4, none⟩) (fun h => by simp at h) (.slice none 0 0)).setCell (p := ⟨w.heap.size, 5, none⟩) (fun h => by simp at h) (.slice none 0 0))
                have hr4 := ((((((hr3.set 0 (.bool false)).set 1 (.int .i32 0)).set 2 (.slice none 0 0)).set 3 (.slice none 0 0)).set 4 (.slice none 0 0)).set 5 (.slice none 0 0))
                (try simp only [Exit.inBlock, Exit.then]); refine bodyPost_ret (results_cellrow_tmp2 rfl _ _ w.heap.size 64 EV.zero.cells _ rfl hr4 Tryd.underlying64 rfl infoE) rfl ?_
                exact ⟨hk4, EV.zero, false, true, rfl, EV.zero_at _, R.out⟩
          · rw [hn] at f0
            have hes : estep s x.f = .ok { s with ty := x.f.data } := by unfold estep; rw [if_pos hk2, if_neg (by omega), if_pos hn]
            go_wp2
            go_roundw
            case rel =>
              have kA : Kp (· = w.heap.size) wr ((wr.setCell ⟨w.heap.size, 3, none⟩ (.slice x.A x.f.data.length x.c)).alloc (.cells #[.int .u64 2, .int .u64 2, .int .u64 x.f.val, .slice x.A x.f.data.length x.c] 109)) := ((Kp.refl (· = w.heap.size) wr).setCell (p := ⟨w.heap.size, 3, none⟩) (fun _ => rfl) _).alloc _
              exact ⟨i + 1, _, has, (.slice x.A x.f.data.length x.c), pl, sg, k, sl, ik, h', ks, rfl, by omega, hk.trans kA (fun j hj h => by omega), (hrb.set 3 _).alloc _, hkb.keep kA (by show ¬ _ = _; omega), hsk.keep kA (fun j hj => by have hj : j = _ := hj; omega), HFT.out _ hes, ⟨hkey, hhas⟩, hz, ⟨x.A, x.c, rfl, hx.keep kA (fun q hq h => hxl q hq (by have h : q.block = _ := h; omega)), hxl, fun q hq => (by have := hxl q hq; have := kA.size; simp only at *; omega), hxd⟩, hpl.keep kA (fun j hj _ => by have hj : j = _ := hj; omega), hsg.keep kA (fun j hj _ => by have hj : j = _ := hj; omega), hf.keep kA (fun a ha => by cases ha; show ¬ ga = _; omega) (fun y hy q hq h => HX.out y hy q hq (by have h : q.block = _ := h; omega))⟩
            case measure => simp [intOf]; omega
          · rw [hn] at f0
            have hes : estep s x.f = .ok { s with pl := x.f.data } := by unfold estep; rw [if_pos hk2, if_neg (by omega), if_neg (by omega), if_pos hn]
            go_wp2
            go_roundw
            case rel =>
              have kA : Kp (· = w.heap.size) wr ((wr.setCell ⟨w.heap.size, 4, none⟩ (.slice x.A x.f.data.length x.c)).alloc (.cells #[.int .u64 3, .int .u64 2, .int .u64 x.f.val, .slice x.A x.f.data.length x.c] 109)) := ((Kp.refl (· = w.heap.size) wr).setCell (p := ⟨w.heap.size, 4, none⟩) (fun _ => rfl) _).alloc _
              exact ⟨i + 1, _, has, ty, (.slice x.A x.f.data.length x.c), sg, k, sl, ik, h', ks, rfl, by omega, hk.trans kA (fun j hj h => by omega), (hrb.set 4 _).alloc _, hkb.keep kA (by show ¬ _ = _; omega), hsk.keep kA (fun j hj => by have hj : j = _ := hj; omega), HFT.out _ hes, ⟨hkey, hhas⟩, hz, hty.keep kA (fun j hj _ => by have hj : j = _ := hj; omega), ⟨x.A, x.c, rfl, hx.keep kA (fun q hq h => hxl q hq (by have h : q.block = _ := h; omega)), hxl, fun q hq => (by have := hxl q hq; have := kA.size; simp only at *; omega), hxd⟩, hsg.keep kA (fun j hj _ => by have hj : j = _ := hj; omega), hf.keep kA (fun a ha => by cases ha; show ¬ ga = _; omega) (fun y hy q hq h => HX.out y hy q hq (by have h : q.block = _ := h; omega))⟩
            case measure => simp [intOf]; omega
          · rw [hn] at f0
            have hes : estep s x.f = .ok { s with sg := x.f.data } := by unfold estep; rw [if_pos hk2, if_neg (by omega), if_neg (by omega), if_neg (by omega), if_pos hn]
            go_wp2
            go_roundw
            case rel =>
              have kA : Kp (· = w.heap.size) wr ((wr.setCell ⟨w.heap.size, 5, none⟩ (.slice x.A x.f.data.length x.c)).alloc (.cells #[.int .u64 5, .int .u64 2, .int .u64 x.f.val, .slice x.A x.f.data.length x.c] 109)) := ((Kp.refl (· = w.heap.size) wr).setCell (p := ⟨w.heap.size, 5, none⟩) (fun _ => rfl) _).alloc _
              exact ⟨i + 1, _, has, ty, pl, (.slice x.A x.f.data.length x.c), k, sl, ik, h', ks, rfl, by omega, hk.trans kA (fun j hj h => by omega), (hrb.set 5 _).alloc _, hkb.keep kA (by show ¬ _ = _; omega), hsk.keep kA (fun j hj => by have hj : j = _ := hj; omega), HFT.out _ hes, ⟨hkey, hhas⟩, hz, hty.keep kA (fun j hj _ => by have hj : j = _ := hj; omega), hpl.keep kA (fun j hj _ => by have hj : j = _ := hj; omega), ⟨x.A, x.c, rfl, hx.keep kA (fun q hq h => hxl q hq (by have h : q.block = _ := h; omega)), hxl, fun q hq => (by have := hxl q hq; have := kA.size; simp only at *; omega), hxd⟩, hf.keep kA (fun a ha => by cases ha; show ¬ ga = _; omega) (fun y hy q hq h => HX.out y hy q hq (by have h : q.block = _ := h; omega))⟩
            case measure => simp [intOf]; omega
          · have hes := estep_num s x.f n1 n2 n3 n5
            have x1 : (x.f.num == 1) = false := by simpa using n1
            have x2 : (x.f.num == 2) = false := by simpa using n2
            have x3 : (x.f.num == 3) = false := by simpa using n3
            have x5 : (x.f.num == 5) = false := by simpa using n5
            have kf : Kp no wr (wr.alloc (.cells #[.int .u64 x.f.num, .int .u64 2, .int .u64 x.f.val, .slice x.A x.f.data.length x.c] 109)) := (Kp.refl _ _).alloc _
            go_wp2
            go_roundw
            case rel => exact ⟨i + 1, s, has, ty, pl, sg, k, sl, ik, h', ks, rfl, by omega, hk.then kf, hrb.keepN kf, hkb.keepN kf, hsk.keep kf (fun _ h => h.elim), HFT.out _ hes, ⟨hkey, hhas⟩, hz, hty.keepN kf, hpl.keepN kf, hsg.keepN kf, hf.keepN kf⟩
            case measure => simp [intOf]; omega
        · have hes := estep_kind s x.f hk2
          have x2 : (x.f.kind != 2) = true := by simpa using hk2
          go_wp2
          go_roundw
          case rel => exact ⟨i + 1, s, has, ty, pl, sg, k, sl, ik, h', ks, rfl, by omega, hk.then kf, hrb.keepN kf, hkb.keepN kf, hsk.keep kf (fun _ h => h.elim), HFT.out _ hes, ⟨hkey, hhas⟩, hz, hty.keepN kf, hpl.keepN kf, hsg.keepN kf, hf.keepN kf⟩
          case measure => simp [intOf]; omega
      · have hrun' : fo estep (xs.map (·.f)) ES.zero = .ok s := by
          have e : i = xs.length := by omega
          rw [e, List.take_length] at hrun
          exact hrun
        have HWH := Lib.hid (whole_is HW.out hrun')
        have hii : ¬ (i : Int) < (xs.length : Int) := by omega
        clear hrun'
        have rf0 := hrb.free 0
        have rf1 := hrb.free 1
        have rf2 := hrb.free 2
        have rf3 := hrb.free 3
        have rf4 := hrb.free 4
        have rf5 := hrb.free 5
        have rc0 := hrb.cell 0
        have rc1 := hrb.cell 1
        have rc2 := hrb.cell 2
        have rc3 := hrb.cell 3
        have rc4 := hrb.cell 4
        have rc5 := hrb.cell 5
        have kc0 := hkb.cell 0
        have kc1 := hkb.cell 1
        have kc2 := hkb.cell 2
        have kc3 := hkb.cell 3
        clear hrun
        obtain ⟨TA, TC, rfl, RT, OT, _, _⟩ := hty
        obtain ⟨PA, PC, rfl, RP, OP, _, _⟩ := hpl
        obtain ⟨GA, GC, rfl, RG, OG, _, _⟩ := hsg
        cases hkq : s.key with
        | none =>
          rw [hkq] at hhas
          change has = false at hhas
          have HKQ := Lib.hid hkq
          subst hhas
          obtain ⟨rfl, rfl⟩ := hz rfl
          have R := Lib.hid (fun x (hx : ETold s x) => SERes.yes (l := l) (x := x) (s := s) (by rw [HWH.out]; simp only [efin, hkq]) hx)
          clear hf hz hkey hkq HI hsk
          go_wp2
          go_region
          all_goals
            go_wp2
            have kst := (ECut.kps' (((Kp.refl (· = w.heap.size) wr).setCell (p := ⟨w.heap.size, 1, none⟩) (fun _ => rfl) (.int .i32 0)).setCell (p := ⟨w.heap.size, 2, none⟩) (fun _ => rfl) (.slice none 0 0)) (.bool false) (.int .i32 0) (.slice none 0 0) (.slice TA s.ty.length TC) (.slice PA s.pl.length PC) (.slice GA s.sg.length GC)).drew
            have hr2b : Blk ((wr.setCell ⟨w.heap.size, 1, none⟩ (.int .i32 0)).setCell ⟨w.heap.size, 2, none⟩ (.slice none 0 0)) w.heap.size #[.bool false, (.int .i32 0), (.slice none 0 0), .slice TA s.ty.length TC, .slice PA s.pl.length PC, .slice GA s.sg.length GC] 64 := (hrb.set 1 (.int .i32 0)).set 2 (.slice none 0 0)
            have hrF : Blk ((((((((wr.setCell ⟨w.heap.size, 1, none⟩ (.int .i32 0)).setCell ⟨w.heap.size, 2, none⟩ (.slice none 0 0)).setCell ⟨w.heap.size, 0, none⟩ (.bool false)).setCell ⟨w.heap.size, 1, none⟩ (.int .i32 0)).setCell ⟨w.heap.size, 2, none⟩ (.slice none 0 0)).setCell ⟨w.heap.size, 3, none⟩ (.slice TA s.ty.length TC)).setCell ⟨w.heap.size, 4, none⟩ (.slice PA s.pl.length PC)).setCell ⟨w.heap.size, 5, none⟩ (.slice GA s.sg.length GC)).drew w.heap.size (EV.cells ⟨false, 0, none, 0, [], TA, TC, s.ty, PA, PC, s.pl, GA, GC, s.sg⟩) 64 := ((((((hr2b.set 0 (.bool false)).set 1 (.int .i32 0)).set 2 (.slice none 0 0)).set 3 (.slice TA s.ty.length TC)).set 4 (.slice PA s.pl.length PC)).set 5 (.slice GA s.sg.length GC)).drew
            have kF := hk.trans kst (fun j hj h => by have h : j = _ := h; omega)
            have RT' := RT.keep kst (fun a ha h => OT a ha (by have h : a.block = _ := h; show _ ≤ a.block; omega))
            have RP' := RP.keep kst (fun a ha h => OP a ha (by have h : a.block = _ := h; show _ ≤ a.block; omega))
            have RG' := RG.keep kst (fun a ha h => OG a ha (by have h : a.block = _ := h; show _ ≤ a.block; omega))
            clear kst hr2b hrb
            generalize ((((((((wr.setCell ⟨w.heap.size, 1, none⟩ (.int .i32 0)).setCell ⟨w.heap.size, 2, none⟩ (.slice none 0 0)).setCell ⟨w.heap.size, 0, none⟩ (.bool false)).setCell ⟨w.heap.size, 1, none⟩ (.int .i32 0)).setCell ⟨w.heap.size, 2, none⟩ (.slice none 0 0)).setCell ⟨w.heap.size, 3, none⟩ (.slice TA s.ty.length TC)).setCell ⟨w.heap.size, 4, none⟩ (.slice PA s.pl.length PC)).setCell ⟨w.heap.size, 5, none⟩ (.slice GA s.sg.length GC)).drew = WF at *
            (try simp only [Exit.inBlock, Exit.then]); refine bodyPost_ret (results_cellrow_tmp2 rfl _ WF w.heap.size 64 (EV.cells ⟨false, 0, none, 0, [], TA, TC, s.ty, PA, PC, s.pl, GA, GC, s.sg⟩) _ rfl hrF Tryd.underlying64 rfl infoE) rfl ?_
            exact ⟨kF, ⟨false, 0, none, 0, [], TA, TC, s.ty, PA, PC, s.pl, GA, GC, s.sg⟩, true, false, rfl, ⟨Rd.nil _, RT', RP', RG', by simp⟩, R.out _ ⟨by rw [HKQ.out]; exact ⟨rfl, rfl, rfl⟩, rfl, rfl, rfl⟩⟩
        | some ks' =>
          rw [hkq] at hhas hkey
          change has = true at hhas
          subst hhas
          change ks' = ks at hkey
          have hkk := hkey
          subst hkk
          have HKQ := Lib.hid hkq
          obtain ⟨hik, hhh, hkv, hkr, A0, n0, c0, rfl, hA0, hd0⟩ := hsk
          cases hok : okS ks' with
          | true =>
            obtain ⟨k5, d5, rfl⟩ := okS_some hok
            simp only [Option.isSome_some] at hik hhh
            obtain ⟨rfl, RD⟩ := hd0 d5 rfl
            obtain rfl := hkv k5 rfl
            have R := Lib.hid (fun x (hx : ETold s x) => SERes.yes (l := l) (x := x) (s := s) (by rw [HWH.out]; simp only [efin, hkq, hok, if_true]) hx)
            subst hik
            subst hhh
            clear hf hz hkey hkq HI hkv hd0 hok
            go_wp2
            go_region
            all_goals
              go_wp2
              have kst := (ECut.kps' (((Kp.refl (· = w.heap.size) wr).setCell (p := ⟨w.heap.size, 1, none⟩) (fun _ => rfl) (.int .i32 k)).setCell (p := ⟨w.heap.size, 2, none⟩) (fun _ => rfl) (.slice A0 d5.length c0)) (.bool true) (.int .i32 k) (.slice A0 d5.length c0) (.slice TA s.ty.length TC) (.slice PA s.pl.length PC) (.slice GA s.sg.length GC)).drew
              have hr2b : Blk ((wr.setCell ⟨w.heap.size, 1, none⟩ (.int .i32 k)).setCell ⟨w.heap.size, 2, none⟩ (.slice A0 d5.length c0)) w.heap.size #[.bool true, (.int .i32 k), (.slice A0 d5.length c0), .slice TA s.ty.length TC, .slice PA s.pl.length PC, .slice GA s.sg.length GC] 64 := (hrb.set 1 (.int .i32 k)).set 2 (.slice A0 d5.length c0)
              have hrF : Blk ((((((((wr.setCell ⟨w.heap.size, 1, none⟩ (.int .i32 k)).setCell ⟨w.heap.size, 2, none⟩ (.slice A0 d5.length c0)).setCell ⟨w.heap.size, 0, none⟩ (.bool true)).setCell ⟨w.heap.size, 1, none⟩ (.int .i32 k)).setCell ⟨w.heap.size, 2, none⟩ (.slice A0 d5.length c0)).setCell ⟨w.heap.size, 3, none⟩ (.slice TA s.ty.length TC)).setCell ⟨w.heap.size, 4, none⟩ (.slice PA s.pl.length PC)).setCell ⟨w.heap.size, 5, none⟩ (.slice GA s.sg.length GC)).drew w.heap.size (EV.cells ⟨true, k, A0, c0, d5, TA, TC, s.ty, PA, PC, s.pl, GA, GC, s.sg⟩) 64 := ((((((hr2b.set 0 (.bool true)).set 1 (.int .i32 k)).set 2 (.slice A0 d5.length c0)).set 3 (.slice TA s.ty.length TC)).set 4 (.slice PA s.pl.length PC)).set 5 (.slice GA s.sg.length GC)).drew
              have kF := hk.trans kst (fun j hj h => by have h : j = _ := h; omega)
              have RT' := RT.keep kst (fun a ha h => OT a ha (by have h : a.block = _ := h; show _ ≤ a.block; omega))
              have RP' := RP.keep kst (fun a ha h => OP a ha (by have h : a.block = _ := h; show _ ≤ a.block; omega))
              have RG' := RG.keep kst (fun a ha h => OG a ha (by have h : a.block = _ := h; show _ ≤ a.block; omega))
              have RDK := RD.keep kst (fun a ha h => hA0 a ha (by have h : a.block = _ := h; show _ ≤ a.block; omega))
              clear kst hr2b hrb
              generalize ((((((((wr.setCell ⟨w.heap.size, 1, none⟩ (.int .i32 k)).setCell ⟨w.heap.size, 2, none⟩ (.slice A0 d5.length c0)).setCell ⟨w.heap.size, 0, none⟩ (.bool true)).setCell ⟨w.heap.size, 1, none⟩ (.int .i32 k)).setCell ⟨w.heap.size, 2, none⟩ (.slice A0 d5.length c0)).setCell ⟨w.heap.size, 3, none⟩ (.slice TA s.ty.length TC)).setCell ⟨w.heap.size, 4, none⟩ (.slice PA s.pl.length PC)).setCell ⟨w.heap.size, 5, none⟩ (.slice GA s.sg.length GC)).drew = WF at *
              (try simp only [Exit.inBlock, Exit.then]); refine bodyPost_ret (results_cellrow_tmp2 rfl _ WF w.heap.size 64 (EV.cells ⟨true, k, A0, c0, d5, TA, TC, s.ty, PA, PC, s.pl, GA, GC, s.sg⟩) _ rfl hrF Tryd.underlying64 rfl infoE) rfl ?_
              exact ⟨kF, ⟨true, k, A0, c0, d5, TA, TC, s.ty, PA, PC, s.pl, GA, GC, s.sg⟩, true, false, rfl, ⟨RDK, RT', RP', RG', hkr⟩, R.out _ ⟨by rw [HKQ.out]; exact ⟨rfl, rfl⟩, rfl, rfl, rfl⟩⟩
          | false =>
            have R := Lib.hid (SERes.no (l := l) (x := EV.zero) (by rw [HWH.out]; simp only [efin, hkq, hok]; rfl))
            have hsp : ik = false ∨ (ik = true ∧ h' = false) := by
              have hand : (ik && h') = false := by rw [hik, hhh]; exact hok
              cases ik with
              | false => exact .inl rfl
              | true => exact .inr ⟨rfl, hand⟩
            clear hf hz hkey hkq HI hkv hd0 hok hik hhh
            rcases hsp with rfl | ⟨rfl, rfl⟩
            all_goals
              go_wp2
              have hk4 : Kp no w ((((((wr.setCell ⟨w.heap.size, 0, none⟩ (.bool false)).setCell ⟨w.heap.size, 1, none⟩ (.int .i32 0)).setCell ⟨w.heap.size, 2, none⟩ (.slice none 0 0)).setCell ⟨w.heap.size, 3, none⟩ (.slice none 0 0)).setCell ⟨w.heap.size, 4, none⟩ (.slice none 0 0)).setCell ⟨w.heap.size, 5, none⟩ (.slice none 0 0)) := ((((((hk.setCell (p := ⟨w.heap.size, 0, none⟩) (fun h => by simp at h) (.bool false)).setCell (p := ⟨w.heap.size, 1, none⟩) (fun h => by simp at h) (.int .i32 0)).setCell (p := ⟨w.heap.size, 2, none⟩) (fun h => by simp at h) (.slice none 0 0)).setCell (p := ⟨w.heap.size, 3, none⟩) (fun h => by simp at h) (.slice none 0 0)).setCell (p := ⟨w.heap.size, 4, none⟩) (fun h => by simp at h) (.slice none 0 0)).setCell (p := ⟨w.heap.size, 5, none⟩) (fun h => by simp at h) (.slice none 0 0))
              have hr4 := ((((((hrb.set 0 (.bool false)).set 1 (.int .i32 0)).set 2 (.slice none 0 0)).set 3 (.slice none 0 0)).set 4 (.slice none 0 0)).set 5 (.slice none 0 0))
              (try simp only [Exit.inBlock, Exit.then]); refine bodyPost_ret (results_cellrow_tmp2 rfl _ _ w.heap.size 64 EV.zero.cells _ rfl hr4 Tryd.underlying64 rfl infoE) rfl ?_
              exact ⟨hk4, EV.zero, false, false, rfl, EV.zero_at _, R.out⟩
end Go.Proofs.YtipleaojejbkpaaDoor
