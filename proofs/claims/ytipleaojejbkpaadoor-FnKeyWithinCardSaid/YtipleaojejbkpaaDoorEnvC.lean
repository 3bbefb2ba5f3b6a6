/- EnvelopeOf: what bytes tell of an envelope. -/
import Derived.Test.YtipleaojejbkpaaDoorEnvB
import Derived.Laws.Rows
import Derived.Deep.Cut
import Derived.Deep.CutRange
import Derived.Deep.RegionHeld3
namespace Go.Proofs.YtipleaojejbkpaaDoor
open Go Go.RowKit
set_option linter.unusedVariables false
set_option linter.unusedSimpArgs false
set_option maxRecDepth 100000

theorem results_cellrow_tmp {P : Program} {fn : Func} {p u : Tmp} {ty : TypeId} (h : fn.results = #[.cell p ty, .tmp u]) (tmps : Array Value) (w : World) (g : Nat) (t : TypeId) (cs : Array Value) (d : TypeDesc)
    (hp : tmps.getD p undef = .pointer (some ⟨g, 0, none⟩)) (hg : Blk w g cs t)
    (hu : P.underlying ty = some d) (hd : (match d with | .struct _ | .array _ _ => true | _ => false) = true) (hi : (P.info? ty).map (·.size) = some cs.size) :
    (results fn tmps).run P w = .ok (.tuple #[.agg cs, tmps.getD u undef]) w := by
  have hp' : tmps[p]?.getD undef = .pointer (some ⟨g, 0, none⟩) := by simpa using hp
  have hg' : w.heap[g]? = some (.cells cs t (0, 0)) := hg
  simp only [results, h]
  simp [Sem.run_bind, Result.andThen, hp', asAddr, run_loadVar_row w g t ty cs (0, 0) d hg' hu hd hi]

/-- An envelope's data, as a value. -/
structure EV where
  has : Bool
  k : Int
  A0 : Option Addr
  c0 : Nat
  d0 : List Int
  A1 : Option Addr
  c1 : Nat
  d1 : List Int
  A2 : Option Addr
  c2 : Nat
  d2 : List Int
  A3 : Option Addr
  c3 : Nat
  d3 : List Int
@[reducible] def EV.cells (x : EV) : Array Value := #[.bool x.has, .int .i32 x.k, .slice x.A0 x.d0.length x.c0, .slice x.A1 x.d1.length x.c1, .slice x.A2 x.d2.length x.c2, .slice x.A3 x.d3.length x.c3]
structure EV.At (w : World) (x : EV) : Prop where
  r0 : Rd w x.A0 x.d0.length x.c0 x.d0
  r1 : Rd w x.A1 x.d1.length x.c1 x.d1
  r2 : Rd w x.A2 x.d2.length x.c2 x.d2
  r3 : Rd w x.A3 x.d3.length x.c3 x.d3
  kr : -2147483648 ≤ x.k ∧ x.k ≤ 2147483647
theorem EV.At.keepN {w w' : World} {x : EV} (h : x.At w) (k : Kp no w w') : x.At w' := ⟨h.r0.keepN k, h.r1.keepN k, h.r2.keepN k, h.r3.keepN k, h.kr⟩
def EV.zero : EV := ⟨false, 0, none, 0, [], none, 0, [], none, 0, [], none, 0, []⟩
theorem EV.zero_at (w : World) : EV.zero.At w := ⟨Rd.nil _, Rd.nil _, Rd.nil _, Rd.nil _, by simp [EV.zero]⟩
/-- The value tells what the message says. -/
structure ETold (s : ES) (x : EV) : Prop where
  key : match s.key with
    | none => x.has = false ∧ x.k = 0 ∧ x.d0 = []
    | some ks => x.has = true ∧ ks = (some x.k, some x.d0)
  ty : x.d1 = s.ty
  pl : x.d2 = s.pl
  sg : x.d3 = s.sg
def ERes (l : List Int) (x : EV) (ok : Bool) : Prop := match efin (whole estep l ES.zero) with
  | .ok s => ok = true ∧ ETold s x
  | .bad => ok = false
  | .opn => True
def EOf (w : World) (l : List Int) (e : Ending) (w' : World) : Prop :=
  Kp no w w' ∧ ∃ (x : EV) (ok : Bool), e = .returned (.tuple #[.agg x.cells, .bool ok]) ∧ x.At w' ∧ ERes l x ok
theorem ERes.ofBad {l : List Int} {st : ES} {e : Ending} (h : FinG (efin (whole estep l ES.zero)) st e) (he : Bad e) (x : EV) : ERes l x false := by
  unfold ERes
  generalize efin (whole estep l ES.zero) = r at h ⊢
  cases r with
  | ok s => exact (bad_not_nil he h.1).elim
  | bad => rfl
  | opn => trivial
theorem ERes.ofOk {l : List Int} {st : ES} {x : EV} (h : FinG (efin (whole estep l ES.zero)) st (.returned .nilIface)) (ht : ETold st x) : ERes l x true := by
  unfold ERes
  generalize efin (whole estep l ES.zero) = r at h ⊢
  cases r with
  | ok s => obtain ⟨_, rfl⟩ := h; exact ⟨rfl, ht⟩
  | bad => exact (bad_not_nil h rfl).elim
  | opn => trivial
theorem infoE : (Tryd.prog.info? 64).map (·.size) = some 6 := by kernel_rfl

theorem ECut.kps' {g : Nat} {w3 w : World} (h : Kp (· = g) w3 w) (v0 v1 v2 v3 v4 v5 : Value) : Kp (· = g) w3 ((((((w.setCell ⟨g, 0, none⟩ v0).setCell ⟨g, 1, none⟩ v1).setCell ⟨g, 2, none⟩ v2).setCell ⟨g, 3, none⟩ v3).setCell ⟨g, 4, none⟩ v4).setCell ⟨g, 5, none⟩ v5) :=
  (((((h.setCell (p := ⟨g, 0, none⟩) (fun _ => rfl) _).setCell (p := ⟨g, 1, none⟩) (fun _ => rfl) _).setCell (p := ⟨g, 2, none⟩) (fun _ => rfl) _).setCell (p := ⟨g, 3, none⟩) (fun _ => rfl) _).setCell (p := ⟨g, 4, none⟩) (fun _ => rfl) _).setCell (p := ⟨g, 5, none⟩) (fun _ => rfl) _
theorem ECut.kps {S : Nat → Prop} {w3 w : World} (h : Kp S w3 w) {g : Nat} (hg : w3.heap.size ≤ g) (v0 v1 v2 v3 v4 v5 : Value) : Kp S w3 ((((((w.setCell ⟨g, 0, none⟩ v0).setCell ⟨g, 1, none⟩ v1).setCell ⟨g, 2, none⟩ v2).setCell ⟨g, 3, none⟩ v3).setCell ⟨g, 4, none⟩ v4).setCell ⟨g, 5, none⟩ v5) :=
  (((((h.setCell (p := ⟨g, 0, none⟩) (fun q => by have q : g < w3.heap.size := q; omega) _).setCell (p := ⟨g, 1, none⟩) (fun q => by have q : g < w3.heap.size := q; omega) _).setCell (p := ⟨g, 2, none⟩) (fun q => by have q : g < w3.heap.size := q; omega) _).setCell (p := ⟨g, 3, none⟩) (fun q => by have q : g < w3.heap.size := q; omega) _).setCell (p := ⟨g, 4, none⟩) (fun q => by have q : g < w3.heap.size := q; omega) _).setCell (p := ⟨g, 5, none⟩) (fun q => by have q : g < w3.heap.size := q; omega) _
/-- What stands behind the three copies. -/
structure ECut (w3 : World) (st : ES) (e : Value) (wx : World) (gE : Nat) (A4 : Option Addr) (c4 : Nat) (A5 : Option Addr) (c5 : Nat) (A6 : Option Addr) (c6 : Nat) : Prop where
  e : e = .pointer (some ⟨gE, 0, none⟩)
  ge : w3.heap.size ≤ gE
  blk : Blk wx gE #[.bool false, .int .i32 0, .slice none 0 0, .slice A4 st.ty.length c4, .slice A5 st.pl.length c5, .slice A6 st.sg.length c6] 64
  kp : Kp no w3 wx
  r4 : Rd wx A4 st.ty.length c4 st.ty
  r5 : Rd wx A5 st.pl.length c5 st.pl
  r6 : Rd wx A6 st.sg.length c6 st.sg
  o4 : Out (fun i => i < w3.heap.size ∨ i = gE) A4
  o5 : Out (fun i => i < w3.heap.size ∨ i = gE) A5
  o6 : Out (fun i => i < w3.heap.size ∨ i = gE) A6

theorem ECut.late {w3 w6 : World} {st : ES} {A4 A5 A6 : Option Addr} {c4 c5 c6 : Nat} (k6 : Kp no w3 w6) (R4 : Rd w6 A4 st.ty.length c4 st.ty) (R5 : Rd w6 A5 st.pl.length c5 st.pl) (R6 : Rd w6 A6 st.sg.length c6 st.sg)
    (n4 : ∀ a, A4 = some a → w3.heap.size ≤ a.block ∧ a.block < w6.heap.size) (n5 : ∀ a, A5 = some a → w3.heap.size ≤ a.block ∧ a.block < w6.heap.size) (n6 : ∀ a, A6 = some a → w3.heap.size ≤ a.block ∧ a.block < w6.heap.size) :
    ∃ gE A4' c4' A5' c5' A6' c6', ECut w3 st (.pointer (some ⟨w6.heap.size, 0, none⟩)) (w6.alloc (.cells #[.bool false, .int .i32 0, .slice none 0 0, .slice A4 st.ty.length c4, .slice A5 st.pl.length c5, .slice A6 st.sg.length c6] 64)) gE A4' c4' A5' c5' A6' c6' := by
  have kE : Kp no w6 (w6.alloc (.cells #[.bool false, .int .i32 0, .slice none 0 0, .slice A4 st.ty.length c4, .slice A5 st.pl.length c5, .slice A6 st.sg.length c6] 64)) := (Kp.refl _ _).alloc _
  refine ⟨w6.heap.size, A4, c4, A5, c5, A6, c6, rfl, k6.size, Blk.new _ _ _, k6.then kE, R4.keepN kE, R5.keepN kE, R6.keepN kE, ?_, ?_, ?_⟩
  · intro a ha hq; have := n4 a ha; have hq : a.block < w3.heap.size ∨ a.block = w6.heap.size := hq; omega
  · intro a ha hq; have := n5 a ha; have hq : a.block < w3.heap.size ∨ a.block = w6.heap.size := hq; omega
  · intro a ha hq; have := n6 a ha; have hq : a.block < w3.heap.size ∨ a.block = w6.heap.size := hq; omega
theorem ECut.early {w3 w6 : World} {st : ES} {G : Nat} {A4 A5 A6 : Option Addr} {c4 c5 c6 : Nat} (hG : w3.heap.size ≤ G) (bz6 : Blk w6 G #[.bool false, .int .i32 0, .slice none 0 0, .slice none 0 0, .slice none 0 0, .slice none 0 0] 64) (k6 : Kp no w3 w6) (R4 : Rd w6 A4 st.ty.length c4 st.ty) (R5 : Rd w6 A5 st.pl.length c5 st.pl) (R6 : Rd w6 A6 st.sg.length c6 st.sg)
    (n4 : ∀ a, A4 = some a → w3.heap.size ≤ a.block ∧ a.block ≠ G) (n5 : ∀ a, A5 = some a → w3.heap.size ≤ a.block ∧ a.block ≠ G) (n6 : ∀ a, A6 = some a → w3.heap.size ≤ a.block ∧ a.block ≠ G) :
    ∃ gE A4' c4' A5' c5' A6' c6', ECut w3 st (.pointer (some ⟨G, 0, none⟩)) ((((((w6.setCell ⟨G, 0, none⟩ (.bool false)).setCell ⟨G, 1, none⟩ (.int .i32 0)).setCell ⟨G, 2, none⟩ (.slice none 0 0)).setCell ⟨G, 3, none⟩ (.slice A4 st.ty.length c4)).setCell ⟨G, 4, none⟩ (.slice A5 st.pl.length c5)).setCell ⟨G, 5, none⟩ (.slice A6 st.sg.length c6)) gE A4' c4' A5' c5' A6' c6' := by
  have kE := ECut.kps' (Kp.refl (· = G) w6) (.bool false) (.int .i32 0) (.slice none 0 0) (.slice A4 st.ty.length c4) (.slice A5 st.pl.length c5) (.slice A6 st.sg.length c6)
  refine ⟨G, A4, c4, A5, c5, A6, c6, rfl, hG, ((((((bz6.set 0 (.bool false)).set 1 (.int .i32 0)).set 2 (.slice none 0 0)).set 3 (.slice A4 st.ty.length c4)).set 4 (.slice A5 st.pl.length c5)).set 5 (.slice A6 st.sg.length c6)), k6.trans kE (fun i hi h => by omega), R4.keep kE (fun a ha h => (n4 a ha).2 h), R5.keep kE (fun a ha h => (n5 a ha).2 h), R6.keep kE (fun a ha h => (n6 a ha).2 h), ?_, ?_, ?_⟩
  · intro a ha hq; have := n4 a ha; have hq : a.block < w3.heap.size ∨ a.block = G := hq; omega
  · intro a ha hq; have := n5 a ha; have hq : a.block < w3.heap.size ∨ a.block = G := hq; omega
  · intro a ha hq; have := n6 a ha; have hq : a.block < w3.heap.size ∨ a.block = G := hq; omega

set_option maxHeartbeats 8000000 in
theorem EnvelopeOf_calls {w : World} {A : Option Addr} {n c : Nat} {l : List Int} (h : Rd w A n c l) (hn : n ≤ 1099511627776) (hE : EErrs w) :
    Calls Tryd.prog 43 #[.slice A n c] w (EOf w l) := by
  obtain rfl := h.len
  have hsz := hE.k.sz
  have kx : Kp no w (w.alloc (.cells #[.bool false, .int .i32 0, .slice none 0 0, .slice none 0 0, .slice none 0 0, .slice none 0 0] 64)) := (Kp.refl _ _).alloc _
  have k1 : Kp no w ((w.alloc (.cells #[.bool false, .int .i32 0, .slice none 0 0, .slice none 0 0, .slice none 0 0, .slice none 0 0] 64)).alloc (.cells #[.pointer none, .slice none 0 0, .slice none 0 0, .slice none 0 0] 112)) := kx.alloc _
  have D1 := Lib.hid (Clone_calls (h.keepN k1) (by omega))
  go_enter Tryd.func43, Tryd.ntmps43
  go_wp2_with (fail)
  refine D1.out.mono ?_
  rintro e w2 ⟨A2, c2, rfl, M2⟩
  have k2 := k1.then M2.kp
  have hE2 := hE.keepN k2
  have hs2 : w.heap.size + 2 ≤ w2.heap.size := by have := M2.kp.size; simp at this; omega
  have hr2 := ((Blk.new w #[.bool false, .int .i32 0, .slice none 0 0, .slice none 0 0, .slice none 0 0, .slice none 0 0] 64).alloc (.cells #[.pointer none, .slice none 0 0, .slice none 0 0, .slice none 0 0] 112)).keepN M2.kp
  have hb2 := (Blk.new (w.alloc (.cells #[.bool false, .int .i32 0, .slice none 0 0, .slice none 0 0, .slice none 0 0, .slice none 0 0] 64)) #[.pointer none, .slice none 0 0, .slice none 0 0, .slice none 0 0] 112).keepN M2.kp
  rw [show (w.alloc (.cells #[.bool false, .int .i32 0, .slice none 0 0, .slice none 0 0, .slice none 0 0, .slice none 0 0] 64)).heap.size = w.heap.size + 1 from by simp] at hb2
  have D2 := Lib.hid (EUnmarshal_calls M2.rd hn hE2 (w.heap.size + 1) 112 (by omega) _ _ _ _ hb2 (M2.hi _ (fun i hi => by simp; omega)) M2.lo)
  go_wp2_with (fail)
  refine D2.out.mono ?_
  rintro e w3 ⟨hk3, pk, ty, pl, sg, st, hb3, hs3, hF⟩
  have k3 : Kp no w w3 := k2.trans hk3 (fun i hi h => by omega)
  have hr3 := hr2.keep hk3 (by show ¬ _ = _; omega)
  rcases hF.1 with ⟨rfl, hok⟩ | ⟨t, v, rfl⟩
  · obtain ⟨TA, TC, rfl, RT, _, _, nT⟩ := hs3.ty
    obtain ⟨PA, PC, rfl, RP, _, _, nP⟩ := hs3.pl
    obtain ⟨GA, GC, rfl, RG, _, _, nG⟩ := hs3.sg
    have hkeyAt := hs3.key
    have hss := hk3.size
    have kd : Kp no w3 w3.drew := (Kp.refl _ _).drew
    have DT := fun W (k : Kp no w3 W) => Lib.hid (Clone_calls (RT.keepN k) (by omega))
    have DP := fun W (k : Kp no w3 W) => Lib.hid (Clone_calls (RP.keepN k) (by omega))
    have DG := fun W (k : Kp no w3 W) => Lib.hid (Clone_calls (RG.keepN k) (by omega))
    have bd := hb3.keepN kd
    have hS : ∀ W, Kp no w3 W → Kp no w3 W ∧ W.cell? ⟨w.heap.size + 1, 1, none⟩ = some (.slice TA st.ty.length TC) ∧ W.cell? ⟨w.heap.size + 1, 2, none⟩ = some (.slice PA st.pl.length PC) ∧ W.cell? ⟨w.heap.size + 1, 3, none⟩ = some (.slice GA st.sg.length GC) := fun W k => ⟨k, (hb3.keepN k).cell 1, (hb3.keepN k).cell 2, (hb3.keepN k).cell 3⟩
    have HS := Lib.hid hS
    clear hS
    have kda : Kp no w3 (w3.alloc (.cells #[.bool false, .int .i32 0, .slice none 0 0, .slice none 0 0, .slice none 0 0, .slice none 0 0] 64)).drew := ((Kp.refl no w3).alloc _).drew
    have bz3 : Blk (w3.alloc (.cells #[.bool false, .int .i32 0, .slice none 0 0, .slice none 0 0, .slice none 0 0, .slice none 0 0] 64)).drew w3.heap.size #[.bool false, .int .i32 0, .slice none 0 0, .slice none 0 0, .slice none 0 0, .slice none 0 0] 64 := (Blk.new w3 #[.bool false, .int .i32 0, .slice none 0 0, .slice none 0 0, .slice none 0 0, .slice none 0 0] 64).drew
    have HOK := Lib.hid hok
    have HF2 := Lib.hid hF.2
    clear hF hok hs3
    go_wp2_with (fail)
    go_upto_region 4 with (fail)
    go_cut [5] from 11 to 20 (fun e wx => ∃ gE A4 c4 A5 c5 A6 c6, ECut w3 st e wx gE A4 c4 A5 c5 A6 c6)
    case first =>
      go_region_held3 (fun W => Kp no w3 W ∧ W.cell? ⟨w.heap.size + 1, 1, none⟩ = some (.slice TA st.ty.length TC) ∧ W.cell? ⟨w.heap.size + 1, 2, none⟩ = some (.slice PA st.pl.length PC) ∧ W.cell? ⟨w.heap.size + 1, 3, none⟩ = some (.slice GA st.sg.length GC))
        ((exact HS.out _ (by first | with_reducible exact kd | with_reducible exact kda | with_reducible exact k4 | with_reducible exact k4.alloc _ | with_reducible exact k5 | with_reducible exact k5.alloc _ | with_reducible exact k6 | with_reducible exact k6.alloc _ | with_reducible exact ECut.kps k6 (by omega) _ _ _ _ _ _ | with_reducible exact ECut.kps (k6.alloc _) (by omega) _ _ _ _ _ _)))
        (first
        | (go_at_call 22; refine (DG _ (by first | with_reducible exact k5 | with_reducible exact k5.alloc _)).out.mono ?_; rintro e w6 ⟨A6, c6, rfl, M6⟩; have k6 : Kp no w3 w6 := (by first | with_reducible exact k5.then M6.kp | with_reducible exact (k5.alloc _).then M6.kp); have j56 : Kp no w5 w6 := (by first | with_reducible exact M6.kp | with_reducible exact ((Kp.refl no w5).alloc _).then M6.kp); have hz6 := k6.size; (try with_reducible have bz6 := bz5.keepN M6.kp); (try with_reducible have bz6 := (Blk.new w5 #[.bool false, .int .i32 0, .slice none 0 0, .slice none 0 0, .slice none 0 0, .slice none 0 0] 64).keepN M6.kp); (try with_reducible have zf := fun i => bz6.free i); (try with_reducible have zc0 := bz6.cell 0); (try with_reducible have zc1 := bz6.cell 1); (try with_reducible have zc2 := bz6.cell 2); (try with_reducible have zc3 := bz6.cell 3); (try with_reducible have zc4 := bz6.cell 4); (try with_reducible have zc5 := bz6.cell 5))
        | (go_at_call 22; refine (DP _ (by first | with_reducible exact k4 | with_reducible exact k4.alloc _)).out.mono ?_; rintro e w5 ⟨A5, c5, rfl, M5⟩; have k5 : Kp no w3 w5 := (by first | with_reducible exact k4.then M5.kp | with_reducible exact (k4.alloc _).then M5.kp); have j45 : Kp no w4 w5 := (by first | with_reducible exact M5.kp | with_reducible exact ((Kp.refl no w4).alloc _).then M5.kp); have hz5 := k5.size; (try with_reducible have bz5 := bz4.keepN M5.kp); (try with_reducible have bz5 := (Blk.new w4 #[.bool false, .int .i32 0, .slice none 0 0, .slice none 0 0, .slice none 0 0, .slice none 0 0] 64).keepN M5.kp))
        | (go_at_call 22; refine (DT _ (by first | with_reducible exact kd | with_reducible exact kda)).out.mono ?_; rintro e w4 ⟨A4, c4, rfl, M4⟩; have k4 : Kp no w3 w4 := (by first | with_reducible exact kd.then M4.kp | with_reducible exact kda.then M4.kp); have hz4 := k4.size; (try with_reducible have bz4 := bz3.keepN M4.kp)))
      all_goals
        go_wp2_with (fail)
        go_meet
        case rel =>
          have s4 := M4.kp.size
          have s5 := M5.kp.size
          have s6 := M6.kp.size
          have p4 := M4.own
          have p5 := M5.own
          have p6 := M6.own
          have R4 := M4.rd.keepN (j45.then j56)
          have R5 := M5.rd.keepN j56
          have R6 := M6.rd
          have n4 : ∀ a, A4 = some a → a.block < w4.heap.size := fun a ha => M4.lo a ha
          have n5 : ∀ a, A5 = some a → a.block < w5.heap.size := fun a ha => M5.lo a ha
          have n6 : ∀ a, A6 = some a → a.block < w6.heap.size := fun a ha => M6.lo a ha
          try simp at s4 s5 s6
          have q4 : ∀ a, A4 = some a → w3.heap.size ≤ a.block ∧ a.block < w4.heap.size := fun a ha => ⟨by have b1 := p4.base a.block (by rw [ha]; rfl); (try simp at b1); omega, n4 a ha⟩
          have q5 : ∀ a, A5 = some a → w4.heap.size ≤ a.block ∧ a.block < w5.heap.size := fun a ha => ⟨by have b1 := p5.base a.block (by rw [ha]; rfl); (try simp at b1); omega, n5 a ha⟩
          have q6 : ∀ a, A6 = some a → w5.heap.size ≤ a.block ∧ a.block < w6.heap.size := fun a ha => ⟨by have b1 := p6.base a.block (by rw [ha]; rfl); (try simp at b1); omega, n6 a ha⟩
          have z4 : w3.heap.size ≤ w4.heap.size := hz4
          have z5 : w4.heap.size ≤ w5.heap.size := j45.size
          have z6 : w5.heap.size ≤ w6.heap.size := j56.size
          have LATE := ECut.late k6 R4 R5 R6 (fun a ha => by have := q4 a ha; omega) (fun a ha => by have := q5 a ha; omega) (fun a ha => by have := q6 a ha; omega)
          first
          | with_reducible exact LATE
          | exact ECut.early (by omega) bz6 k6 R4 R5 R6 (fun a ha => by have := q4 a ha; have b1 := p4.base a.block (by rw [ha]; rfl); (try simp at b1); omega) (fun a ha => by have := q5 a ha; have b1 := p5.base a.block (by rw [ha]; rfl); (try simp at b1); omega) (fun a ha => by have := q6 a ha; have b1 := p6.base a.block (by rw [ha]; rfl); (try simp at b1); omega)
    case rest =>
      obtain ⟨gE, A4, c4, A5, c5, A6, c6, rfl, hge, bE, kE, R4, R5, R6, o4, o5, o6⟩ := hcut
      have b6 := hb3.keepN kE
      have x0 := b6.cell 0
      have r6 := hr3.keepN kE
      have rf0 := r6.free 0
      have rf1 := r6.free 1
      have rf2 := r6.free 2
      have rf3 := r6.free 3
      have rf4 := r6.free 4
      have rf5 := r6.free 5
      have rc0 := r6.cell 0
      have rc1 := r6.cell 1
      have rc2 := r6.cell 2
      have rc3 := r6.cell 3
      have rc4 := r6.cell 4
      have rc5 := r6.cell 5
      have ec0 := bE.cell 0
      have ec1 := bE.cell 1
      have ec2 := bE.cell 2
      have ec3 := bE.cell 3
      have ec4 := bE.cell 4
      have ec5 := bE.cell 5
      have k7 : Kp no w wc := k3.then kE
      cases hkey : st.key with
      | none =>
        rw [hkey] at hkeyAt
        have hpk : pk = .pointer none := hkeyAt
        subst hpk
        go_wp2
        have kst := ECut.kps' (Kp.refl (· = w.heap.size) wc) (.bool false) (.int .i32 0) (.slice none 0 0) (.slice A4 st.ty.length c4) (.slice A5 st.pl.length c5) (.slice A6 st.sg.length c6)
        have hrF := ((((((r6.set 0 (.bool false)).set 1 (.int .i32 0)).set 2 (.slice none 0 0)).set 3 (.slice A4 st.ty.length c4)).set 4 (.slice A5 st.pl.length c5)).set 5 (.slice A6 st.sg.length c6))
        have kF := k7.trans kst (fun i hi h => by omega)
        have R4' := R4.keep kst (fun a ha h => o4 a ha (.inl (by have h : a.block = _ := h; omega)))
        have R5' := R5.keep kst (fun a ha h => o5 a ha (.inl (by have h : a.block = _ := h; omega)))
        have R6' := R6.keep kst (fun a ha h => o6 a ha (.inl (by have h : a.block = _ := h; omega)))
        (try simp only [Exit.inBlock, Exit.then]); refine bodyPost_ret (results_cellrow_tmp rfl _ _ w.heap.size 64 (EV.cells ⟨false, 0, none, 0, [], A4, c4, st.ty, A5, c5, st.pl, A6, c6, st.sg⟩) _ rfl hrF Tryd.underlying64 rfl infoE) rfl ?_
        exact ⟨kF, ⟨false, 0, none, 0, [], A4, c4, st.ty, A5, c5, st.pl, A6, c6, st.sg⟩, true, rfl, ⟨Rd.nil _, R4', R5', R6', by simp⟩, ERes.ofOk HF2.out ⟨by rw [hkey]; exact ⟨rfl, rfl, rfl⟩, rfl, rfl, rfl⟩⟩
      | some ks =>
        rw [hkey] at hkeyAt
        obtain ⟨gk, pt, sl, rfl, hgk, hgE, hbk, hks⟩ := hkeyAt
        have hok1 := HOK.out ks hkey
        obtain ⟨k, d, rfl⟩ := okS_some hok1
        obtain ⟨b1, hpt, _, hc1, hr1, hr2'⟩ := hks.pt
        obtain ⟨b2, o2, c3, hsl, _, hlt2, hdn, RD⟩ := hks.dt
        subst hsl
        subst hpt
        have hlk := hbk.lt
        have kd7 : Kp no wc wc.drew := (Kp.refl _ _).drew
        have k37 := kE.then kd7
        have hbk7 := hbk.keepN k37
        have D7 := fun W (k : Kp no w3 W) => Lib.hid (PKGetType_calls (w := W) gk 86 _ _ _ (some d) (hbk.keepN k) (hks.keepN k))
        have D8 := fun W (k : Kp no w3 W) => Lib.hid (Clone_calls (RD.keepN k) (by omega))
        have z1 := hbk7.cell 1
        have bd7 := bE.keepN kd7
        go_wp2_with (fail)
        go_region_with (first
          | (go_at_call 54; refine (D7 _ k37).out.mono ?_; rintro e w' ⟨rfl, rfl⟩)
          | (go_at_call 22; refine (D8 _ k37).out.mono ?_; rintro e w8 ⟨A8, c8, rfl, M8⟩; have bE8 := bd7.keepN M8.kp; have ef0 := bE8.free 0; have ef1 := bE8.free 1; have ef2 := bE8.free 2; have fc0 := bE8.cell 0; have fc1 := bE8.cell 1; have fc2 := bE8.cell 2; have fc3 := bE8.cell 3; have fc4 := bE8.cell 4; have fc5 := bE8.cell 5; have r8 := (r6.keepN kd7).keepN M8.kp; have qf0 := r8.free 0; have qf1 := r8.free 1; have qf2 := r8.free 2; have qf3 := r8.free 3; have qf4 := r8.free 4; have qf5 := r8.free 5; have qc0 := r8.cell 0; have qc1 := r8.cell 1; have qc2 := r8.cell 2; have qc3 := r8.cell 3; have qc4 := r8.cell 4; have qc5 := r8.cell 5; have x8 := ((b6.keepN kd7).keepN M8.kp).cell 0; have hne6 : w.heap.size < gE := (by omega)))
        all_goals
          go_wp2
          have kst1 : Kp (· = gE) w8 (((w8.setCell ⟨gE, 0, none⟩ (.bool true)).setCell ⟨gE, 1, none⟩ (.int .i32 k)).setCell ⟨gE, 2, none⟩ (.slice A8 d.length c8)) := (((Kp.refl (· = gE) w8).setCell (p := ⟨gE, 0, none⟩) (fun _ => rfl) _).setCell (p := ⟨gE, 1, none⟩) (fun _ => rfl) _).setCell (p := ⟨gE, 2, none⟩) (fun _ => rfl) _
          have r9 := ((r8.far (p := ⟨gE, 0, none⟩) (by show ¬ _ = gE; omega) (.bool true)).far (p := ⟨gE, 1, none⟩) (by show ¬ _ = gE; omega) (.int .i32 k)).far (p := ⟨gE, 2, none⟩) (by show ¬ _ = gE; omega) (.slice A8 d.length c8)
          have kst := ECut.kps' (Kp.refl (· = w.heap.size) (((w8.setCell ⟨gE, 0, none⟩ (.bool true)).setCell ⟨gE, 1, none⟩ (.int .i32 k)).setCell ⟨gE, 2, none⟩ (.slice A8 d.length c8))) (.bool true) (.int .i32 k) (.slice A8 d.length c8) (.slice A4 st.ty.length c4) (.slice A5 st.pl.length c5) (.slice A6 st.sg.length c6)
          have hrF := ((((((r9.set 0 (.bool true)).set 1 (.int .i32 k)).set 2 (.slice A8 d.length c8)).set 3 (.slice A4 st.ty.length c4)).set 4 (.slice A5 st.pl.length c5)).set 5 (.slice A6 st.sg.length c6))
          have kA := (k7.then (kd7.then M8.kp)).trans kst1 (fun i hi h => by omega)
          have kF := kA.trans kst (fun i hi h => by omega)
          have hzc := kE.size
          have R4' := ((R4.keepN (kd7.then M8.kp)).keep kst1 (fun a ha h => o4 a ha (.inr h))).keep kst (fun a ha h => o4 a ha (.inl (by have h : a.block = _ := h; omega)))
          have R5' := ((R5.keepN (kd7.then M8.kp)).keep kst1 (fun a ha h => o5 a ha (.inr h))).keep kst (fun a ha h => o5 a ha (.inl (by have h : a.block = _ := h; omega)))
          have R6' := ((R6.keepN (kd7.then M8.kp)).keep kst1 (fun a ha h => o6 a ha (.inr h))).keep kst (fun a ha h => o6 a ha (.inl (by have h : a.block = _ := h; omega)))
          have hEl := bE.lt
          have R8' := (M8.rd.keep kst1 (M8.hi (· = gE) (fun i hi => by show i < wc.drew.heap.size; simp; omega))).keep kst (M8.hi (· = w.heap.size) (fun i hi => by show i < wc.drew.heap.size; simp; omega))
          (try simp only [Exit.inBlock, Exit.then]); refine bodyPost_ret (results_cellrow_tmp rfl _ _ w.heap.size 64 (EV.cells ⟨true, k, A8, c8, d, A4, c4, st.ty, A5, c5, st.pl, A6, c6, st.sg⟩) _ rfl hrF Tryd.underlying64 rfl infoE) rfl ?_
          exact ⟨kF, ⟨true, k, A8, c8, d, A4, c4, st.ty, A5, c5, st.pl, A6, c6, st.sg⟩, true, rfl, ⟨R8', R4', R5', R6', hr1, hr2'⟩, ERes.ofOk HF2.out ⟨by rw [hkey]; exact ⟨rfl, rfl⟩, rfl, rfl, rfl⟩⟩
  · have R := Lib.hid (ERes.ofBad hF.2 ⟨t, v, rfl⟩ EV.zero)
    clear hF
    have r0 := hr3.free 0
    have r1 := hr3.free 1
    have r2 := hr3.free 2
    have r3 := hr3.free 3
    have r4 := hr3.free 4
    have r5 := hr3.free 5
    have q0 := hr3.cell 0
    have q1 := hr3.cell 1
    have q2 := hr3.cell 2
    have q3 := hr3.cell 3
    have q4 := hr3.cell 4
    have q5 := hr3.cell 5
    go_wp2
    have hk4 : Kp no w ((((((w3.setCell ⟨w.heap.size, 0, none⟩ (.bool false)).setCell ⟨w.heap.size, 1, none⟩ (.int .i32 0)).setCell ⟨w.heap.size, 2, none⟩ (.slice none 0 0)).setCell ⟨w.heap.size, 3, none⟩ (.slice none 0 0)).setCell ⟨w.heap.size, 4, none⟩ (.slice none 0 0)).setCell ⟨w.heap.size, 5, none⟩ (.slice none 0 0)) :=
      (((((k3.setCell (p := ⟨w.heap.size, 0, none⟩) (fun h => by simp at h) _).setCell (p := ⟨w.heap.size, 1, none⟩) (fun h => by simp at h) _).setCell (p := ⟨w.heap.size, 2, none⟩) (fun h => by simp at h) _).setCell (p := ⟨w.heap.size, 3, none⟩) (fun h => by simp at h) _).setCell (p := ⟨w.heap.size, 4, none⟩) (fun h => by simp at h) _).setCell (p := ⟨w.heap.size, 5, none⟩) (fun h => by simp at h) _
    have hr4 := (((((hr3.set 0 (.bool false)).set 1 (.int .i32 0)).set 2 (.slice none 0 0)).set 3 (.slice none 0 0)).set 4 (.slice none 0 0)).set 5 (.slice none 0 0)
    (try simp only [Exit.inBlock, Exit.then]); refine bodyPost_ret (results_cellrow_tmp rfl _ _ w.heap.size 64 EV.zero.cells _ rfl hr4 Tryd.underlying64 rfl infoE) rfl ?_
    exact ⟨hk4, EV.zero, false, rfl, EV.zero_at _, R.out⟩
end Go.Proofs.YtipleaojejbkpaaDoor
