/- EnvelopeOf: what bytes tell of an envelope. -/
import Derived.Test.YtddofkeajinjpaaDoorEnvB
import Derived.Laws.Rows
import Derived.Deep.Cut
import Derived.Deep.CutRange
import Derived.Deep.RegionHeld3
namespace Go.Proofs.YtddofkeajinjpaaDoor
open Go Go.RowKit
set_option linter.unusedVariables false
set_option linter.unusedSimpArgs false
set_option maxRecDepth 100000

theorem results_cellrow_tmp {P : Program} {fn : Func} {p u : Tmp} {ty : TypeId} (h : fn.results = #[.cell p ty, .tmp u]) (tmps : Array Value) (w : World) (g : Nat) (t : TypeId) (cs : Array Value) (d : TypeDesc)
    (hp : tmps.getD p undef = .pointer (some ⟨g, 0, none⟩)) (hg : Blk w g cs t)
    (hu : P.underlying ty = some d) (hd : (match d with | .struct _ | .array _ _ => true | _ => false) = true) (hi : (P.info? ty).map (·.size) = some cs.size) :
    (results fn tmps).run P w = .ok (.tuple #[.agg cs, tmps.getD u undef]) w := by
  have hp' : tmps[p]?.getD undef = .pointer (some ⟨g, 0, none⟩) := by simpa using hp
  have hg' : w.heap[g]? = some (.cells cs t (0, 0)) := hg
  simp only [results, h]
  simp [Sem.run_bind, Result.andThen, hp', asAddr, run_loadVar_row w g t ty cs (0, 0) d hg' hu hd hi]

/-- An envelope's data, as a value. -/
structure EV where
  has : Bool
  k : Int
  A0 : Option Addr
  c0 : Nat
  d0 : List Int
  A1 : Option Addr
  c1 : Nat
  d1 : List Int
  A2 : Option Addr
  c2 : Nat
  d2 : List Int
  A3 : Option Addr
  c3 : Nat
  d3 : List Int
@[reducible] def EV.cells (x : EV) : Array Value := #[.bool x.has, .int .i32 x.k, .slice x.A0 x.d0.length x.c0, .slice x.A1 x.d1.length x.c1, .slice x.A2 x.d2.length x.c2, .slice x.A3 x.d3.length x.c3]
structure EV.At (w : World) (x : EV) : Prop where
  r0 : Rd w x.A0 x.d0.length x.c0 x.d0
  r1 : Rd w x.A1 x.d1.length x.c1 x.d1
  r2 : Rd w x.A2 x.d2.length x.c2 x.d2
  r3 : Rd w x.A3 x.d3.length x.c3 x.d3
  kr : -2147483648 ≤ x.k ∧ x.k ≤ 2147483647
theorem EV.At.keepN {w w' : World} {x : EV} (h : x.At w) (k : Kp no w w') : x.At w' := ⟨h.r0.keepN k, h.r1.keepN k, h.r2.keepN k, h.r3.keepN k, h.kr⟩
def EV.zero : EV := ⟨false, 0, none, 0, [], none, 0, [], none, 0, [], none, 0, []⟩
theorem EV.zero_at (w : World) : EV.zero.At w := ⟨Rd.nil _, Rd.nil _, Rd.nil _, Rd.nil _, by simp [EV.zero]⟩
/-- The value tells what the message says. -/
structure ETold (s : ES) (x : EV) : Prop where
  key : match s.key with
    | none => x.has = false ∧ x.k = 0 ∧ x.d0 = []
    | some ks => x.has = true ∧ ks = (some x.k, some x.d0)
  ty : x.d1 = s.ty
  pl : x.d2 = s.pl
  sg : x.d3 = s.sg
def ERes (l : List Int) (x : EV) (ok : Bool) : Prop := match efin (whole estep l ES.zero) with
  | .ok s => ok = true ∧ ETold s x
  | .bad => ok = false
  | .opn => True
def EOf (w : World) (l : List Int) (e : Ending) (w' : World) : Prop :=
  Kp no w w' ∧ ∃ (x : EV) (ok : Bool), e = .returned (.tuple #[.agg x.cells, .bool ok]) ∧ x.At w' ∧ ERes l x ok
theorem ERes.ofBad {l : List Int} {st : ES} {e : Ending} (h : FinG (efin (whole estep l ES.zero)) st e) (he : Bad e) (x : EV) : ERes l x false := by
  unfold ERes
  generalize efin (whole estep l ES.zero) = r at h ⊢
  cases r with
  | ok s => exact (bad_not_nil he h.1).elim
  | bad => rfl
  | opn => trivial
theorem ERes.ofOk {l : List Int} {st : ES} {x : EV} (h : FinG (efin (whole estep l ES.zero)) st (.returned .nilIface)) (ht : ETold st x) : ERes l x true := by
  unfold ERes
  generalize efin (whole estep l ES.zero) = r at h ⊢
  cases r with
  | ok s => obtain ⟨_, rfl⟩ := h; exact ⟨rfl, ht⟩
  | bad => exact (bad_not_nil h rfl).elim
  | opn => trivial
theorem infoE : (Tryd.prog.info? 42).map (·.size) = some 6 := by kernel_rfl

theorem ECut.kps' {g : Nat} {w3 w : World} (h : Kp (· = g) w3 w) (v0 v1 v2 v3 v4 v5 : Value) : Kp (· = g) w3 ((((((w.setCell ⟨g, 0, none⟩ v0).setCell ⟨g, 1, none⟩ v1).setCell ⟨g, 2, none⟩ v2).setCell ⟨g, 3, none⟩ v3).setCell ⟨g, 4, none⟩ v4).setCell ⟨g, 5, none⟩ v5) :=
  (((((h.setCell (p := ⟨g, 0, none⟩) (fun _ => rfl) _).setCell (p := ⟨g, 1, none⟩) (fun _ => rfl) _).setCell (p := ⟨g, 2, none⟩) (fun _ => rfl) _).setCell (p := ⟨g, 3, none⟩) (fun _ => rfl) _).setCell (p := ⟨g, 4, none⟩) (fun _ => rfl) _).setCell (p := ⟨g, 5, none⟩) (fun _ => rfl) _
theorem ECut.kps {S : Nat → Prop} {w3 w : World} (h : Kp S w3 w) {g : Nat} (hg : w3.heap.size ≤ g) (v0 v1 v2 v3 v4 v5 : Value) : Kp S w3 ((((((w.setCell ⟨g, 0, none⟩ v0).setCell ⟨g, 1, none⟩ v1).setCell ⟨g, 2, none⟩ v2).setCell ⟨g, 3, none⟩ v3).setCell ⟨g, 4, none⟩ v4).setCell ⟨g, 5, none⟩ v5) :=
  (((((h.setCell (p := ⟨g, 0, none⟩) (fun q => by have q : g < w3.heap.size := q; omega) _).setCell (p := ⟨g, 1, none⟩) (fun q => by have q : g < w3.heap.size := q; omega) _).setCell (p := ⟨g, 2, none⟩) (fun q => by have q : g < w3.heap.size := q; omega) _).setCell (p := ⟨g, 3, none⟩) (fun q => by have q : g < w3.heap.size := q; omega) _).setCell (p := ⟨g, 4, none⟩) (fun q => by have q : g < w3.heap.size := q; omega) _).setCell (p := ⟨g, 5, none⟩) (fun q => by have q : g < w3.heap.size := q; omega) _
/-- What stands behind the three copies. -/
structure ECut (w3 : World) (st : ES) (e : Value) (wx : World) (gE : Nat) (A4 : Option Addr) (c4 : Nat) (A5 : Option Addr) (c5 : Nat) (A6 : Option Addr) (c6 : Nat) : Prop where
  e : e = .pointer (some ⟨gE, 0, none⟩)
  ge : w3.heap.size ≤ gE
  blk : Blk wx gE #[.bool false, .int .i32 0, .slice none 0 0, .slice A4 st.ty.length c4, .slice A5 st.pl.length c5, .slice A6 st.sg.length c6] 42
  kp : Kp no w3 wx
  r4 : Rd wx A4 st.ty.length c4 st.ty
  r5 : Rd wx A5 st.pl.length c5 st.pl
  r6 : Rd wx A6 st.sg.length c6 st.sg
  o4 : Out (fun i => i < w3.heap.size ∨ i = gE) A4
  o5 : Out (fun i => i < w3.heap.size ∨ i = gE) A5
  o6 : Out (fun i => i < w3.heap.size ∨ i = gE) A6

theorem ECut.late {w3 w6 : World} {st : ES} {A4 A5 A6 : Option Addr} {c4 c5 c6 : Nat} (k6 : Kp no w3 w6) (R4 : Rd w6 A4 st.ty.length c4 st.ty) (R5 : Rd w6 A5 st.pl.length c5 st.pl) (R6 : Rd w6 A6 st.sg.length c6 st.sg)
    (n4 : ∀ a, A4 = some a → w3.heap.size ≤ a.block ∧ a.block < w6.heap.size) (n5 : ∀ a, A5 = some a → w3.heap.size ≤ a.block ∧ a.block < w6.heap.size) (n6 : ∀ a, A6 = some a → w3.heap.size ≤ a.block ∧ a.block < w6.heap.size) :
    ∃ gE A4' c4' A5' c5' A6' c6', ECut w3 st (.pointer (some ⟨w6.heap.size, 0, none⟩)) (w6.alloc (.cells #[.bool false, .int .i32 0, .slice none 0 0, .slice A4 st.ty.length c4, .slice A5 st.pl.length c5, .slice A6 st.sg.length c6] 42)) gE A4' c4' A5' c5' A6' c6' := by
  have kE : Kp no w6 (w6.alloc (.cells #[.bool false, .int .i32 0, .slice none 0 0, .slice A4 st.ty.length c4, .slice A5 st.pl.length c5, .slice A6 st.sg.length c6] 42)) := (Kp.refl _ _).alloc _
  refine ⟨w6.heap.size, A4, c4, A5, c5, A6, c6, rfl, k6.size, Blk.new _ _ _, k6.then kE, R4.keepN kE, R5.keepN kE, R6.keepN kE, ?_, ?_, ?_⟩
  · intro a ha hq; have := n4 a ha; have hq : a.block < w3.heap.size ∨ a.block = w6.heap.size := hq; omega
  · intro a ha hq; have := n5 a ha; have hq : a.block < w3.heap.size ∨ a.block = w6.heap.size := hq; omega
  · intro a ha hq; have := n6 a ha; have hq : a.block < w3.heap.size ∨ a.block = w6.heap.size := hq; omega
theorem ECut.early {w3 w6 : World} {st : ES} {G : Nat} {A4 A5 A6 : Option Addr} {c4 c5 c6 : Nat} (hG : w3.heap.size ≤ G) (bz6 : Blk w6 G #[.bool false, .int .i32 0, .slice none 0 0, .slice none 0 0, .slice none 0 0, .slice none 0 0] 42) (k6 : Kp no w3 w6) (R4 : Rd w6 A4 st.ty.length c4 st.ty) (R5 : Rd w6 A5 st.pl.length c5 st.pl) (R6 : Rd w6 A6 st.sg.length c6 st.sg)
    (n4 : ∀ a, A4 = some a → w3.heap.size ≤ a.block ∧ a.block ≠ G) (n5 : ∀ a, A5 = some a → w3.heap.size ≤ a.block ∧ a.block ≠ G) (n6 : ∀ a, A6 = some a → w3.heap.size ≤ a.block ∧ a.block ≠ G) :
    ∃ gE A4' c4' A5' c5' A6' c6', ECut w3 st (.pointer (some ⟨G, 0, none⟩)) ((((((w6.setCell ⟨G, 0, none⟩ (.bool false)).setCell ⟨G, 1, none⟩ (.int .i32 0)).setCell ⟨G, 2, none⟩ (.slice none 0 0)).setCell ⟨G, 3, none⟩ (.slice A4 st.ty.length c4)).setCell ⟨G, 4, none⟩ (.slice A5 st.pl.length c5)).setCell ⟨G, 5, none⟩ (.slice A6 st.sg.length c6)) gE A4' c4' A5' c5' A6' c6' := by
  have kE := ECut.kps' (Kp.refl (· = G) w6) (.bool false) (.int .i32 0) (.slice none 0 0) (.slice A4 st.ty.length c4) (.slice A5 st.pl.length c5) (.slice A6 st.sg.length c6)
  refine ⟨G, A4, c4, A5, c5, A6, c6, rfl, hG, ((((((bz6.set 0 (.bool false)).set 1 (.int .i32 0)).set 2 (.slice none 0 0)).set 3 (.slice A4 st.ty.length c4)).set 4 (.slice A5 st.pl.length c5)).set 5 (.slice A6 st.sg.length c6)), k6.trans kE (fun i hi h => by omega), R4.keep kE (fun a ha h => (n4 a ha).2 h), R5.keep kE (fun a ha h => (n5 a ha).2 h), R6.keep kE (fun a ha h => (n6 a ha).2 h), ?_, ?_, ?_⟩
  · intro a ha hq; have := n4 a ha; have hq : a.block < w3.heap.size ∨ a.block = G := hq; omega
  · intro a ha hq; have := n5 a ha; have hq : a.block < w3.heap.size ∨ a.block = G := hq; omega
  · intro a ha hq; have := n6 a ha; have hq : a.block < w3.heap.size ∨ a.block = G := hq; omega

end Go.Proofs.YtddofkeajinjpaaDoor
