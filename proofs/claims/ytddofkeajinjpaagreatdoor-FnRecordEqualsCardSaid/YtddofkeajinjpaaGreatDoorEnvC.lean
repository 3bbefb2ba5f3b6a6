/- EnvelopeOf: what bytes tell of an envelope. -/
import Derived.Test.YtddofkeajinjpaaGreatDoorEnvB
import Derived.Laws.Rows
import Derived.Deep.Cut
import Derived.Deep.CutRange
import Derived.Deep.RegionHeld3
namespace Go.Proofs.YtddofkeajinjpaaGreatDoor
open Go Go.RowKit
set_option linter.unusedVariables false
set_option linter.unusedSimpArgs false
set_option maxRecDepth 100000

theorem results_cellrow_tmp {P : Program} {fn : Func} {p u : Tmp} {ty : TypeId} (h : fn.results = #[.cell p ty, .tmp u]) (tmps : Array Value) (w : World) (g : Nat) (t : TypeId) (cs : Array Value) (d : TypeDesc)
    (hp : tmps.getD p undef = .pointer (some ⟨g, 0, none⟩)) (hg : Blk w g cs t)
    (hu : P.underlying ty = some d) (hd : (match d with | .struct _ | .array _ _ => true | _ => false) = true) (hi : (P.info? ty).map (·.size) = some cs.size) :
    (results fn tmps).run P w = .ok (.tuple #[.agg cs, tmps.getD u undef]) w := by
  have hp' : tmps[p]?.getD undef = .pointer (some ⟨g, 0, none⟩) := by simpa using hp
  have hg' : w.heap[g]? = some (.cells cs t (0, 0)) := hg
  simp only [results, h]
  simp [Sem.run_bind, Result.andThen, hp', asAddr, run_loadVar_row w g t ty cs (0, 0) d hg' hu hd hi]

/-- An envelope's data, as a value. -/
structure EV where
  has : Bool
  k : Int
  A0 : Option Addr
  c0 : Nat
  d0 : List Int
  A1 : Option Addr
  c1 : Nat
  d1 : List Int
  A2 : Option Addr
  c2 : Nat
  d2 : List Int
  A3 : Option Addr
  c3 : Nat
  d3 : List Int
@[reducible] def EV.cells (x : EV) : Array Value := #[.bool x.has, .int .i32 x.k, .slice x.A0 x.d0.length x.c0, .slice x.A1 x.d1.length x.c1, .slice x.A2 x.d2.length x.c2, .slice x.A3 x.d3.length x.c3]
structure EV.At (w : World) (x : EV) : Prop where
  r0 : Rd w x.A0 x.d0.length x.c0 x.d0
  r1 : Rd w x.A1 x.d1.length x.c1 x.d1
  r2 : Rd w x.A2 x.d2.length x.c2 x.d2
  r3 : Rd w x.A3 x.d3.length x.c3 x.d3
  kr : -2147483648 ≤ x.k ∧ x.k ≤ 2147483647
theorem EV.At.keepN {w w' : World} {x : EV} (h : x.At w) (k : Kp no w w') : x.At w' := ⟨h.r0.keepN k, h.r1.keepN k, h.r2.keepN k, h.r3.keepN k, h.kr⟩
def EV.zero : EV := ⟨false, 0, none, 0, [], none, 0, [], none, 0, [], none, 0, []⟩
theorem EV.zero_at (w : World) : EV.zero.At w := ⟨Rd.nil _, Rd.nil _, Rd.nil _, Rd.nil _, by simp [EV.zero]⟩
/-- The value tells what the message says. -/
structure ETold (s : ES) (x : EV) : Prop where
  key : match s.key with
    | none => x.has = false ∧ x.k = 0 ∧ x.d0 = []
    | some ks => x.has = true ∧ ks = (some x.k, some x.d0)
  ty : x.d1 = s.ty
  pl : x.d2 = s.pl
  sg : x.d3 = s.sg
def ERes (l : List Int) (x : EV) (ok : Bool) : Prop := match efin (whole estep l ES.zero) with
  | .ok s => ok = true ∧ ETold s x
  | .bad => ok = false
  | .opn => True
def EOf (w : World) (l : List Int) (e : Ending) (w' : World) : Prop :=
  Kp no w w' ∧ ∃ (x : EV) (ok : Bool), e = .returned (.tuple #[.agg x.cells, .bool ok]) ∧ x.At w' ∧ ERes l x ok
theorem ERes.ofBad {l : List Int} {st : ES} {e : Ending} (h : FinG (efin (whole estep l ES.zero)) st e) (he : Bad e) (x : EV) : ERes l x false := by
  unfold ERes
  generalize efin (whole estep l ES.zero) = r at h ⊢
  cases r with
  | ok s => exact (bad_not_nil he h.1).elim
  | bad => rfl
  | opn => trivial
theorem ERes.ofOk {l : List Int} {st : ES} {x : EV} (h : FinG (efin (whole estep l ES.zero)) st (.returned .nilIface)) (ht : ETold st x) : ERes l x true := by
  unfold ERes
  generalize efin (whole estep l ES.zero) = r at h ⊢
  cases r with
  | ok s => obtain ⟨_, rfl⟩ := h; exact ⟨rfl, ht⟩
  | bad => exact (bad_not_nil h rfl).elim
  | opn => trivial
end Go.Proofs.YtddofkeajinjpaaGreatDoor
