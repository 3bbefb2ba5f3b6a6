/- SHA2-256 of the reference ends, with some 32 bytes. -/
import Derived.Test.YthdbchahmbcfeaaDoorShaB
namespace Go.Proofs.YthdbchahmbcfeaaDoor
open Go Go.RowKit
set_option linter.unusedVariables false
set_option linter.unusedSimpArgs false
set_option maxRecDepth 100000

section
variable {P : Program} {ops : Array Oper} {C : World → Prop}
/-- A row that is loaded whole, in a region's quiet head. -/
theorem wpQuiet_load_row {Q : Act → Prop} {a : Act} {op : Oper} {rest : List Oper} (hgd : op.guard = none) (ty : TypeId) (x : Operand) (ho : op.op = .load ty x)
    (b o : Nat) (hx : a.eval x = .pointer (some ⟨b, o, none⟩)) (cs : List Value) (d : TypeDesc) (hc : ∀ w, C w → w.rangeAt b o cs)
    (hu : P.underlying ty = some d) (hd : d.isRow = true) (hi : (P.info? ty).map (·.size) = some cs.length)
    (h : wpQuiet P ops C Q rest (a.put op.dst (.agg cs.toArray))) : wpQuiet P ops C Q (op :: rest) a := by
  have hw : Region.wanted op (yielded ops a.tmps) = true := by simp [Region.wanted, hgd]
  unfold wpQuiet
  rw [if_pos hw]
  refine ⟨_, fun w hw => ?_, h⟩
  unfold Oper.quietAt execOp
  simp only [ho, hx, Instr.loadAt, Instr.sureAddr, Sem.run_bind, Sem.run_pure, Result.andThen_ok, run_loadVar_mid w b o ty cs d (hc w hw) hu hd hi]
  exact ⟨rfl, rfl⟩
end

theorem Byt.set {l : List Int} (h : Byt l) (i : Nat) {v : Int} (h0 : 0 ≤ v) (h1 : v < 256) : Byt (l.set i v) := fun x hx => by
  rcases List.mem_or_eq_of_mem_set hx with hx | rfl
  · exact h x hx
  · exact ⟨h0, h1⟩
theorem Blk.setN {w : World} {g : Nat} {t : TypeId} {K : IntKind} {L : List Int} (h : Blk w g (nums K L).toArray t) (i : Nat) (v : Int) : Blk (w.setCell ⟨g, i, none⟩ (.int K v)) g (nums K (L.set i v)).toArray t := by
  have := Blk.set h i (.int K v)
  rw [show (nums K (L.set i v)).toArray = (nums K L).toArray.setIfInBounds i (.int K v) from by apply Array.toList_inj.1; simp [nums, List.map_set]]
  exact this
def lenV : Value → Nat
  | .slice _ n _ => n
  | _ => 0
/-- The bytes so far; the result's row. -/
structure SumP (w : World) (L : List Int) (v : Value) (wx : World) : Prop where
  own : Own wx 5 (w.heap.size + 1) v L
  blk : Blk wx w.heap.size (nums .u8 (List.replicate 32 0)).toArray 163
  kp : Kp no w wx
theorem SumP.le {w wx : World} {L : List Int} {v : Value} (h : SumP w L v wx) : w.heap.size + 1 ≤ wx.heap.size := h.blk.lt
theorem SumP.app {w wx w1 : World} {L M : List Int} {v v1 : Value} (h : SumP w L v wx) (o : Own w1 5 (w.heap.size + 1) v1 M) (k : Kp (Of v) wx w1) : SumP w M v1 w1 :=
  ⟨o, h.blk.keep k (fun hv => by have := (h.own.base _ hv).1; omega), h.kp.own h.own (by omega) k⟩
theorem SumP.alloc {w wx : World} {L : List Int} {v : Value} (h : SumP w L v wx) (o : Obj) : SumP w L v (wx.alloc o) :=
  ⟨h.own.keepN ((Kp.refl _ _).alloc o), h.blk.alloc o, h.kp.alloc o⟩

def SumA (w : World) (q : Nat → Prop) (v : Value) (wx : World) : Prop := ∃ (L : List Int) (B : Option Addr) (c : Nat), v = .slice B L.length c ∧ SumP w L v wx ∧ q L.length
theorem SumP.as {w wx : World} {L : List Int} {v : Value} {q : Nat → Prop} (h : SumP w L v wx) (hq : q L.length) : SumA w q v wx := by
  obtain ⟨B, c, rfl, _, _⟩ := h.own.rd
  exact ⟨L, B, c, rfl, h, hq⟩

end Go.Proofs.YthdbchahmbcfeaaDoor
