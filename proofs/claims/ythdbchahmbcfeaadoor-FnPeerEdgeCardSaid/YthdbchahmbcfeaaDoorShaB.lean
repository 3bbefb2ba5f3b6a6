/- SHA2-256's block: it ends, with some eight words. -/
import Derived.Test.YthdbchahmbcfeaaDoorShaA
namespace Go.Proofs.YthdbchahmbcfeaaDoor
open Go Go.RowKit
set_option linter.unusedVariables false
set_option linter.unusedSimpArgs false
set_option maxRecDepth 100000

/-- The rows of shaBlock: what comes in, what goes out, the 64 words. -/
def ShaW (w wr : World) : Prop := ∃ H Z L : List Int, H.length = 8 ∧ Z.length = 8 ∧ L.length = 64 ∧ Wd wr w.heap.size 121 H ∧ Wd wr (w.heap.size + 1) 121 Z ∧ Wd wr (w.heap.size + 1 + 1) 171 L ∧ Kp no w wr
theorem ShaW.start (w : World) (X : List Int) (hX : X.length = 8) : ShaW w (((w.alloc (.cells (nums .u32 X).toArray 121)).alloc (.cells (nums .u32 (List.replicate 8 0)).toArray 121)).alloc (.cells (nums .u32 (List.replicate 64 0)).toArray 171)) := by
  refine ⟨X, List.replicate 8 0, List.replicate 64 0, hX, List.length_replicate, List.length_replicate, ((Blk.new w _ _).alloc _).alloc _, ?_, ?_, (((Kp.refl _ _).alloc _).alloc _).alloc _⟩
  · have := (Blk.new (w.alloc (.cells (nums .u32 X).toArray 121)) (nums .u32 (List.replicate 8 0)).toArray 121).alloc (.cells (nums .u32 (List.replicate 64 0)).toArray 171)
    rw [show (w.alloc (.cells (nums .u32 X).toArray 121)).heap.size = w.heap.size + 1 from by simp] at this
    exact this
  · have := Blk.new ((w.alloc (.cells (nums .u32 X).toArray 121)).alloc (.cells (nums .u32 (List.replicate 8 0)).toArray 121)) (nums .u32 (List.replicate 64 0)).toArray 171
    rw [show ((w.alloc (.cells (nums .u32 X).toArray 121)).alloc (.cells (nums .u32 (List.replicate 8 0)).toArray 121)).heap.size = w.heap.size + 1 + 1 from by simp] at this
    exact this

/-- .. with the keys, and the eight words that turn. -/
def ShaV (w : World) (gK gV : Nat) (wr : World) : Prop := ∃ H Z L K V : List Int, (H.length = 8 ∧ Z.length = 8 ∧ L.length = 64 ∧ K.length = 64 ∧ V.length = 8) ∧ Wd wr w.heap.size 121 H ∧ Wd wr (w.heap.size + 1) 121 Z ∧ Wd wr (w.heap.size + 1 + 1) 171 L ∧ Wd wr gK 171 K ∧ Wd wr gV 121 V ∧ Kp no w wr

end Go.Proofs.YthdbchahmbcfeaaDoor
