/- An array of 32 bytes as a law's argument. -/
import Derived.Test.YtjbaobnhfalceaaGreatDoorArg
namespace Go.Proofs.YtjbaobnhfalceaaGreatDoor
open Go Go.ChangeShapes Go.WideShapes Go.ChangeAt Go.RowKit
set_option linter.unusedVariables false
set_option linter.unusedSimpArgs false
set_option maxRecDepth 100000

theorem cells32 : Tryz.prog.cellsOf 22 = 32 := by kernel_rfl
theorem types32 : Tryz.prog.cellTypes Tryz.prog.depth 22 = some (List.replicate 32 5) := by kernel_rfl
def u8Of : Value → Int
  | .int _ m => m
  | _ => 0
theorem u8_cell {W : World} {base : Nat} {v : Value} (o : Cell.okWide Tryz.prog W .any base 5 v) : v = .int .u8 (u8Of v) ∧ 0 ≤ u8Of v ∧ u8Of v < 256 := by
  simp only [Cell.okWide, Cell.ok, Tryz.underlying5] at o
  cases v with
  | int k' m =>
    obtain ⟨rfl, h1, h2⟩ := o
    simp [IntKind.min, IntKind.max, IntKind.signed, IntKind.bits] at h1 h2
    exact ⟨rfl, by show 0 ≤ m; omega, by show m < 256; omega⟩
  | _ => exact o.elim
theorem arr32_arg {W : World} {base : Nat} {v : Value} (hv : Value.okWide Tryz.prog W .any base 22 v) : ∃ H : List Int, v = .agg (nums .u8 H).toArray ∧ H.length = 32 ∧ Byt H := by
  unfold Value.okWide at hv
  rw [Tryz.underlying22] at hv
  obtain ⟨cs, rfl, hsz, ts, hts, _, hrow⟩ := hv
  obtain rfl : ts = List.replicate 32 5 := Option.some.inj (hts.symm.trans types32)
  rw [cells32] at hsz
  obtain ⟨l⟩ := cs
  have hl : l.length = 32 := hsz
  have key : ∀ i (hi : i < l.length), l[i] = .int .u8 (u8Of l[i]) ∧ 0 ≤ u8Of l[i] ∧ u8Of l[i] < 256 := by
    intro i hi
    obtain ⟨u, hu, o⟩ := hrow i l[i] (by simp [List.getElem?_eq_getElem hi])
    have hu' : u = 5 := List.eq_of_mem_replicate (List.mem_of_getElem? hu)
    subst hu'
    exact u8_cell o
  refine ⟨l.map u8Of, ?_, by simpa using hl, ?_⟩
  · congr 1
    apply Array.toList_inj.1
    simp only [nums, List.map_map]
    apply List.ext_getElem (by simp)
    intro i h1 h2
    simp only [List.getElem_map, Function.comp]
    exact (key i h1).1
  · intro x hx
    obtain ⟨v, hv, rfl⟩ := List.mem_map.1 hx
    obtain ⟨i, hi, rfl⟩ := List.getElem_of_mem hv
    exact (key i hi).2
end Go.Proofs.YtjbaobnhfalceaaGreatDoor
