/- What a law's arguments are, as its walk wants them; what its condition on the listed errors gives. An array of 32 bytes as a law's argument. -/
import Derived.Test.YtflafpklphgbpaaGreatDoorRows
import Derived.Test.YtflafpklphgbpaaGreatDoorPlA
import Derived.Stop.LaidErr
import Derived.LaidMore
import Derived.ProofKit
import Derived.OpenShut
import Derived.ShutString
import Derived.ChangeOld
import Derived.Below
namespace Go.Proofs.YtflafpklphgbpaaGreatDoor
open Go Go.ChangeShapes Go.WideShapes Go.ChangeAt Go.RowKit
set_option linter.unusedVariables false
set_option linter.unusedSimpArgs false
set_option maxRecDepth 100000

theorem ownKnobN : ownKnob Tryz.prog.godebug = none := by kernel_rfl
theorem laidOutN : laidOutB Tryz.prog = true := by kernel_rfl
theorem star : "*" ++ "errors.errorString" = "*errors.errorString" := by decide
theorem rowErr (u : TypeId) (h : Tryz.prog.typeName? 3 u = some "*errors.errorString") : u = 70 :=
  typeName_ptr_named (nm := "errors.errorString") (by rw [star]; kernel_rfl) (by kernel_rfl) (by decide) u (by rw [star]; exact h)
theorem laid_err {W : World} {n : String} {text : List UInt8} {r : List (String × DataW Unit)} {g : Nat} (h : laidMet Tryz.prog ((n, .iface "*errors.errorString" (.ptr (.agg [.lit (.string text)]))) :: r) W)
    (hg : Tryz.prog.globalNamed n = some g) (ht : (Tryz.prog.globals[g]?).map (·.type) = some 36) : IsErr W g ∧ g < W.heap.size := by
  obtain ⟨a, s, hv, _⟩ := laid_sentinel h hg ht Tryz.underlying36 rowErr Tryz.underlying70 Tryz.underlying72 rfl rfl Tryz.underlying9 (by kernel_rfl) (by kernel_rfl)
  have hc := World.var?_cell hg hv 0
  have hc : W.cell? ⟨g, 0, none⟩ = some (.iface 70 (.pointer (some a))) := by simpa using hc
  exact ⟨⟨_, _, hc⟩, World.block_lt_of_cell? W _ hc⟩
theorem laid_at {P : Program} {W : World} {x : String × DataW Unit} : ∀ {L : List (String × DataW Unit)} (i : Nat), laidMet P L W → L[i]? = some x → ∃ r, laidMet P (x :: r) W
  | [], _, _, h => by simp at h
  | y :: L, 0, hL, h => by simp at h; subst h; exact ⟨L, hL⟩
  | y :: L, i + 1, hL, h => laid_at i hL.tail (by simpa using h)
/-- An error that the condition lists. -/
theorem laid_is {W : World} {L : List (String × DataW Unit)} {n : String} {text : List UInt8} {g : Nat} (hL : laidMet Tryz.prog L W) (i : Nat) (hi : L[i]? = some (n, .iface "*errors.errorString" (.ptr (.agg [.lit (.string text)]))))
    (hg : Tryz.prog.globalNamed n = some g) (ht : (Tryz.prog.globals[g]?).map (·.type) = some 36) : IsErr W g ∧ g < W.heap.size := by
  obtain ⟨r, h⟩ := laid_at i hL hi
  exact laid_err h hg ht

/-- A slice of bytes that came in. -/
theorem bytes_arg {H : Type} {enc : TypeId × Value → H} {W : World} {base : Nat} {v : Value} {d : DataW H} {p : List MemPlace}
    (hv : Value.okWide Tryz.prog W .any base 23 v) (h : DataW.Trod enc Tryz.prog W 0 (fun _ => true) true 23 v d p) :
    ∃ A n c l, v = .slice A n c ∧ Rd W A n c l ∧ Lo W.heap.size A := by
  obtain ⟨A, n, c, rfl⟩ := okWide_slice Tryz.underlying23 hv
  obtain ⟨fuel, hf⟩ := h
  have hlo : Lo W.heap.size A := by
    intro a ha
    subst ha
    unfold Value.okWide at hv
    rw [Tryz.underlying23] at hv
    simp only [Cell.okWide, Cell.ok, Tryz.underlying23] at hv
    obtain ⟨_, _, _, _, row, cells, hs, _⟩ := hv
    unfold World.shape? at hs
    rcases Nat.lt_or_ge a.block W.heap.size with h | h
    · exact h
    · rw [Array.getElem?_eq_none h] at hs; cases hs
  rcases open_ints Tryz.underlying23 Tryz.underlying5 (by kernel_rfl) hf with ⟨hcs, _⟩ | ⟨x, l, c', zs, hcs, _, hl, hm, hz, _, hcell, hwz⟩
  · simp [Value.cells] at hcs
    obtain ⟨rfl, rfl, rfl⟩ := hcs
    exact ⟨none, 0, 0, [], rfl, Rd.nil _, hlo⟩
  · simp [Value.cells] at hcs
    obtain ⟨rfl, rfl, rfl⟩ := hcs
    have hz' : zs.length = c := by simpa using hz
    have hb : Byt zs := fun x hx => by
      have := hwz x hx
      simp [Lit.wf, IntKind.min, IntKind.max, IntKind.signed, IntKind.bits] at this
      omega
    refine ⟨some x, n, c, zs.take n, rfl, ⟨by rw [List.length_take]; omega, hl, by simpa [maxLen] using hm, hb.take n, fun hp => ?_⟩, hlo⟩
    obtain ⟨b, o, sp⟩ := x
    have h0 := hcell 0 (by omega)
    have hsp : sp = none := by
      cases sp with
      | none => rfl
      | some s =>
        simp only [Addr.add, if_true, World.cell?] at h0
        split at h0 <;> simp at h0
    subst hsp
    refine ⟨b, o, rfl, fun j hj => ?_⟩
    have := hcell j (by omega)
    have e : (⟨b, o, none⟩ : Addr).add j = ⟨b, o + j, none⟩ := by
      unfold Addr.add
      split
      · subst_vars; rfl
      · rfl
    rw [e] at this
    rw [this]
    simp [List.getD_eq_getElem?_getD, hj]
theorem wf_i32 {a : Int} (h : (Lit.int .i32 a).wf = true) : -2147483648 ≤ a ∧ a ≤ 2147483647 := by
  simp [Lit.wf, IntKind.min, IntKind.max, IntKind.signed, IntKind.bits] at h; omega
theorem wf_u8 {a : Int} (h : (Lit.int .u8 a).wf = true) : 0 ≤ a ∧ a < 256 := by
  simp [Lit.wf, IntKind.min, IntKind.max, IntKind.signed, IntKind.bits] at h; omega
theorem wf_u16 {a : Int} (h : (Lit.int .u16 a).wf = true) : 0 ≤ a ∧ a < 65536 := by
  simp [Lit.wf, IntKind.min, IntKind.max, IntKind.signed, IntKind.bits] at h; omega
theorem wf_u32 {a : Int} (h : (Lit.int .u32 a).wf = true) : 0 ≤ a ∧ a < 4294967296 := by
  simp [Lit.wf, IntKind.min, IntKind.max, IntKind.signed, IntKind.bits] at h; omega
theorem wf_u64 {a : Int} (h : (Lit.int .u64 a).wf = true) : 0 ≤ a ∧ a < 18446744073709551616 := by
  simp [Lit.wf, IntKind.min, IntKind.max, IntKind.signed, IntKind.bits] at h; omega
end Go.Proofs.YtflafpklphgbpaaGreatDoor
namespace Go.Proofs.YtflafpklphgbpaaGreatDoor
open Go Go.ChangeShapes Go.WideShapes Go.ChangeAt Go.RowKit
set_option linter.unusedVariables false
set_option linter.unusedSimpArgs false
set_option maxRecDepth 100000

theorem cells32 : Tryz.prog.cellsOf 22 = 32 := by kernel_rfl
theorem types32 : Tryz.prog.cellTypes Tryz.prog.depth 22 = some (List.replicate 32 5) := by kernel_rfl
def u8Of : Value → Int
  | .int _ m => m
  | _ => 0
theorem u8_cell {W : World} {base : Nat} {v : Value} (o : Cell.okWide Tryz.prog W .any base 5 v) : v = .int .u8 (u8Of v) ∧ 0 ≤ u8Of v ∧ u8Of v < 256 := by
  simp only [Cell.okWide, Cell.ok, Tryz.underlying5] at o
  cases v with
  | int k' m =>
    obtain ⟨rfl, h1, h2⟩ := o
    simp [IntKind.min, IntKind.max, IntKind.signed, IntKind.bits] at h1 h2
    exact ⟨rfl, by show 0 ≤ m; omega, by show m < 256; omega⟩
  | _ => exact o.elim
theorem arr32_arg {W : World} {base : Nat} {v : Value} (hv : Value.okWide Tryz.prog W .any base 22 v) : ∃ H : List Int, v = .agg (nums .u8 H).toArray ∧ H.length = 32 ∧ Byt H := by
  unfold Value.okWide at hv
  rw [Tryz.underlying22] at hv
  obtain ⟨cs, rfl, hsz, ts, hts, _, hrow⟩ := hv
  obtain rfl : ts = List.replicate 32 5 := Option.some.inj (hts.symm.trans types32)
  rw [cells32] at hsz
  obtain ⟨l⟩ := cs
  have hl : l.length = 32 := hsz
  have key : ∀ i (hi : i < l.length), l[i] = .int .u8 (u8Of l[i]) ∧ 0 ≤ u8Of l[i] ∧ u8Of l[i] < 256 := by
    intro i hi
    obtain ⟨u, hu, o⟩ := hrow i l[i] (by simp [List.getElem?_eq_getElem hi])
    have hu' : u = 5 := List.eq_of_mem_replicate (List.mem_of_getElem? hu)
    subst hu'
    exact u8_cell o
  refine ⟨l.map u8Of, ?_, by simpa using hl, ?_⟩
  · congr 1
    apply Array.toList_inj.1
    simp only [nums, List.map_map]
    apply List.ext_getElem (by simp)
    intro i h1 h2
    simp only [List.getElem_map, Function.comp]
    exact (key i h1).1
  · intro x hx
    obtain ⟨v, hv, rfl⟩ := List.mem_map.1 hx
    obtain ⟨i, hi, rfl⟩ := List.getElem_of_mem hv
    exact (key i hi).2
end Go.Proofs.YtflafpklphgbpaaGreatDoor
