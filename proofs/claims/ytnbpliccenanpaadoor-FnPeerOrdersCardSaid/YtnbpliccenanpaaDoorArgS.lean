/- A list of arrays of 32 bytes as a law's argument. -/
import Derived.Test.YtnbpliccenanpaaDoorArg32
import Derived.Test.YtnbpliccenanpaaDoorMade
import Derived.DataReads
namespace Go.Proofs.YtnbpliccenanpaaDoor
open Go Go.ChangeShapes Go.WideShapes Go.ChangeAt Go.RowKit
set_option linter.unusedVariables false
set_option linter.unusedSimpArgs false
set_option maxRecDepth 100000

/-- A list of arrays of 32 bytes that is read. -/
structure RdA (w : World) (A : Option Addr) (n c : Nat) (L : List (List Int)) : Prop where
  len : L.length = n
  cap : n ≤ c
  max : c ≤ 9223372036854775807
  ok : ∀ j, j < n → (L.getD j []).length = 32 ∧ Byt (L.getD j [])
  at_ : 0 < n → ∃ g o, A = some ⟨g, o, none⟩ ∧ ∀ j, j < n → w.rangeAt g (o + j * 32) (nums .u8 (L.getD j []))
theorem RdA.keepN {w w' : World} {A : Option Addr} {n c : Nat} {L : List (List Int)} (h : RdA w A n c L) (k : Kp no w w') : RdA w' A n c L :=
  ⟨h.len, h.cap, h.max, h.ok, fun hp => by
    obtain ⟨g, o, rfl, hc⟩ := h.at_ hp
    exact ⟨g, o, rfl, fun j hj i v hv => k.cellN (hc j hj i v hv)⟩⟩
theorem cells8 : Tryd.prog.cellsOf 5 = 1 := by kernel_rfl
theorem u8_trod {H : Type} {enc : TypeId × Value → H} {W : World} {n : Nat} {cs : List Value} {y : DataW H × List MemPlace}
    (hf : DataW.trod enc Tryd.prog W 0 (fun _ => true) true n 5 cs = some y) : ∃ m, cs = [.int .u8 m] ∧ 0 ≤ m ∧ m < 256 := by
  obtain ⟨m, rfl, _, hw⟩ := DataW.trod_int Tryd.underlying5 hf
  have := wf_u8 hw
  exact ⟨m, rfl, this.1, this.2⟩
theorem arr_trod {H : Type} {enc : TypeId × Value → H} {W : World} {n : Nat} {cs : List Value} {y : DataW H × List MemPlace}
    (hf : DataW.trod enc Tryd.prog W 0 (fun _ => true) true n 31 cs = some y) : ∃ l : List Int, cs = nums .u8 l ∧ l.length = 32 ∧ Byt l := by
  obtain ⟨xs, m, _, _, hl, hx, hat⟩ := DataW.trod_array Tryd.underlying31 hf
  rw [cells32] at hl
  have key : ∀ i (hi : i < cs.length), cs[i] = .int .u8 (u8Of cs[i]) ∧ 0 ≤ u8Of cs[i] ∧ u8Of cs[i] < 256 := by
    intro i hi
    have h1 := hat i (by omega)
    rw [cells8, Nat.mul_one, List.getElem?_eq_getElem (by omega)] at h1
    obtain ⟨v, h2, h3, h4⟩ := u8_trod h1
    have h5 : cs[i] = .int .u8 v := by
      have := congrArg (fun l => l[0]?) h2
      simpa [List.getElem?_drop, List.getElem?_eq_getElem hi] using this
    rw [h5]
    exact ⟨rfl, h3, h4⟩
  refine ⟨cs.map u8Of, ?_, by simpa using hl, ?_⟩
  · simp only [nums, List.map_map]
    apply List.ext_getElem (by simp)
    intro i h1 h2
    simp only [List.getElem_map, Function.comp]
    exact (key i h1).1
  · intro x hx
    obtain ⟨v, hv, rfl⟩ := List.mem_map.1 hx
    obtain ⟨i, hi, rfl⟩ := List.getElem_of_mem hv
    exact (key i hi).2
theorem Tryd.und_arrs : Tryd.prog.underlying 37 = some (.slice 31) := by kernel_rfl
theorem spare_none' {w : World} {b o : Nat} {s : Option Nat} {j : Nat} {u : Value} (h : w.cell? ((⟨b, o, s⟩ : Addr).add j) = some u) (hj : j = 0) : s = none := by
  subst hj
  cases s with
  | none => rfl
  | some s =>
    simp only [Addr.add, if_true, World.cell?] at h
    split at h <;> simp at h
theorem arrs_arg {H : Type} {enc : TypeId × Value → H} {W : World} {base : Nat} {v : Value} {d : DataW H} {p : List MemPlace}
    (hv : Value.okWide Tryd.prog W .any base 37 v) (h : DataW.Trod enc Tryd.prog W 0 (fun _ => true) true 37 v d p) :
    ∃ A n c L, v = .slice A n c ∧ RdA W A n c L := by
  obtain ⟨A, n, c, rfl⟩ := okWide_slice Tryd.und_arrs hv
  obtain ⟨fuel, hf⟩ := h
  rcases DataW.trod_slice Tryd.und_arrs hf with ⟨hcs, _⟩ | ⟨a, len, cap, elems, rest, m, _, hcs, _, hb, hl, hm, hlen, hel, _, _⟩
  · simp [Value.cells] at hcs
    obtain ⟨rfl, rfl, rfl⟩ := hcs
    exact ⟨none, 0, 0, [], rfl, rfl, by omega, by omega, fun j hj => by omega, fun hp => by omega⟩
  · simp [Value.cells] at hcs
    obtain ⟨rfl, rfl, rfl⟩ := hcs
    have hone : ∀ i, i < n → ∃ l : List Int, (∀ j, j < 32 → W.cell? ((a.add (i * 32)).add j) = (nums .u8 l)[j]?) ∧ l.length = 32 ∧ Byt l := by
      intro i hi
      have h1 := hel i hi
      rw [cells32, List.getElem?_eq_getElem (by omega), Option.bind_eq_some_iff] at h1
      obtain ⟨cs, h2, h3⟩ := h1
      obtain ⟨l, rfl, h4, h5⟩ := arr_trod h3
      exact ⟨l, (World.cells?_some h2).2.2, h4, h5⟩
    have hf2 : ∀ i : _root_.Fin n, ∃ l : List Int, (∀ j, j < 32 → W.cell? ((a.add (i.1 * 32)).add j) = (nums .u8 l)[j]?) ∧ l.length = 32 ∧ Byt l := fun i => hone i.1 i.2
    obtain ⟨f, hf3⟩ := Classical.axiomOfChoice hf2
    have e2 : ∀ j (hj : j < n), (List.ofFn f).getD j [] = f ⟨j, hj⟩ := fun j hj => by simp [List.getD_eq_getElem?_getD, hj]
    refine ⟨some a, n, c, List.ofFn f, rfl, by simp, hl, by simpa [maxLen] using hm, fun j hj => by rw [e2 j hj]; exact (hf3 ⟨j, hj⟩).2, fun hp => ?_⟩
    obtain ⟨b, o, sp⟩ := a
    have h0 := (hf3 ⟨0, hp⟩).1 0 (by omega)
    have hsp : sp = none := by
      have h00 : W.cell? ((⟨b, o, sp⟩ : Addr).add 0) = some (.int .u8 ((f ⟨0, hp⟩).getD 0 0)) := by
        have e0 : ((⟨b, o, sp⟩ : Addr).add (0 * 32)).add 0 = (⟨b, o, sp⟩ : Addr).add 0 := by
          cases sp <;> simp [Addr.add]
        rw [← e0]
        rw [h0]
        have hl0 := (hf3 ⟨0, hp⟩).2.1
        simp [nums, List.getD_eq_getElem?_getD, List.getElem?_eq_getElem (show 0 < (f ⟨0, hp⟩).length by omega)]
      exact spare_none' h00 rfl
    subst hsp
    refine ⟨b, o, rfl, fun j hj i u hu => ?_⟩
    have hi : i < 32 := by
      rcases Nat.lt_or_ge i 32 with h | h
      · exact h
      · rw [e2 j hj, List.getElem?_eq_none (by rw [nums_length, (hf3 ⟨j, hj⟩).2.1]; exact h)] at hu; cases hu
    have := (hf3 ⟨j, hj⟩).1 i hi
    rw [e2 j hj] at hu
    rw [← hu, ← this]
    congr 1
    unfold Addr.add
    split <;> split <;> simp_all
end Go.Proofs.YtnbpliccenanpaaDoor
