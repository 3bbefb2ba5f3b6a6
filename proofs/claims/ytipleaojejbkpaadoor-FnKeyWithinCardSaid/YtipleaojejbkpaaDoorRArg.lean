/- A record's data as a law's argument. -/
import Derived.Test.YtipleaojejbkpaaDoorSArg
import Derived.Test.YtipleaojejbkpaaDoorRcB
namespace Go.Proofs.YtipleaojejbkpaaDoor
open Go Go.ChangeShapes Go.WideShapes Go.ChangeAt Go.RowKit
set_option linter.unusedVariables false
set_option linter.unusedSimpArgs false
set_option maxRecDepth 100000

theorem cellsS : Tryd.prog.cellsOf 45 = 1 := by kernel_rfl
theorem cellsR : Tryd.prog.cellsOf 47 = 3 := by kernel_rfl
theorem typesR : Tryd.prog.cellTypes Tryd.prog.depth 47 = some [24, 38, 45] := by kernel_rfl
theorem spare_none {w : World} {b o : Nat} {s : Option Nat} {u : Value} (h : w.cell? ((⟨b, o, s⟩ : Addr).add 0) = some u) : s = none := by
  cases s with
  | none => rfl
  | some s =>
    simp only [Addr.add, if_true, World.cell?] at h
    split at h <;> simp at h
theorem bytes_trod {H : Type} {enc : TypeId × Value → H} {W : World} {n : Nat} {cs : List Value} {y : DataW H × List MemPlace}
    (hf : DataW.trod enc Tryd.prog W 0 (fun _ => true) true n 24 cs = some y) : ∃ A n c l, cs = [.slice A n c] ∧ Rd W A n c l := by
  rcases open_ints Tryd.underlying24 Tryd.underlying5 (by kernel_rfl) hf with ⟨hcs, _⟩ | ⟨x, l, c', zs, hcs, _, hl, hm, hz, _, hcell, hwz⟩
  · skip
    exact ⟨none, 0, 0, [], hcs, Rd.nil _⟩
  · skip
    have hz' : zs.length = c' := by simpa using hz
    have hb : Byt zs := fun x hx => by
      have := hwz x hx
      simp [Lit.wf, IntKind.min, IntKind.max, IntKind.signed, IntKind.bits] at this
      omega
    refine ⟨some x, l, c', zs.take l, hcs, ⟨by rw [List.length_take]; omega, hl, by simpa [maxLen] using hm, hb.take l, fun hp => ?_⟩⟩
    obtain ⟨b, o, sp⟩ := x
    obtain rfl := spare_none (hcell 0 (by omega))
    refine ⟨b, o, rfl, fun j hj => ?_⟩
    have := hcell j (by omega)
    have e : (⟨b, o, none⟩ : Addr).add j = ⟨b, o + j, none⟩ := by
      unfold Addr.add
      split
      · subst_vars; rfl
      · rfl
    rw [e] at this
    rw [this]
    simp [List.getD_eq_getElem?_getD, hj]
theorem bytess_trod {H : Type} {enc : TypeId × Value → H} {W : World} {n : Nat} {u : Value} {y : DataW H × List MemPlace}
    (hf : DataW.trod enc Tryd.prog W 0 (fun _ => true) true n 45 [u] = some y) : ∃ A n c L, u = .slice A n c ∧ RdS W A n c L := by
  rcases DataW.trod_slice Tryd.und_bytess hf with ⟨hcs, _⟩ | ⟨a, len, cap, elems, rest, m, _, hcs, _, hb, hl, hm, hlen, hel, _, _⟩
  · simp at hcs
    exact ⟨none, 0, 0, [], hcs, RdS.nil _ _ _ (by omega)⟩
  · simp at hcs
    have hone : ∀ i, i < len → ∃ A n c l, W.cell? (a.add i) = some (.slice A n c) ∧ Rd W A n c l := by
      intro i hi
      have h1 := hel i hi
      rw [cellsB, Nat.mul_one, List.getElem?_eq_getElem (by omega), Option.bind_eq_some_iff] at h1
      obtain ⟨cs, h2, h3⟩ := h1
      obtain ⟨A, n, c, l, rfl, hR⟩ := bytes_trod h3
      exact ⟨A, n, c, l, cell_of_cells?_one h2, hR⟩
    have hf2 : ∀ i : _root_.Fin len, ∃ l : List Int, ∃ A c, W.cell? (a.add i.1) = some (.slice A l.length c) ∧ Rd W A l.length c l := fun i => by
      obtain ⟨A, n, c, l, h1, h2⟩ := hone i.1 i.2
      obtain rfl := h2.len
      exact ⟨l, A, c, h1, h2⟩
    obtain ⟨f, hf3⟩ := Classical.axiomOfChoice hf2
    refine ⟨some a, len, cap, List.ofFn f, hcs, by simp, hl, by simpa [maxLen] using hm, fun hp => ?_⟩
    obtain ⟨b, o, sp⟩ := a
    obtain ⟨_, _, h0, _⟩ := hf3 ⟨0, hp⟩
    obtain rfl := spare_none h0
    refine ⟨b, o, rfl, fun j hj => ?_⟩
    obtain ⟨A, c, h1, h2⟩ := hf3 ⟨j, hj⟩
    have e : (⟨b, o, none⟩ : Addr).add j = ⟨b, o + j, none⟩ := by
      unfold Addr.add
      split
      · subst_vars; rfl
      · rfl
    rw [e] at h1
    have e2 : (List.ofFn f).getD j [] = f ⟨j, hj⟩ := by simp [List.getD_eq_getElem?_getD, hj]
    rw [e2]
    exact ⟨A, c, h1, h2⟩

theorem RecordData_arg {H : Type} {enc : TypeId × Value → H} {W : World} {base : Nat} {v : Value} {d : DataW H} {p : List MemPlace}
    (hv : Value.okWide Tryd.prog W .any base 47 v) (h : DataW.Trod enc Tryd.prog W 0 (fun _ => true) true 47 v d p) :
    ∃ x : RV, v = .agg x.cells ∧ x.At W ∧ 0 ≤ x.seq ∧ x.seq < 18446744073709551616 := by
  unfold Value.okWide at hv
  rw [Tryd.underlying47] at hv
  obtain ⟨cs, rfl, hsz, ts, hts, _, hrow⟩ := hv
  obtain rfl : ts = [24, 38, 45] := Option.some.inj (hts.symm.trans typesR)
  rw [cellsR] at hsz
  obtain ⟨fuel, hf⟩ := h
  obtain ⟨xs, n, rfl, hx, hlen, hxl, hat⟩ := DataW.trod_struct Tryd.underlying47 hf
  obtain ⟨l⟩ := cs
  have hl : l.length = 3 := hsz
  match l, hl with
  | [v0, v1, v2], _ =>
    have hx3 : xs.length = 3 := hxl
    obtain ⟨u1, hu1, o1⟩ := hrow 1 v1 rfl
    obtain rfl : u1 = 38 := by simpa using hu1.symm
    have a0 : DataW.trod enc Tryd.prog W 0 (fun _ => true) true n 24 (([v0, v1, v2].drop 0).take (Tryd.prog.cellsOf 24)) = xs[0]? := hat 0 _ rfl
    rw [cellsB, List.getElem?_eq_getElem (by omega)] at a0
    have a2 : DataW.trod enc Tryd.prog W 0 (fun _ => true) true n 45 (([v0, v1, v2].drop 2).take (Tryd.prog.cellsOf 45)) = xs[2]? := hat 2 _ rfl
    rw [cellsS, List.getElem?_eq_getElem (by omega)] at a2
    obtain ⟨A0, n0, c0, l0, q0, r0⟩ := bytes_trod a0
    simp at q0
    subst q0
    obtain ⟨A1, n1, c1, L1, rfl, r1⟩ := bytess_trod a2
    have hk : ∃ k, v1 = .int .u64 k ∧ 0 ≤ k ∧ k < 18446744073709551616 := by
      simp only [Cell.okWide, Cell.ok, Tryd.underlying38] at o1
      cases v1 with
      | int k' m =>
        obtain ⟨rfl, h1, h2⟩ := o1
        simp [IntKind.min, IntKind.max, IntKind.signed, IntKind.bits] at h1 h2
        exact ⟨m, rfl, by omega, by omega⟩
      | _ => exact o1.elim
    obtain ⟨k, rfl, hk0, hk1⟩ := hk
    obtain rfl := r0.len
    obtain rfl := r1.len
    exact ⟨⟨A0, c0, l0, k, A1, c1, L1⟩, rfl, ⟨r0, r1⟩, hk0, hk1⟩
end Go.Proofs.YtipleaojejbkpaaDoor
