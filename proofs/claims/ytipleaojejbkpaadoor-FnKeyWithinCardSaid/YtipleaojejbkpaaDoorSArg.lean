/- An envelope's data as a law's argument. -/
import Derived.Test.YtipleaojejbkpaaDoorArg
import Derived.Test.YtipleaojejbkpaaDoorEnvC
namespace Go.Proofs.YtipleaojejbkpaaDoor
open Go Go.ChangeShapes Go.WideShapes Go.ChangeAt Go.RowKit
set_option linter.unusedVariables false
set_option linter.unusedSimpArgs false
set_option maxRecDepth 100000

theorem cellsB : Tryd.prog.cellsOf 24 = 1 := by kernel_rfl
theorem cellsE : Tryd.prog.cellsOf 64 = 6 := by kernel_rfl
theorem typesE : Tryd.prog.cellTypes Tryd.prog.depth 64 = some [4, 21, 24, 24, 24, 24] := by kernel_rfl
theorem field_bytes {H : Type} {enc : TypeId × Value → H} {W : World} {base n : Nat} {v : Value} {y : DataW H × List MemPlace} (ho : Cell.okWide Tryd.prog W .any base 24 v)
    (ht : DataW.trod enc Tryd.prog W 0 (fun _ => true) true n 24 [v] = some y) : ∃ A n c l, v = .slice A n c ∧ Rd W A n c l ∧ Lo W.heap.size A := by
  have hv : Value.okWide Tryd.prog W .any base 24 v := by
    unfold Value.okWide
    rw [Tryd.underlying24]
    exact ho
  obtain ⟨A, m, c, rfl⟩ := okWide_slice Tryd.underlying24 hv
  exact bytes_arg (d := y.1) (p := y.2) hv ⟨n, ht⟩
theorem EnvelopeData_arg {H : Type} {enc : TypeId × Value → H} {W : World} {base : Nat} {v : Value} {d : DataW H} {p : List MemPlace}
    (hv : Value.okWide Tryd.prog W .any base 64 v) (h : DataW.Trod enc Tryd.prog W 0 (fun _ => true) true 64 v d p) :
    ∃ x : EV, v = .agg x.cells ∧ x.At W := by
  unfold Value.okWide at hv
  rw [Tryd.underlying64] at hv
  obtain ⟨cs, rfl, hsz, ts, hts, _, hrow⟩ := hv
  obtain rfl : ts = [4, 21, 24, 24, 24, 24] := Option.some.inj (hts.symm.trans typesE)
  rw [cellsE] at hsz
  obtain ⟨fuel, hf⟩ := h
  obtain ⟨xs, n, rfl, hx, hlen, hxl, hat⟩ := DataW.trod_struct Tryd.underlying64 hf
  obtain ⟨l⟩ := cs
  have hl : l.length = 6 := hsz
  match l, hl with
  | [v0, v1, v2, v3, v4, v5], _ =>
    have hx6 : xs.length = 6 := hxl
    obtain ⟨u0, hu0, o0⟩ := hrow 0 v0 rfl
    obtain ⟨u1, hu1, o1⟩ := hrow 1 v1 rfl
    obtain ⟨u2, hu2, o2⟩ := hrow 2 v2 rfl
    obtain ⟨u3, hu3, o3⟩ := hrow 3 v3 rfl
    obtain ⟨u4, hu4, o4⟩ := hrow 4 v4 rfl
    obtain ⟨u5, hu5, o5⟩ := hrow 5 v5 rfl
    obtain rfl : u0 = 4 := by simpa using hu0.symm
    obtain rfl : u1 = 21 := by simpa using hu1.symm
    obtain rfl : u2 = 24 := by simpa using hu2.symm
    obtain rfl : u3 = 24 := by simpa using hu3.symm
    obtain rfl : u4 = 24 := by simpa using hu4.symm
    obtain rfl : u5 = 24 := by simpa using hu5.symm
    have a2 : DataW.trod enc Tryd.prog W 0 (fun _ => true) true n 24 (([v0, v1, v2, v3, v4, v5].drop 2).take (Tryd.prog.cellsOf 24)) = xs[2]? := hat 2 _ rfl
    rw [cellsB, List.getElem?_eq_getElem (by omega)] at a2
    have a3 : DataW.trod enc Tryd.prog W 0 (fun _ => true) true n 24 (([v0, v1, v2, v3, v4, v5].drop 3).take (Tryd.prog.cellsOf 24)) = xs[3]? := hat 3 _ rfl
    rw [cellsB, List.getElem?_eq_getElem (by omega)] at a3
    have a4 : DataW.trod enc Tryd.prog W 0 (fun _ => true) true n 24 (([v0, v1, v2, v3, v4, v5].drop 4).take (Tryd.prog.cellsOf 24)) = xs[4]? := hat 4 _ rfl
    rw [cellsB, List.getElem?_eq_getElem (by omega)] at a4
    have a5 : DataW.trod enc Tryd.prog W 0 (fun _ => true) true n 24 (([v0, v1, v2, v3, v4, v5].drop 5).take (Tryd.prog.cellsOf 24)) = xs[5]? := hat 5 _ rfl
    rw [cellsB, List.getElem?_eq_getElem (by omega)] at a5
    obtain ⟨A0, n0, c0, l0, rfl, r0, _⟩ := field_bytes o2 a2
    obtain ⟨A1, n1, c1, l1, rfl, r1, _⟩ := field_bytes o3 a3
    obtain ⟨A2, n2, c2, l2, rfl, r2, _⟩ := field_bytes o4 a4
    obtain ⟨A3, n3, c3, l3, rfl, r3, _⟩ := field_bytes o5 a5
    have hb : ∃ b, v0 = .bool b := by
      simp only [Cell.okWide, Cell.ok, Tryd.underlying4] at o0
      cases v0 <;> simp_all
    have hk : ∃ k, v1 = .int .i32 k ∧ -2147483648 ≤ k ∧ k ≤ 2147483647 := by
      simp only [Cell.okWide, Cell.ok, Tryd.underlying21] at o1
      cases v1 with
      | int k' m =>
        obtain ⟨rfl, h1, h2⟩ := o1
        simp [IntKind.min, IntKind.max, IntKind.signed, IntKind.bits] at h1 h2
        exact ⟨m, rfl, by omega, by omega⟩
      | _ => exact o1.elim
    obtain ⟨b, rfl⟩ := hb
    obtain ⟨k, rfl, hk0, hk1⟩ := hk
    obtain rfl := r0.len
    obtain rfl := r1.len
    obtain rfl := r2.len
    obtain rfl := r3.len
    exact ⟨⟨b, k, A0, c0, l0, A1, c1, l1, A2, c2, l2, A3, c3, l3⟩, rfl, r0, r1, r2, r3, hk0, hk1⟩
end Go.Proofs.YtipleaojejbkpaaDoor
