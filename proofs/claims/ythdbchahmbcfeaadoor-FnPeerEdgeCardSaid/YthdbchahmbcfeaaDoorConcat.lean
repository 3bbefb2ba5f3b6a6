/- slices.Grow of nothing, slices.Concat; lists of bytes that are read; AppendTag, AppendBytes. -/
import Derived.Test.YthdbchahmbcfeaaDoorAv
namespace Go.Proofs.YthdbchahmbcfeaaDoor
open Go Go.RowKit
set_option linter.unusedVariables false
set_option linter.unusedSimpArgs false
set_option maxRecDepth 100000

theorem Tryd.und_int : Tryd.prog.underlying 3 = some (.int .i64) := by kernel_rfl
section
variable {P : Program} {ops : Array Oper} {rest : List Oper} {o : Oper} {a : Act} {Q : Exit → Act → World → Prop}
/-- An append whose run is known, behind 'at_builtin'. -/
theorem append_step {w w1 : World} {v : Value} (hgd : o.guard = none) (s x : Operand) (ts : Array TypeId)
    (ho : o.op = .call { callee := .builtin .append, args := #[s, x], argTypes := ts }) (vs vx : Value) (hs : a.eval s = vs) (hx : a.eval x = vx)
    (hr : (Builtin.append_ ts o.type #[vs, vx]).run P w = .ok v w1) (h : wpList P ops Q rest (a.put o.dst v) w1) : wpList P ops Q (o :: rest) a w := by
  refine wpList_plain hgd fun K hK => ?_
  unfold Oper.wp execOp
  simp only [ho, resolve, invoke, builtin, Sem.run_bind, Sem.run_pure, Result.andThen_ok, List.map_toArray, List.map_cons, List.map_nil, hs, hx, hr]
  exact hK _ _ h

theorem run_grow_nil (w : World) (t ti ty e : TypeId) (ht : P.underlying t = some (.slice e)) {k : IntKind} (hti : P.underlying ti = some (.int k))
    (hinfo : (P.info? e).map (fun i => (i.zero, i.size, i.bytes)) = some (some (.int .u8 0), 1, 1)) (m : Nat) (h0 : 0 < m) (hm : m ≤ 140737488355328) :
    (Builtin.append_ #[t, ti] ty #[.slice none 0 0, .int .i64 m]).run P w = .ok (.slice (some ⟨w.heap.size, 0, none⟩) m (grownCap w m 0 e))
      (w.drew.alloc (.cells (Builtin.zeroCells #[.int .u8 0] m ++ Builtin.zeroCells #[.int .u8 0] (grownCap w m 0 e - m)) e)) := by
  obtain ⟨i, hi, hzz⟩ := Option.map_eq_some_iff.1 hinfo
  simp only [Prod.mk.injEq] at hzz
  obtain ⟨hz0, hz1, hz2⟩ := hzz
  have hw : IntKind.i64.wrap (m : Int) = m := IntWalk.i64_in _ (by omega)
  have hneg : ¬ ((m : Int) < 0) := by omega
  have hbig : ¬ (281474976710656 < (m : Int)) := by omega
  have hn : m ≠ 0 := by omega
  have h63' : ¬ (9223372036854775807 < (m : Int)) := by omega
  have h48' : ¬ (281474976710656 < Builtin.nextslicecap m 0) := by rw [nextslicecap_zero h0]; omega
  simp [Builtin.append_, run_underlying ht, run_underlying hti, sizeOf, typeInfo, zeroValue, hi, hz0, hz1, hz2, asInt, asIntOf, hw, hneg, hbig, hn, h63', h48', Question.forced, newRow, grownCap, Builtin.firstCells, Value.cells]
end

theorem size_zeros (m : Nat) : (Builtin.zeroCells #[.int .u8 0] m).size = m := by simp [Builtin.zeroCells]
/-- Room of one's own. -/
theorem Own.room (W : World) (e : TypeId) (B : Nat) (cur : Array Value) (cap : Nat) (hb : B ≤ W.heap.size) (hs : cur.size = cap) (hm : cap ≤ 9223372036854775807) :
    Own (W.alloc (.cells cur e)) e B (.slice (some ⟨W.heap.size, 0, none⟩) 0 cap) [] :=
  ⟨⟨by simp [nums], .inr ⟨W.heap.size, cap, cur, rfl, hb, heap_alloc_new W _, Nat.zero_le _, by simpa [maxLen] using hm, by omega, by simp [nums]⟩⟩, Byt.nil⟩

/-- A list of bytes that is read. -/
structure RdS (w : World) (A : Option Addr) (n c : Nat) (L : List (List Int)) : Prop where
  len : L.length = n
  cap : n ≤ c
  max : c ≤ 9223372036854775807
  at_ : 0 < n → ∃ g o, A = some ⟨g, o, none⟩ ∧ ∀ j, j < n → ∃ A' c', w.cell? ⟨g, o + j, none⟩ = some (.slice A' (L.getD j []).length c') ∧ Rd w A' (L.getD j []).length c' (L.getD j [])
theorem RdS.nil (w : World) (A : Option Addr) (c : Nat) (hc : c ≤ 9223372036854775807) : RdS w A 0 c [] := ⟨rfl, Nat.zero_le _, hc, fun h => absurd h (by omega)⟩
theorem RdS.keepN {w w' : World} {A : Option Addr} {n c : Nat} {L : List (List Int)} (h : RdS w A n c L) (k : Kp no w w') : RdS w' A n c L :=
  ⟨h.len, h.cap, h.max, fun hp => by
    obtain ⟨g, o, rfl, hc⟩ := h.at_ hp
    refine ⟨g, o, rfl, fun j hj => ?_⟩
    obtain ⟨A', c', h1, h2⟩ := hc j hj
    exact ⟨A', c', k.cellN h1, h2.keepN k⟩⟩
theorem take_flat (L : List (List Int)) (k : Nat) (hk : k < L.length) : (L.take (k + 1)).flatten = (L.take k).flatten ++ L.getD k [] := by
  rw [List.take_succ_eq_append_getElem hk, List.flatten_append]
  simp [List.getD_eq_getElem?_getD, List.getElem?_eq_getElem hk]
/-- How long the first k of them are, together. -/
def tot (L : List (List Int)) (k : Nat) : Nat := (L.take k).flatten.length
theorem tot_succ (L : List (List Int)) (k : Nat) (hk : k < L.length) : tot L (k + 1) = tot L k + (L.getD k []).length := by
  unfold tot; rw [take_flat L k hk, List.length_append]
theorem tot_le (L : List (List Int)) (k : Nat) : tot L k ≤ L.flatten.length := by
  unfold tot
  have : L.flatten = (L.take k).flatten ++ (L.drop k).flatten := by rw [← List.flatten_append, List.take_append_drop]
  rw [this, List.length_append]; omega
theorem tot_all (L : List (List Int)) : tot L L.length = L.flatten.length := by unfold tot; rw [List.take_length]
theorem flat_byt {w : World} {A : Option Addr} {n c : Nat} {L : List (List Int)} (h : RdS w A n c L) (j : Nat) (hj : j < n) : Byt (L.getD j []) := by
  obtain ⟨g, o, _, hc⟩ := h.at_ (by omega)
  obtain ⟨_, _, _, h2⟩ := hc j hj
  exact h2.byt

end Go.Proofs.YthdbchahmbcfeaaDoor
