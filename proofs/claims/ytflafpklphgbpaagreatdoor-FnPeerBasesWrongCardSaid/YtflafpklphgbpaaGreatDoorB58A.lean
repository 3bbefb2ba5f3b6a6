/- base58.NewAlphabet, BTCAlphabet. -/
import Derived.Test.YtflafpklphgbpaaGreatDoorB58S
import Derived.Lib.BufferWrite
import Derived.Deep.WholeRow
import Derived.Deep.MidRow
namespace Go.Proofs.YtflafpklphgbpaaGreatDoor
open Go Go.RowKit
set_option linter.unusedVariables false
set_option linter.unusedSimpArgs false
set_option maxRecDepth 100000

section
variable {P : Program} {ops : Array Oper} {rest : List Oper} {o : Oper} {a : Act} {Q : Exit → Act → World → Prop}
theorem copy_step {W W' : World} (hgd : o.guard = none) (s x : Operand) (ts : Array TypeId) (ho : o.op = .call { callee := .builtin .copy, args := #[s, x], argTypes := ts }) (v y r : Value) (hs : a.eval s = v) (hx : a.eval x = y)
    (hr : (Builtin.copy_ ts o.type #[v, y]).run P W = .ok r W') (h : wpList P ops Q rest (a.put o.dst r) W') : wpList P ops Q (o :: rest) a W := by
  refine wpList_plain hgd fun K hK => ?_
  unfold Oper.wp execOp
  simp only [ho, resolve, invoke, builtin, Sem.run_bind, Sem.run_pure, Result.andThen_ok, List.map_toArray, List.map_cons, List.map_nil, hs, hx, hr]
  exact hK _ _ h
end

/-- The alphabet's cells: behind 128 others the signs. -/
structure Alph (C : Array Value) : Prop where
  size : C.size = 186
  enc : ∀ i : Nat, i < 58 → C[128 + i]? = some (.int .u8 (alpha.getD i 0))
theorem Alph.set {C : Array Value} (h : Alph C) (j : Nat) (hj : j < 128) (v : Value) : Alph (C.setIfInBounds j v) :=
  ⟨by simpa using h.size, fun i hi => by rw [Array.getElem?_setIfInBounds, if_neg (by omega)]; exact h.enc i hi⟩
theorem Alph.first {Z : Array Value} (hz : Z.size = 186) : Alph ((Z.toList.take 128 ++ Lib.byteCells (⟨#[49, 50, 51, 52, 53, 54, 55, 56, 57, 65, 66, 67, 68, 69, 70, 71, 72, 74, 75, 76, 77, 78, 80, 81, 82, 83, 84, 85, 86, 87, 88, 89, 90, 97, 98, 99, 100, 101, 102, 103, 104, 105, 106, 107, 109, 110, 111, 112, 113, 114, 115, 116, 117, 118, 119, 120, 121, 122]⟩ : ByteArray).data.toList ++ Z.toList.drop (128 + 58)).toArray) := by
  have hl : (Z.toList.take 128).length = 128 := by rw [List.length_take, Array.length_toList]; omega
  refine ⟨by simp [hz, Lib.byteCells], fun i hi => ?_⟩
  rw [List.getElem?_toArray, List.append_assoc, List.getElem?_append_right (by omega), hl, show 128 + i - 128 = i from by omega, List.getElem?_append_left (by show i < 58; exact hi)]
  have e : Lib.byteCells (⟨#[49, 50, 51, 52, 53, 54, 55, 56, 57, 65, 66, 67, 68, 69, 70, 71, 72, 74, 75, 76, 77, 78, 80, 81, 82, 83, 84, 85, 86, 87, 88, 89, 90, 97, 98, 99, 100, 101, 102, 103, 104, 105, 106, 107, 109, 110, 111, 112, 113, 114, 115, 116, 117, 118, 119, 120, 121, 122]⟩ : ByteArray).data.toList = alpha.map (fun x => .int .u8 x) := by kernel_rfl
  have hi' : i < alpha.length := hi
  rw [e]
  simp [List.getD_eq_getElem?_getD, List.getElem?_eq_getElem hi']
theorem ARok : ∀ i : Nat, i < 58 → (#[.int .u8 49, .int .u8 50, .int .u8 51, .int .u8 52, .int .u8 53, .int .u8 54, .int .u8 55, .int .u8 56, .int .u8 57, .int .u8 65, .int .u8 66, .int .u8 67, .int .u8 68, .int .u8 69, .int .u8 70, .int .u8 71, .int .u8 72, .int .u8 74, .int .u8 75, .int .u8 76, .int .u8 77, .int .u8 78, .int .u8 80, .int .u8 81, .int .u8 82, .int .u8 83, .int .u8 84, .int .u8 85, .int .u8 86, .int .u8 87, .int .u8 88, .int .u8 89, .int .u8 90, .int .u8 97, .int .u8 98, .int .u8 99, .int .u8 100, .int .u8 101, .int .u8 102, .int .u8 103, .int .u8 104, .int .u8 105, .int .u8 106, .int .u8 107, .int .u8 109, .int .u8 110, .int .u8 111, .int .u8 112, .int .u8 113, .int .u8 114, .int .u8 115, .int .u8 116, .int .u8 117, .int .u8 118, .int .u8 119, .int .u8 120, .int .u8 121, .int .u8 122] : Array Value)[i]? = some (.int .u8 (alpha.getD i 0)) := by
  intro i hi
  have e : (#[.int .u8 49, .int .u8 50, .int .u8 51, .int .u8 52, .int .u8 53, .int .u8 54, .int .u8 55, .int .u8 56, .int .u8 57, .int .u8 65, .int .u8 66, .int .u8 67, .int .u8 68, .int .u8 69, .int .u8 70, .int .u8 71, .int .u8 72, .int .u8 74, .int .u8 75, .int .u8 76, .int .u8 77, .int .u8 78, .int .u8 80, .int .u8 81, .int .u8 82, .int .u8 83, .int .u8 84, .int .u8 85, .int .u8 86, .int .u8 87, .int .u8 88, .int .u8 89, .int .u8 90, .int .u8 97, .int .u8 98, .int .u8 99, .int .u8 100, .int .u8 101, .int .u8 102, .int .u8 103, .int .u8 104, .int .u8 105, .int .u8 106, .int .u8 107, .int .u8 109, .int .u8 110, .int .u8 111, .int .u8 112, .int .u8 113, .int .u8 114, .int .u8 115, .int .u8 116, .int .u8 117, .int .u8 118, .int .u8 119, .int .u8 120, .int .u8 121, .int .u8 122] : Array Value) = (alpha.map (fun x => Value.int .u8 x)).toArray := by kernel_rfl
  have hi' : i < alpha.length := hi
  rw [e]
  simp [List.getD_eq_getElem?_getD, List.getElem?_eq_getElem hi']
theorem infoByte1 : (Tryz.prog.info? 5).map (·.size) = some 1 := by kernel_rfl

theorem infoArr : (Tryz.prog.info? 129).map (·.size) = some ((alpha.map (fun x => Value.int .u8 x)).length) := by kernel_rfl
theorem alpha_rng : ∀ i : Nat, i < 58 → 0 ≤ alpha.getD i 0 ∧ alpha.getD i 0 < 128 := by decide
theorem run_index_in {P : Program} (w : World) (t e : TypeId) (n : Nat) (cs : Array Value) (k : IntKind) (i : Nat) (h : P.underlying t = some (.array n e)) (h0 : (0 : Int) ≤ i) (h1 : (i : Int) < n)
    (hs : (P.info? e).map (·.size) = some 1) (hu : P.underlying e = some (.int .u8)) (v : Value) (hv : cs[i]? = some v) : (Instr.index t (.agg cs) (.int k i)).run P w = .ok v w := by
  cases hq : P.info? e with
  | none => simp [hq] at hs
  | some info =>
    have hs1 : info.size = 1 := by simpa [hq] using hs
    have hn : i < n := by omega
    simp [Instr.index, run_underlying h, asIntOf, hn, go_sem, part, sizeOf, typeInfo, hq, hs1, isAgg, run_underlying hu, hv]

set_option maxHeartbeats 4000000 in
theorem NewAlphabet_calls {w : World} :
    Calls Tryz.prog 75 #[.string ⟨#[49, 50, 51, 52, 53, 54, 55, 56, 57, 65, 66, 67, 68, 69, 70, 71, 72, 74, 75, 76, 77, 78, 80, 81, 82, 83, 84, 85, 86, 87, 88, 89, 90, 97, 98, 99, 100, 101, 102, 103, 104, 105, 106, 107, 109, 110, 111, 112, 113, 114, 115, 116, 117, 118, 119, 120, 121, 122]⟩] w
      fun e w' => ∃ g, e = .returned (.pointer (some ⟨g, 0, none⟩)) ∧ w.heap.size ≤ g ∧ g < w'.heap.size ∧ (∀ i : Nat, i < 58 → w'.cell? ⟨g, 128 + i, none⟩ = some (.int .u8 (alpha.getD i 0))) ∧ Kp no w w' := by
  go_enter Tryz.func75, Tryz.ntmps75
  go_upto_region 4 with (fail)
  have hz : Tryz.zeroCells131.size = 186 := by kernel_rfl
  have HA := Lib.hid (Alph.first hz)
  have hcp := Lib.run_copy_row_string (P := Tryz.prog) (w.alloc (.cells Tryz.zeroCells131 131)) 23 9 3 5 w.heap.size 128 58 58 ⟨#[49, 50, 51, 52, 53, 54, 55, 56, 57, 65, 66, 67, 68, 69, 70, 71, 72, 74, 75, 76, 77, 78, 80, 81, 82, 83, 84, 85, 86, 87, 88, 89, 90, 97, 98, 99, 100, 101, 102, 103, 104, 105, 106, 107, 109, 110, 111, 112, 113, 114, 115, 116, 117, 118, 119, 120, 121, 122]⟩ Tryz.zeroCells131 131 Tryz.und_bytes infoByte1 (Blk.new w _ _) (by decide) (by rw [hz]; decide)
  rw [World.setRow_alloc_new] at hcp
  have hb0 := Blk.new w ((Tryz.zeroCells131.toList.take 128 ++ Lib.byteCells (⟨#[49, 50, 51, 52, 53, 54, 55, 56, 57, 65, 66, 67, 68, 69, 70, 71, 72, 74, 75, 76, 77, 78, 80, 81, 82, 83, 84, 85, 86, 87, 88, 89, 90, 97, 98, 99, 100, 101, 102, 103, 104, 105, 106, 107, 109, 110, 111, 112, 113, 114, 115, 116, 117, 118, 119, 120, 121, 122]⟩ : ByteArray).data.toList ++ Tryz.zeroCells131.toList.drop (128 + 58)).toArray) 131
  have k0 : Kp no w (w.alloc (.cells ((Tryz.zeroCells131.toList.take 128 ++ Lib.byteCells (⟨#[49, 50, 51, 52, 53, 54, 55, 56, 57, 65, 66, 67, 68, 69, 70, 71, 72, 74, 75, 76, 77, 78, 80, 81, 82, 83, 84, 85, 86, 87, 88, 89, 90, 97, 98, 99, 100, 101, 102, 103, 104, 105, 106, 107, 109, 110, 111, 112, 113, 114, 115, 116, 117, 118, 119, 120, 121, 122]⟩ : ByteArray).data.toList ++ Tryz.zeroCells131.toList.drop (128 + 58)).toArray) 131)) := (Kp.refl _ _).alloc _
  rw [show ((⟨#[49, 50, 51, 52, 53, 54, 55, 56, 57, 65, 66, 67, 68, 69, 70, 71, 72, 74, 75, 76, 77, 78, 80, 81, 82, 83, 84, 85, 86, 87, 88, 89, 90, 97, 98, 99, 100, 101, 102, 103, 104, 105, 106, 107, 109, 110, 111, 112, 113, 114, 115, 116, 117, 118, 119, 120, 121, 122]⟩ : ByteArray).size) = 58 from rfl] at hcp
  generalize hC : (Tryz.zeroCells131.toList.take 128 ++ Lib.byteCells (⟨#[49, 50, 51, 52, 53, 54, 55, 56, 57, 65, 66, 67, 68, 69, 70, 71, 72, 74, 75, 76, 77, 78, 80, 81, 82, 83, 84, 85, 86, 87, 88, 89, 90, 97, 98, 99, 100, 101, 102, 103, 104, 105, 106, 107, 109, 110, 111, 112, 113, 114, 115, 116, 117, 118, 119, 120, 121, 122]⟩ : ByteArray).data.toList ++ Tryz.zeroCells131.toList.drop (128 + 58)).toArray = C at *
  clear hC hz
  go_upto_block 0 with (fail)
  clear hcp
  go_cut [] from 18 (fun wx => ∃ C, Blk wx w.heap.size C 131 ∧ Hid (Alph C) ∧ Kp no w wx)
  case first =>
    go_wp2
    go_loopw [18] (fun iv wr => ∃ (i : Nat) (C : Array Value), i ≤ 128 ∧ iv = .int .i64 i ∧ Blk wr w.heap.size C 131 ∧ Hid (Alph C) ∧ Kp no w wr) (fun iv _ => 128 - (intOf iv).toNat)
    case atStart => exact ⟨0, C, Nat.zero_le _, rfl, hb0, HA, k0⟩
    case round =>
      obtain ⟨i, C, hi, rfl, hb, HA, k⟩ := hrel
      by_cases hlt : i < 128
      · have hsz := HA.out.size
        obtain ⟨v, hv⟩ : ∃ v, C[i]? = some v := ⟨C[i], Array.getElem?_eq_getElem (by omega)⟩
        have c0 := hb.cell i
        rw [hv] at c0
        have f0 := hb.free i
        have hi2 : (i : Int) < 128 := by omega
        clear hsz hv
        go_wp2
        go_roundw
        case rel => exact ⟨i + 1, _, by omega, by go_num, hb.set i _, Lib.hid (HA.out.set i hlt _), k.setCell (p := ⟨w.heap.size, i, none⟩) (fun h => by simp at h) _⟩
        case measure => simp [intOf]; omega
      · obtain rfl : i = 128 := by omega
        go_wp2
        go_meet
        case rel => exact ⟨C, hb, HA, k⟩
  case rest =>
    obtain ⟨C, hb, HA, k⟩ := hcut
    have hrg : wc.rangeAt w.heap.size 128 (alpha.map (fun x => Value.int .u8 x)) := fun j v hv => by
      have hj : j < 58 := by
        rcases Nat.lt_or_ge j 58 with h | h
        · exact h
        · rw [List.getElem?_eq_none (by simpa [alpha] using h)] at hv; cases hv
      rw [hb.cell (128 + j), HA.out.enc j hj, ← hv]
      have hj' : j < alpha.length := hj
      simp [List.getD_eq_getElem?_getD, List.getElem?_eq_getElem hj']
    have hix : ∀ (i : Nat), i < 58 → ∀ W : World, (Instr.index 129 (.agg (alpha.map (fun x => Value.int .u8 x)).toArray) (.int .i64 i)).run Tryz.prog W = .ok (.int .u8 (alpha.getD i 0)) W := fun i hi W => by
      have hi' : i < alpha.length := hi
      exact run_index_in W _ _ 58 _ _ i Tryz.underlying129 (by omega) (by omega) infoByte1 Tryz.und_byte _ (by simp [List.getD_eq_getElem?_getD, List.getElem?_eq_getElem hi'])
    have HRG := Lib.hid hrg
    have HIX := Lib.hid hix
    clear hrg hix
    go_wp2_with (refine wpList_load_mid rfl 129 (.tmp 29) rfl w.heap.size 128 rfl (alpha.map (fun x => Value.int .u8 x)) (.array 58 5) HRG.out Tryz.underlying129 rfl infoArr ?_; generalize (alpha.map (fun x => Value.int .u8 x)).toArray = AR at *)
    go_loopw [31] (fun iv wr => ∃ (i : Nat) (C : Array Value), i ≤ 58 ∧ iv = .int .i64 i ∧ Blk wr w.heap.size C 131 ∧ Hid (Alph C) ∧ Kp no w wr) (fun iv _ => 58 - (intOf iv).toNat)
    case atStart => exact ⟨0, C, Nat.zero_le _, rfl, hb, HA, k⟩
    case round =>
      obtain ⟨i, C, hi, rfl, hb, HA, k⟩ := hrel
      by_cases hlt : i < 58
      · have hai := HIX.out i hlt
        have hsg := alpha_rng i hlt
        obtain ⟨b, hbb⟩ : ∃ b : Nat, (b : Int) = alpha.getD i 0 := ⟨(alpha.getD i 0).toNat, by omega⟩
        rw [← hbb] at hai hsg
        have hb128 : b < 128 := by omega
        have hsz := HA.out.size
        obtain ⟨v, hv⟩ : ∃ v, C[b]? = some v := ⟨C[b], Array.getElem?_eq_getElem (by omega)⟩
        have c0 := hb.cell b
        rw [hv] at c0
        have f0 := hb.free b
        clear hsz hv hbb
        go_wp2
        go_roundw
        case rel => exact ⟨i + 1, _, by omega, by go_num, hb.set b _, Lib.hid (HA.out.set b hb128 _), k.setCell (p := ⟨w.heap.size, b, none⟩) (fun h => by simp at h) _⟩
        case measure => simp [intOf]; omega
      · obtain rfl : i = 58 := by omega
        have HE := Lib.hid (fun j (hj : j < 58) => (hb.cell (128 + j)).trans (HA.out.enc j hj))
        have hlt2 := hb.lt
        go_wp2
        go_ret
        exact ⟨w.heap.size, rfl, Nat.le_refl _, hlt2, HE.out, k⟩
end Go.Proofs.YtflafpklphgbpaaGreatDoor
