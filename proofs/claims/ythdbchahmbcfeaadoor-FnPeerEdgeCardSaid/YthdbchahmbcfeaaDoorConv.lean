/- Bytes as texts and texts as bytes, of whatever named types. -/
import Derived.Test.YthdbchahmbcfeaaDoorBytes
import Derived.Laws.IdiomStrings
import Derived.Laws.AppendOwn
namespace Go.Proofs.YthdbchahmbcfeaaDoor
open Go Go.RowKit
set_option linter.unusedVariables false
set_option linter.unusedSimpArgs false
set_option maxRecDepth 100000

theorem Rd.strT {w : World} {A : Option Addr} {n c : Nat} {l : List Int} (h : Rd w A n c l) {t u : TypeId} (ht : Tryd.prog.underlying t = some (.slice 5)) (hu : Tryd.prog.underlying u = some .string) :
    (convert t u (.slice A n c)).run Tryd.prog w = .ok (.string (strOfNums l)) w := by
  have hl := h.len
  rcases Nat.eq_zero_or_pos n with h0 | h0
  · subst h0
    obtain rfl : l = [] := List.eq_nil_of_length_eq_zero hl
    cases A with
    | none => exact run_convert_bytes_nil w _ _ ht Tryd.und_byte 0 c _ hu
    | some ad =>
      have hz : (loadCells ad 0).run Tryd.prog w = .ok (([] : List Int).map (Value.int .u8)).toArray w := by simp [loadCells, loadCellsFrom]
      rw [run_convert_bytes_string w t u 5 _ 0 c ht Tryd.und_byte hu, run_bytesToString w ad 0 c [] hz, foldl_push_bytes]
      rfl
  · obtain ⟨g, o, rfl, hc⟩ := h.at_ h0
    exact run_convert_bytes_arg w _ _ ht Tryd.und_byte g o n c l hl hc _ hu
/-- A text as bytes: a new row, only read. -/
theorem str_bytes {w : World} {l : List Int} (hb : Byt l) (hn : l.length ≤ 1099511627776) {t u : TypeId} (ht : Tryd.prog.underlying t = some .string) (hu : Tryd.prog.underlying u = some (.slice 5)) :
    ∃ c w2, (convert t u (.string (strOfNums l))).run Tryd.prog w = .ok (.slice (some ⟨w.heap.size, 0, none⟩) l.length c) w2 ∧ Rd w2 (some ⟨w.heap.size, 0, none⟩) l.length c l ∧ Kp no w w2 ∧ w2.heap.size = w.heap.size + 1 := by
  have hs := strOfNums_size l
  have hr := run_bytes_of_string (P := Tryd.prog) w t u 5 (strOfNums l) ht hu Tryd.und_byte
  rw [hs] at hr
  have hge := grownCap_ge w l.length 0 5
  have hle := grownCap_le_maxLen w l.length 0 5 (by simp only [maxLen]; omega)
  generalize grownCap w l.length 0 5 = cap at *
  refine ⟨cap, _, hr, ⟨rfl, hge, by simpa [maxLen] using hle, hb, fun hp => ⟨w.heap.size, 0, rfl, fun j hj => ?_⟩⟩, ((Kp.refl _ _).drew).alloc _, by simp⟩
  rw [Nat.zero_add]
  have hh := heap_alloc_new w.drew (.cells (bytesRow (strOfNums l) cap) 5 ((bytesRow (strOfNums l) cap).size, (bytesRow (strOfNums l) cap).size + 1))
  rw [cell_of_row _ w.heap.size j _ _ _ hh]
  have hd : (strOfNums l).data.size = l.length := hs
  rw [bytesRow_at _ _ j (by omega)]
  have hx := hb l[j] (List.getElem_mem hj)
  have he : (strOfNums l).data[j]'(by omega) = UInt8.ofNat l[j].toNat := by
    have h1 := strOfNums_data l
    have h2 : (strOfNums l).data.toList[j]'(by simpa using (by omega : j < (strOfNums l).data.size)) = (l.map (fun n => UInt8.ofNat n.toNat))[j]'(by simpa using hj) := by simp [h1]
    simpa using h2
  rw [he, List.getD_eq_getElem?_getD, List.getElem?_eq_getElem hj]
  simp only [UInt8.toNat_ofNat', Option.getD_some, Option.some.injEq, Value.int.injEq, true_and]
  omega
end Go.Proofs.YthdbchahmbcfeaaDoor
