/- (*base32.Encoding).decode: the letters of a row, turned in place. -/
import Derived.Test.YtflafpklphgbpaaGreatDoorB32K
import Derived.Test.YtflafpklphgbpaaGreatDoorB32R
namespace Go.Proofs.YtflafpklphgbpaaGreatDoor
open Go Go.RowKit
set_option linter.unusedVariables false
set_option linter.unusedSimpArgs false
set_option maxRecDepth 100000

/-- A row of bytes at the head of a block that may go on behind them. -/
def RowM (w : World) (g : Nat) (L : List Int) : Prop := ∃ cs t lo hi, w.heap[g]? = some (.cells cs t (lo, hi)) ∧ L.length ≤ lo ∧ L.length ≤ cs.size ∧ ∀ i : Nat, i < L.length → cs[i]? = some (.int .u8 (L.getD i 0))
theorem RowM.cell {w : World} {g : Nat} {L : List Int} (h : RowM w g L) (i : Nat) (hi : i < L.length) : w.cell? ⟨g, i, none⟩ = some (.int .u8 (L.getD i 0)) := by
  obtain ⟨cs, t, lo, hi', hh, _, _, hc⟩ := h
  rw [cell_of_row w g i cs t (lo, hi') hh]; exact hc i hi
theorem RowM.free {w : World} {g : Nat} {L : List Int} (h : RowM w g L) (i : Nat) (hi : i < L.length) : w.frozen? ⟨g, i, none⟩ = false := by
  obtain ⟨cs, t, lo, hi', hh, hlo, _, _⟩ := h
  unfold World.frozen?
  rw [hh]
  have : decide (lo ≤ i) = false := decide_eq_false (by omega)
  simp [this]
theorem RowM.set {w : World} {g : Nat} {L : List Int} (h : RowM w g L) (i : Nat) (v : Int) : RowM (w.setCell ⟨g, i, none⟩ (.int .u8 v)) g (L.set i v) := by
  obtain ⟨cs, t, lo, hi', hh, hlo, hcs, hc⟩ := h
  refine ⟨cs.setIfInBounds i (.int .u8 v), t, lo, hi', by simp [World.setCell, Array.getElem?_modify, hh], by simpa using hlo, by simpa using hcs, fun j hj => ?_⟩
  have hj' : j < L.length := by simpa using hj
  rw [Array.getElem?_setIfInBounds]
  by_cases e : i = j
  · subst e; rw [if_pos rfl, if_pos (by omega), getD_set _ _ _ _ hj', if_pos rfl]
  · rw [if_neg e, hc j hj']
    congr 2
    rw [List.getD_eq_getElem?_getD, List.getD_eq_getElem?_getD, List.getElem?_set, if_neg e]
theorem RowM.lt {w : World} {g : Nat} {L : List Int} (h : RowM w g L) : g < w.heap.size := by
  obtain ⟨cs, t, lo, hi, hh, _⟩ := h
  exact (Array.getElem?_eq_some_iff.1 hh).1
theorem RowM.keep {S : Nat → Prop} {w w' : World} {g : Nat} {L : List Int} (h : RowM w g L) (k : Kp S w w') (hn : ¬ S g) : RowM w' g L := by
  have hlt := h.lt
  obtain ⟨cs, t, lo, hi, hh, r⟩ := h
  exact ⟨cs, t, lo, hi, (k.block g hlt hn).trans hh, r⟩
theorem RowM.keepN {w w' : World} {g : Nat} {L : List Int} (h : RowM w g L) (k : Kp no w w') : RowM w' g L := h.keep k (fun h => h)
theorem RowM.rd {w : World} {g c : Nat} {L : List Int} (h : RowM w g L) (hb : Byt L) (hc : L.length ≤ c) (hm : c ≤ 9223372036854775807) : Rd w (some ⟨g, 0, none⟩) L.length c L :=
  ⟨rfl, hc, hm, hb, fun _ => ⟨g, 0, rfl, fun j hj => by rw [Nat.zero_add]; exact h.cell j hj⟩⟩
/-- A text as bytes: a new row that may be turned. -/
theorem str_row {w : World} {l : List Int} (hb : Byt l) (hn : l.length ≤ 1099511627776) {t u : TypeId} (ht : Tryz.prog.underlying t = some .string) (hu : Tryz.prog.underlying u = some (.slice 5)) :
    ∃ c w2, (convert t u (.string (strOfNums l))).run Tryz.prog w = .ok (.slice (some ⟨w.heap.size, 0, none⟩) l.length c) w2 ∧ RowM w2 w.heap.size l ∧ Kp no w w2 ∧ l.length ≤ c ∧ c ≤ 9223372036854775807 := by
  have hs := strOfNums_size l
  have hr := run_bytes_of_string (P := Tryz.prog) w t u 5 (strOfNums l) ht hu Tryz.und_byte
  rw [hs] at hr
  have hge := grownCap_ge w l.length 0 5
  have hle := grownCap_le_maxLen w l.length 0 5 (by simp only [maxLen]; omega)
  generalize grownCap w l.length 0 5 = cap at *
  have hd : (strOfNums l).data.size = l.length := hs
  have hbs : l.length ≤ (bytesRow (strOfNums l) cap).size := by
    unfold bytesRow; simp; omega
  refine ⟨cap, _, hr, ⟨_, _, _, _, heap_alloc_new w.drew _, hbs, hbs, fun j hj => ?_⟩, ((Kp.refl _ _).drew).alloc _, hge, by simpa [maxLen] using hle⟩
  rw [bytesRow_at _ _ j (by omega)]
  have hx := hb l[j] (List.getElem_mem hj)
  have he : (strOfNums l).data[j]'(by omega) = UInt8.ofNat l[j].toNat := by
    have h1 := strOfNums_data l
    have h2 : (strOfNums l).data.toList[j]'(by simpa using (by omega : j < (strOfNums l).data.size)) = (l.map (fun n => UInt8.ofNat n.toNat))[j]'(by simpa using hj) := by simp [h1]
    simpa using h2
  rw [he, List.getD_eq_getElem?_getD, List.getElem?_eq_getElem hj]
  simp only [UInt8.toNat_ofNat', Option.getD_some, Option.some.injEq, Value.int.injEq, true_and]
  omega
/-- 'x[k:]' at an address. -/
theorem cut_at (g o r c k : Nat) (h : k ≤ r) (hc : r ≤ c) : ∃ A', (k < r → A' = some ⟨g, o + k, none⟩) ∧ ∀ W : World, (Instr.slice 23 (.slice (some ⟨g, o, none⟩) r c) (some (.int .i64 (k : Int))) none none).run Tryz.prog W = .ok (.slice A' (r - k) (c - k)) W := by
  obtain ⟨i, hi, hsz⟩ := Option.map_eq_some_iff.1 Tryz.size_byte
  refine ⟨if c = k then some ⟨g, o, none⟩ else some ((⟨g, o, none⟩ : Addr).add k), fun hlt => ?_, fun W => ?_⟩
  · rw [if_neg (by omega)]
    unfold Addr.add
    split <;> simp_all
  · have hel : Tryz.prog.elem 23 = 5 := by simp [Program.elem, Tryz.und_bytes]
    have hu : Tryz.prog.underlying 23 = some (.slice (Tryz.prog.elem 23)) := by rw [hel]; exact Tryz.und_bytes
    rw [run_slice_l W 23 (some ⟨g, o, none⟩) r c hu .i64 (k : Int) (by omega) (by omega), hel]
    simp [sizeOf, typeInfo, hi, hsz, sliced, Result.andThen]

/-- Letters that the table knows. -/
structure Let32 (T D LT : List Int) : Prop where
  len : LT.length = D.length
  at_ : ∀ i : Nat, i < D.length → ∃ b : Nat, (b : Int) = LT.getD i 0 ∧ b < 128 ∧ T.getD b 0 = D.getD i 0 ∧ 0 ≤ D.getD i 0 ∧ D.getD i 0 < 32 ∧ b ≠ 10 ∧ b ≠ 13
/-- The eight digits at hand, as far as j. -/
def Dq (D : List Int) (p j : Nat) : List Int := (D.drop p).take j ++ List.replicate (8 - j) 0
theorem Dq.len {D : List Int} {p j : Nat} (h : p + j ≤ D.length) (hj : j ≤ 8) : (Dq D p j).length = 8 := by
  simp [Dq]; omega
theorem Dq.set {D : List Int} {p j : Nat} (h : p + j < D.length) (hj : j < 8) : (Dq D p j).set j (D.getD (p + j) 0) = Dq D p (j + 1) := by
  unfold Dq
  rw [List.set_append_right _ _ (by simp; omega), List.take_succ_eq_append_getElem (by rw [List.length_drop]; omega), List.append_assoc]
  congr 1
  rw [show j - ((D.drop p).take j).length = 0 from by simp; omega, show 8 - j = (8 - (j + 1)) + 1 from by omega, List.replicate_succ, List.set_cons_zero]
  simp [List.getD_eq_getElem?_getD, List.getElem?_eq_getElem h]
theorem Dq.get {D : List Int} {p j i : Nat} (h : p + j ≤ D.length) (hi : i < j) : (Dq D p j).getD i 0 = D.getD (p + i) 0 := by
  unfold Dq
  rw [List.getD_eq_getElem?_getD, List.getElem?_append_left (by simp; omega), List.getElem?_take, if_pos hi, List.getElem?_drop, List.getD_eq_getElem?_getD]
/-- At the head of a quantum. -/
def St32 (n g c : Nat) (D LT : List Int) (d1 : Value) (A2 : Option Addr) (k c2 o : Nat) (L : List Int) : Prop :=
  (∃ q, k + 8 * q = n ∧ o = 5 * q ∧ Row32 D LT (5 * q) (8 * q) L ∧ k ≤ c2 ∧ (0 < k → A2 = some ⟨g, 8 * q, none⟩ ∧ d1 = .slice (some ⟨g, 5 * q, none⟩) (n - 5 * q) (c - 5 * q))) ∨
  (k = 0 ∧ o = (d32 D).length ∧ Row32 D LT o n L)

end Go.Proofs.YtflafpklphgbpaaGreatDoor
