/- Rows of numbers that are known whole; texts of ASCII letters as runes. -/
import Derived.Test.YthdbchahmbcfeaaDoorConv
import Derived.Laws.RangeString
import Derived.OwnWalk
import Derived.Laws.BitsAllLaws
namespace Go.Proofs.YthdbchahmbcfeaaDoor
open Go Go.RowKit
set_option linter.unusedVariables false
set_option linter.unusedSimpArgs false
set_option maxRecDepth 100000

/-- A row of numbers, known whole. -/
def Nw (K : IntKind) (w : World) (g : Nat) (t : TypeId) (L : List Int) : Prop := Blk w g (nums K L).toArray t
theorem Nw.cell {K : IntKind} {w : World} {g : Nat} {t : TypeId} {L : List Int} (h : Nw K w g t L) (i : Nat) (hi : i < L.length) : w.cell? ⟨g, i, none⟩ = some (.int K (L.getD i 0)) := by
  rw [Blk.cell h i]; simp [nums, List.getD_eq_getElem?_getD, List.getElem?_eq_getElem hi]
theorem Nw.free {K : IntKind} {w : World} {g : Nat} {t : TypeId} {L : List Int} (h : Nw K w g t L) (i : Nat) : w.frozen? ⟨g, i, none⟩ = false := Blk.free h i
theorem Nw.set {K : IntKind} {w : World} {g : Nat} {t : TypeId} {L : List Int} (h : Nw K w g t L) (i : Nat) (v : Int) : Nw K (w.setCell ⟨g, i, none⟩ (.int K v)) g t (L.set i v) := by
  have := Blk.set h i (.int K v)
  unfold Nw
  rw [show (nums K (L.set i v)).toArray = (nums K L).toArray.setIfInBounds i (.int K v) from by apply Array.toList_inj.1; simp [nums, List.map_set]]
  exact this
theorem Nw.setTo {K : IntKind} {w : World} {g : Nat} {t : TypeId} {L M : List Int} (h : Nw K w g t L) (i : Nat) {v u : Int} (e : v = u) (hM : L.set i u = M) : Nw K (w.setCell ⟨g, i, none⟩ (.int K v)) g t M := by
  subst e; subst hM; exact h.set i v
theorem Nw.keep {K : IntKind} {S : Nat → Prop} {w w' : World} {g : Nat} {t : TypeId} {L : List Int} (h : Nw K w g t L) (k : Kp S w w') (hn : ¬ S g) : Nw K w' g t L := Blk.keep h k hn
theorem Nw.keepN {K : IntKind} {w w' : World} {g : Nat} {t : TypeId} {L : List Int} (h : Nw K w g t L) (k : Kp no w w') : Nw K w' g t L := Blk.keepN h k
theorem Nw.far {K : IntKind} {w : World} {g : Nat} {t : TypeId} {L : List Int} (h : Nw K w g t L) {p : Addr} (hp : g ≠ p.block) (u : Value) : Nw K (w.setCell p u) g t L := Blk.far h hp u
theorem Nw.lt {K : IntKind} {w : World} {g : Nat} {t : TypeId} {L : List Int} (h : Nw K w g t L) : g < w.heap.size := Blk.lt h
theorem Nw.rd {w : World} {g : Nat} {t : TypeId} {L : List Int} {n : Nat} (h : Nw .u8 w g t L) (hn : L.length = n) (hb : Byt L) (hm : n ≤ 9223372036854775807) : Rd w (some ⟨g, 0, none⟩) n n L :=
  ⟨hn, Nat.le_refl _, hm, hb, fun _ => ⟨g, 0, rfl, fun j hj => by
    rw [Nat.zero_add]; exact h.cell j (by omega)⟩⟩
theorem ownsRow_blk {w : World} {g n B : Nat} {e : TypeId} {xs : List Value} (h : w.ownsRow B e 1 (.slice (some ⟨g, 0, none⟩) n n) n xs) : Blk w g xs.toArray e := by
  rcases h.2 with ⟨h, _⟩ | ⟨g', cap, cur, hv, _, hh, _, _, hs, ht⟩
  · cases h
  · injection hv with hv h1 h2
    injection hv with hv
    injection hv with hv
    subst hv h2
    have : cur.toList = xs := by rw [← ht, List.take_of_length_le (by simp; omega)]
    unfold Blk
    rw [hh, ← this]
theorem made_nums (K : IntKind) (m : Nat) : (madeCells (Value.int K 0).cells (m * 1)).toList = nums K (List.replicate m 0) := by
  simp only [madeCells, Value.cells, nums]
  apply List.ext_getElem
  · simp
  · intro i h1 h2
    simp [Nat.mod_one]
theorem Nw.made {K : IntKind} {w : World} {g n B : Nat} {e : TypeId} (h : w.ownsRow B e 1 (.slice (some ⟨g, 0, none⟩) n n) n (madeCells (Value.int K 0).cells (n * 1)).toList) : Nw K w g e (List.replicate n 0) := by
  rw [made_nums] at h
  exact ownsRow_blk h

/-! ### Runes -/
def Asc (T : List Int) : Prop := ∀ x ∈ T, 0 ≤ x ∧ x < 128
theorem Asc.byt {T : List Int} (h : Asc T) : Byt T := fun x hx => by have := h x hx; omega
theorem Asc.getD {T : List Int} (h : Asc T) (i : Nat) : 0 ≤ T.getD i 0 ∧ T.getD i 0 < 128 := by
  rw [List.getD_eq_getElem?_getD]
  by_cases hi : i < T.length
  · rw [List.getElem?_eq_getElem hi]; exact h _ (List.getElem_mem hi)
  · rw [List.getElem?_eq_none (by omega)]; simp
theorem Asc.app {a b : List Int} (h : Asc a) (k : Asc b) : Asc (a ++ b) := fun x hx => (List.mem_append.1 hx).elim (h x) (k x)
theorem str_at {T : List Int} (hT : Asc T) (i : Nat) (hi : i < (strOfNums T).size) : ((strOfNums T)[i]'hi).toNat = (T.getD i 0).toNat := by
  have hs := strOfNums_size T
  have hi2 : i < T.length := by omega
  have hx := hT.getD i
  have h2 : (strOfNums T).data.toList[i]'(by simpa using hi) = (T.map (fun n => UInt8.ofNat n.toNat))[i]'(by simpa using hi2) := by simp [strOfNums_data]
  have h3 : (strOfNums T)[i]'hi = UInt8.ofNat (T[i].toNat) := by
    have : (strOfNums T)[i]'hi = (strOfNums T).data.toList[i]'(by simpa using hi) := by simp; rfl
    rw [this, h2]; simp
  rw [h3]
  rw [List.getD_eq_getElem?_getD, List.getElem?_eq_getElem hi2] at hx ⊢
  simp only [UInt8.toNat_ofNat', Option.getD_some] at hx ⊢
  omega
theorem runes_asc {T : List Int} (hT : Asc T) : ∀ (b i : Nat) (acc : Array Value), i + b = T.length → Conv.runesFrom (strOfNums T) b i acc = acc ++ (nums .i32 (T.drop i)).toArray
  | 0, i, acc, h => by
    rw [List.drop_of_length_le (by omega)]; simp [Conv.runesFrom, nums]
  | b + 1, i, acc, h => by
    have hs := strOfNums_size T
    have hi : i < (strOfNums T).size := by omega
    have hx := hT.getD i
    have hat := str_at hT i hi
    unfold Conv.runesFrom
    rw [if_pos hi, decode_ascii _ _ hi (by omega)]
    simp only
    rw [runes_asc hT b (i + 1) _ (by omega), hat, List.drop_eq_getElem_cons (show i < T.length by omega)]
    have e : Int.ofNat (T.getD i 0).toNat = T[i] := by
      rw [show Int.ofNat (T.getD i 0).toNat = ((T.getD i 0).toNat : Int) from rfl, Int.toNat_of_nonneg hx.1]
      simp [List.getD_eq_getElem?_getD, List.getElem?_eq_getElem (show i < T.length by omega)]
    rw [e]
    generalize T.drop (i + 1) = Z
    simp [nums]
/-- A text of ASCII letters as runes: a new row. -/
theorem str_runes {w : World} {T : List Int} (hT : Asc T) (hn : T.length ≤ 1099511627776) {t u : TypeId} (ht : Tryd.prog.underlying t = some .string) (hu : Tryd.prog.underlying u = some (.slice 21)) (he : Tryd.prog.underlying 21 = some (.int .i32)) :
    ∃ c w2, (convert t u (.string (strOfNums T))).run Tryd.prog w = .ok (.slice (some ⟨w.heap.size, 0, none⟩) T.length c) w2 ∧ (∀ j : Nat, j < T.length → w2.cell? ⟨w.heap.size, j, none⟩ = some (.int .i32 (T.getD j 0))) ∧ Kp no w w2 ∧ w2.heap.size = w.heap.size + 1 ∧ T.length ≤ c := by
  have hs := strOfNums_size T
  have hrun := runes_asc hT T.length 0 #[] (by omega)
  rw [List.drop_zero, ← hs, Array.empty_append] at hrun
  have hsz : (nums .i32 T).toArray.size = T.length := by simp [nums]
  have hr := run_runes_of_string (P := Tryd.prog) w t u 21 (strOfNums T) ht hu he (by rw [hrun, hsz]; omega)
  rw [hrun, hsz] at hr
  have hge := grownCap_ge w T.length 0 21
  generalize grownCap w T.length 0 21 = cap at *
  refine ⟨cap, _, hr, fun j hj => ?_, ((Kp.refl _ _).drew).alloc _, by simp, hge⟩
  have hb := Blk.new w.drew ((nums .i32 T).toArray ++ Array.replicate (cap - T.length) (.int .i32 0)) 21
  have := hb.cell j
  rw [show w.drew.heap.size = w.heap.size from rfl] at this
  rw [this, Array.getElem?_append_left (by rw [hsz]; exact hj)]
  simp [nums, List.getD_eq_getElem?_getD, List.getElem?_eq_getElem hj]
theorem and_hi (k x y : Nat) (h : x < 2 ^ k) : x &&& (2 ^ k * y) = 0 := by
  apply Nat.eq_of_testBit_eq
  intro i
  rw [Nat.testBit_and, Nat.zero_testBit, Nat.testBit_two_pow_mul]
  by_cases hi : i < k
  · have : decide (i ≥ k) = false := by simp; omega
    simp [this]
  · rw [Nat.testBit_lt_two_pow (Nat.lt_of_lt_of_le h (Nat.pow_le_pow_right (by omega) (by omega)))]; simp
end Go.Proofs.YthdbchahmbcfeaaDoor
