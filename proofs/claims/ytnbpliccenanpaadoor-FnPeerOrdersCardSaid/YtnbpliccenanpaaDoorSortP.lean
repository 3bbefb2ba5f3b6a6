/- The order of texts, plain; what a sort leaves. -/
import Derived.Test.YtnbpliccenanpaaDoorVOwn
import Derived.Shelf.GgSortMore.SortSort
import Derived.Sort.LotA
import Derived.Sort.Walk0
import Derived.Lib.Bytealg
namespace Go.Proofs.YtnbpliccenanpaaDoor
open Go Go.RowKit Go.Sort
set_option linter.unusedVariables false
set_option linter.unusedSimpArgs false
set_option maxRecDepth 100000

def by8 (l : List Int) : List UInt8 := l.map fun n => UInt8.ofNat n.toNat
def un8 (b : List UInt8) : List Int := b.map fun u => (u.toNat : Int)
theorem un8_byt (b : List UInt8) : Byt (un8 b) := by
  intro x hx
  obtain ⟨u, _, rfl⟩ := List.mem_map.1 hx
  have := u.toNat_lt
  omega
theorem by8_un8 (b : List UInt8) : by8 (un8 b) = b := by
  simp only [by8, un8, List.map_map]
  conv => rhs; rw [← List.map_id b]
  apply List.map_congr_left
  intro u _
  simp
theorem un8_by8 {l : List Int} (h : Byt l) : un8 (by8 l) = l := by
  simp only [by8, un8, List.map_map]
  conv => rhs; rw [← List.map_id l]
  apply List.map_congr_left
  intro x hx
  have := h x hx
  simp only [Function.comp, UInt8.toNat_ofNat', id]
  omega
theorem str_toList (l : List Int) : (strOfNums l).toList = by8 l := by rw [Lib.toList_data, strOfNums_data]; rfl
theorem by8_inj {a b : List Int} (ha : Byt a) (hb : Byt b) (h : by8 a = by8 b) : a = b := by rw [← un8_by8 ha, ← un8_by8 hb, h]
/-- Bytes in order. -/
abbrev leB (x y : List UInt8) : Bool := !ltStr y x
theorem anti_ltStr (x y : List UInt8) (h1 : ltStr x y = false) (h2 : ltStr y x = false) : x = y := by
  simp only [ltStr, decide_eq_false_iff_not] at h1 h2
  exact List.le_antisymm (List.not_lt.1 h2) (List.not_lt.1 h1)
theorem sorted_is {L M : List (List UInt8)} (hp : M.Perm L) (hs : M.Pairwise fun x y => leB x y = true) : M = L.mergeSort leB := by
  refine List.Perm.eq_of_pairwise (le := fun x y => leB x y = true) ?_ hs ?_ (hp.trans (List.mergeSort_perm _ _).symm)
  · intro a b _ _ h1 h2
    simp only [leB, Bool.not_eq_true'] at h1 h2
    exact anti_ltStr a b h2 h1
  · refine List.pairwise_mergeSort ?_ ?_ _
    · intro a b c h1 h2
      simp only [leB, Bool.not_eq_true'] at h1 h2 ⊢
      exact swo_ltStr.ntrans c b a h2 h1
    · intro a b
      cases h : ltStr b a with
      | false => simp [leB, h]
      | true => simp [leB, h, swo_ltStr.asymm h]
/-- A list of bytes, sorted. -/
def sortB (L : List (List Int)) : List (List Int) := ((L.map by8).mergeSort leB).map un8
theorem sortB_length (L : List (List Int)) : (sortB L).length = L.length := by simp [sortB]
theorem permIn_toList {α : Type} [Inhabited α] {d d' : Array α} (h : PermIn 0 d.size d d') : d'.size = d.size ∧ d'.toList.Perm d.toList := by
  obtain ⟨hsz, _, hperm⟩ := h
  have e1 : d'.extract 0 d.size = d' := by rw [← hsz]; exact Array.extract_size
  rw [e1, Array.extract_size] at hperm
  exact ⟨hsz, hperm⟩
theorem sortedIn_pairwise {α : Type} [Inhabited α] {lt : α → α → Bool} {d : Array α} (h : SortedIn lt 0 d.size d) : d.toList.Pairwise fun x y => lt y x = false := by
  rw [List.pairwise_iff_getElem]
  intro i j hi hj hij
  have hi' : i < d.size := by simpa using hi
  have hj' : j < d.size := by simpa using hj
  have := h i j (Nat.zero_le _) hij hj'
  rw [getElem!_pos d j hj', getElem!_pos d i hi'] at this
  simpa using this
theorem ltStr_less (x y : List UInt8) : Op.bytesLess x y = ltStr x y := by rw [bytesLess_eq]; rfl
open Lib in
theorem compare_lt : ∀ (a b : List UInt8), (compareBytes a b < 0 ↔ a < b) ∧ (0 < compareBytes a b ↔ b < a)
  | [], [] => by simp [compareBytes]
  | [], _ :: _ => by simp [compareBytes]
  | _ :: _, [] => by simp [compareBytes]
  | x :: a, y :: b => by
    have ih := compare_lt a b
    unfold compareBytes
    simp only [List.cons_lt_cons_iff]
    by_cases h1 : x < y
    · have h2 : ¬ y < x := UInt8.lt_asymm h1
      have h3 : ¬ y = x := fun e => by subst e; exact h2 h1
      simp [h1, h2, h3]
    · by_cases h2 : y < x
      · have h3 : ¬ x = y := fun e => by subst e; exact h1 h2
        simp [h1, h2, h3]
      · have h3 : x = y := UInt8.le_antisymm (UInt8.not_lt.1 h2) (UInt8.not_lt.1 h1)
        subst h3
        simpa [h1] using ih
theorem compare_ltStr (a b : List UInt8) : decide (Lib.compareBytes a b < 0) = ltStr a b := by
  simp only [ltStr]
  exact decide_eq_decide.2 (compare_lt a b).1

/-! ### A sort's world -/
theorem Kp.sortW {α : Type} [Inhabited α] (enc : α → Value) (w : World) (g m : Nat) (d : Array α) (os : Array Obj) : Kp (· = g) w (sortWorld enc w g 0 m d os) := by
  refine ⟨rfl, rfl, rfl, by simp [sortWorld], fun k hk hn => ?_⟩
  have hn : ¬ k = g := hn
  have hs : k < (putRow enc (Sort.ahead w m) g 0 d).heap.size := by simpa using hk
  show ((putRow enc (Sort.ahead w m) g 0 d).heap ++ os)[k]? = _
  rw [Array.getElem?_append_left hs]
  show (w.heap.modify g _)[k]? = _
  rw [Array.getElem?_modify, if_neg (fun e => hn e.symm)]
theorem VOwn.holds {α : Type} [Inhabited α] {w : World} {e : TypeId} {B g n c : Nat} (enc : α → Value) {L : List α} (h : VOwn w e B (.slice (some ⟨g, 0, none⟩) n c) (L.map enc)) : Holds enc w g 0 L.toArray := by
  rcases h.row.2 with ⟨hv, _⟩ | ⟨g', cap, cur, hv, hb, hh, hnc, hcm, hsz, ht⟩
  · cases hv
  · injection hv with h1 h2 h3
    injection h1 with h1
    injection h1 with h1
    subst h1
    intro j hj
    have hj' : j < L.length := by simpa using hj
    rw [Nat.zero_add]
    refine ⟨?_, by simp [World.frozen?, hh]⟩
    rw [cell_of_row w g _ cur e (0, 0) hh]
    have h2 : (L.map enc)[j]? = cur.toList[j]? := by rw [← ht, List.getElem?_take, if_pos (by simp; omega)]
    rw [getElem!_pos L.toArray j hj]
    simpa [List.getElem?_eq_getElem hj'] using h2.symm
theorem VOwn.sorted {α : Type} [Inhabited α] {w : World} {e : TypeId} {B g n c : Nat} (enc : α → Value) {L : List α} (h : VOwn w e B (.slice (some ⟨g, 0, none⟩) n c) (L.map enc)) (m : Nat) (d : Array α) (os : Array Obj) (hd : d.size = L.length) :
    VOwn (sortWorld enc w g 0 m d os) e B (.slice (some ⟨g, 0, none⟩) n c) (d.toList.map enc) := by
  rcases h.row.2 with ⟨hv, _⟩ | ⟨g', cap, cur, hv, hb, hh, hnc, hcm, hsz, ht⟩
  · cases hv
  · injection hv with h1 h2 h3
    injection h1 with h1
    injection h1 with h1
    subst h1
    have hl : (L.map enc).length = L.length := by simp
    have hl2 : (d.toList.map enc).length = L.length := by simp [hd]
    rw [hl] at hnc ht h2
    have hlt := (Array.getElem?_eq_some_iff.1 hh).1
    have hsz2 : (putCells enc 0 d cur).size = cur.size := by simp [putCells]
    refine ⟨⟨by simp, .inr ⟨g, cap, putCells enc 0 d cur, by rw [hl2, h2, h3], hb, ?_, by rw [hl2]; exact hnc, hcm, by rw [hsz2]; exact hsz, ?_⟩⟩⟩
    · show ((putRow enc (Sort.ahead w m) g 0 d).heap ++ os)[g]? = _
      rw [Array.getElem?_append_left (by simpa using hlt)]
      show (w.heap.modify g (onCells (putCells enc 0 d)))[g]? = _
      rw [Array.getElem?_modify, if_pos rfl, hh]
      rfl
    · rw [hl2]
      apply List.ext_getElem?
      intro j
      rw [List.getElem?_take]
      by_cases hj : j < L.length
      · have hjc : j < cur.size := by
          have := congrArg List.length ht
          simp at this
          omega
        rw [if_pos (by omega)]
        have hj2 : j < d.size := by omega
        simp [putCells, hjc, hj2, getElem!_pos d j hj2, Array.getElem?_eq_getElem hjc, List.getElem?_eq_getElem (show j < d.toList.length by simpa using hj2)]
      · rw [if_neg (by omega), List.getElem?_eq_none (by simp; omega)]
end Go.Proofs.YtnbpliccenanpaaDoor
