/- bytes.Equal; impl.present; bytes as texts. -/
import Derived.Test.YthdbchahmbcfeaaDoorAppend
import Derived.Lib.Strings
namespace Go.Proofs.YthdbchahmbcfeaaDoor
open Go Go.RowKit
set_option linter.unusedVariables false
set_option linter.unusedSimpArgs false
set_option maxRecDepth 100000

theorem Tryd.und_string : Tryd.prog.underlying 9 = some .string := by kernel_rfl

theorem strOfNums_inj {a b : List Int} (ha : Byt a) (hb : Byt b) (h : strOfNums a = strOfNums b) : a = b := by
  have h1 : (strOfNums a).data.toList = (strOfNums b).data.toList := by rw [h]
  rw [strOfNums_data, strOfNums_data] at h1
  have key : ∀ (a b : List Int), Byt a → Byt b → a.map (fun n => UInt8.ofNat n.toNat) = b.map (fun n => UInt8.ofNat n.toNat) → a = b := by
    intro a
    induction a with
    | nil => intro b _ _ h; cases b with | nil => rfl | cons => simp at h
    | cons x a ih =>
      intro b ha hb h
      cases b with
      | nil => simp at h
      | cons y b =>
        simp only [List.map_cons, List.cons.injEq] at h
        have hx := ha x (by simp)
        have hy := hb y (by simp)
        have hxy : x = y := by
          have h2 := congrArg UInt8.toNat h.1
          simp only [UInt8.toNat_ofNat'] at h2
          omega
        rw [hxy, ih b (fun z hz => ha z (by simp [hz])) (fun z hz => hb z (by simp [hz])) h.2]
  exact key a b ha hb h1
theorem strOfNums_beq {a b : List Int} (ha : Byt a) (hb : Byt b) : ((strOfNums a).toList == (strOfNums b).toList) = decide (a = b) := by
  by_cases h : a = b
  · subst h; simp
  · have : ¬ (strOfNums a).toList = (strOfNums b).toList := fun h1 => h (strOfNums_inj ha hb (by
      rw [Lib.toList_data, Lib.toList_data] at h1
      have h2 : (strOfNums a).data = (strOfNums b).data := Array.toList_inj.1 h1
      exact congrArg ByteArray.mk h2))
    simp [h, this]

theorem Rd.str {w : World} {A : Option Addr} {n c : Nat} {l : List Int} (h : Rd w A n c l) :
    (convert 22 9 (.slice A n c)).run Tryd.prog w = .ok (.string (strOfNums l)) w := by
  have hl := h.len
  rcases Nat.eq_zero_or_pos n with h0 | h0
  · subst h0
    obtain rfl : l = [] := List.eq_nil_of_length_eq_zero hl
    cases A with
    | none => exact run_convert_bytes_nil w _ _ Tryd.und_bytes Tryd.und_byte 0 c _ Tryd.und_string
    | some ad =>
      have hz : (loadCells ad 0).run Tryd.prog w = .ok (([] : List Int).map (Value.int .u8)).toArray w := by simp [loadCells, loadCellsFrom]
      rw [run_convert_bytes_string w 22 9 5 _ 0 c Tryd.und_bytes Tryd.und_byte Tryd.und_string, run_bytesToString w ad 0 c [] hz, foldl_push_bytes]
      rfl
  · obtain ⟨g, o, rfl, hc⟩ := h.at_ h0
    exact run_convert_bytes_arg w _ _ Tryd.und_bytes Tryd.und_byte g o n c l hl hc _ Tryd.und_string

theorem Equal_any {w : World} {A A' : Option Addr} {n c n' c' : Nat} {l l' : List Int} (h : Rd w A n c l) (h' : Rd w A' n' c' l') :
    Calls Tryd.prog 11 #[.slice A n c, .slice A' n' c'] w fun e w' => e = .returned (.bool (decide (l = l'))) ∧ w = w' := by
  have c1 := h.str
  have c2 := h'.str
  have c3 := strOfNums_beq h.byt h'.byt
  go_enter Tryd.func11, Tryd.ntmps11
  go_wp2
  go_ret
  exact ⟨rfl, rfl⟩
theorem Equal_same {w : World} {A A' : Option Addr} {n c n' c' : Nat} {l : List Int} (h : Rd w A n c l) (h' : Rd w A' n' c' l) :
    Calls Tryd.prog 11 #[.slice A n c, .slice A' n' c'] w fun e w' => e = .returned (.bool true) ∧ w = w' :=
  (Equal_any h h').mono fun e w' he => by simpa using he
theorem Equal_not {w : World} {A A' : Option Addr} {n c n' c' : Nat} {l l' : List Int} (h : Rd w A n c l) (h' : Rd w A' n' c' l') (hne : l ≠ l') :
    Calls Tryd.prog 11 #[.slice A n c, .slice A' n' c'] w fun e w' => e = .returned (.bool false) ∧ w = w' :=
  (Equal_any h h').mono fun e w' he => by simpa [hne] using he

end Go.Proofs.YthdbchahmbcfeaaDoor
