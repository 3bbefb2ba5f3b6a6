/- strings.Builder as NewCidV1 uses it. -/
import Derived.Test.YtnbpliccenanpaaDoorAppend
import Derived.Test.YtnbpliccenanpaaDoorShelfC
namespace Go.Proofs.YtnbpliccenanpaaDoor
open Go Go.RowKit
set_option linter.unusedVariables false
set_option linter.unusedSimpArgs false
set_option maxRecDepth 100000

abbrev Fro (B : Nat) : Nat → Prop := fun k => B ≤ k
theorem Kp.fro {B : Nat} {w w' : World} (h : Below B w w') : Kp (Fro B) w w' := ⟨h.os, h.tape, h.output, h.size, fun k _ hn => h.block k (Nat.lt_of_not_le hn)⟩
/-- A builder of one's own that has been used, with its bytes. -/
structure BA (w : World) (B b : Nat) (l : List Int) : Prop where
  lo : B ≤ b
  ex : ∃ v, Blk w b #[.pointer (some ⟨b, 0, none⟩), v] 146 ∧ Own w 5 B v l ∧ v.ownBlock ≠ some b
theorem BA.of {w : World} {B b : Nat} {l : List Int} (h : Lib.BuilderAt 146 5 B b (.pointer (some ⟨b, 0, none⟩)) (nums .u8 l) w) (hb : Byt l) : BA w B b l := by
  obtain ⟨h1, v, h2, h3, h4⟩ := h
  exact ⟨h1, v, h2, ⟨by simpa [nums] using h3, hb⟩, h4⟩
theorem BA.at_ {w : World} {B b : Nat} {l : List Int} (h : BA w B b l) : Lib.BuilderAt 146 5 B b (.pointer (some ⟨b, 0, none⟩)) (nums .u8 l) w := by
  obtain ⟨v, h2, h3, h4⟩ := h.ex
  exact ⟨h.lo, v, h2, by have := h3.row; simpa [nums] using this, h4⟩
theorem BA.keepN {w w' : World} {B b : Nat} {l : List Int} (h : BA w B b l) (k : Kp no w w') : BA w' B b l := by
  obtain ⟨v, h2, h3, h4⟩ := h.ex
  exact ⟨h.lo, v, h2.keepN k, h3.keepN k, h4⟩
theorem copyCheck_calls {w : World} {B b : Nat} {l : List Int} (h : BA w B b l) :
    Calls Tryd.prog 117 #[.pointer (some ⟨b, 0, none⟩)] w fun e w' => e = .returned (.tuple #[]) ∧ w' = w := by
  obtain ⟨v, h2, _, _⟩ := h.ex
  have c0 : w.cell? ⟨b, 0, none⟩ = some (.pointer (some ⟨b, 0, none⟩)) := h2.cell 0
  have hne : (binOp .neq 144 (.pointer (some ⟨b, 0, none⟩)) (.pointer (some ⟨b, 0, none⟩))).run Tryd.prog w = .ok (.bool false) w := by
    obtain ⟨j, hj, _⟩ := Option.map_eq_some_iff.1 (show (Tryd.prog.info? 146).map (·.size) = some 2 by kernel_rfl)
    exact Lib.run_neq_ptr_same w _ Tryd.underlying144 hj
  clear h h2
  go_enter Tryd.func117, Tryd.ntmps117
  go_wp2
  go_end0
  exact ⟨rfl, rfl⟩
/-- A store of the new row. -/
theorem BA.put {w w1 : World} {B b : Nat} {v v1 : Value} {l' : List Int} (h : Blk w b #[.pointer (some ⟨b, 0, none⟩), v] 146) (hlo : B ≤ b) (hv : v.ownBlock ≠ some b) (k : Kp (Of v) w w1) (hw : Went w v v1) (ho : Own w1 5 B v1 l') :
    BA (w1.setCell ⟨b, 1, none⟩ v1) B b l' := by
  have hb : Blk w1 b #[.pointer (some ⟨b, 0, none⟩), v] 146 := h.keep k (fun hh => hv hh)
  have hn : v1.ownBlock ≠ some b := fun hh => by
    rcases hw with hw | ⟨c, hw, hc⟩
    · exact hv (hw ▸ hh)
    · rw [hw] at hh; injection hh with hh; have := h.lt; omega
  have h1 := hb.set 1 v1
  refine ⟨hlo, v1, by simpa using h1, ho.keep (S := fun k => k = b) ((Kp.refl (fun k => k = b) w1).setCell (p := ⟨b, 1, none⟩) (fun _ => rfl) v1) (fun c hc hh => hn (by rw [hc]; exact congrArg some hh)), hn⟩
theorem Kp.put {w w1 : World} {B b : Nat} {v v1 : Value} {l : List Int} (ho : Own w 5 B v l) (k : Kp (Of v) w w1) (hlo : B ≤ b) : Kp (Fro B) w (w1.setCell ⟨b, 1, none⟩ v1) :=
  (k.mono (S' := Fro B) fun i _ h => (ho.base i h).1).setCell (p := ⟨b, 1, none⟩) (fun _ => hlo) _
theorem BWrite_calls {w : World} {B b : Nat} {l ys : List Int} {A : Option Addr} {n c : Nat} (h : BA w B b l) (hr : Rd w A n c ys) (hB : B ≤ w.heap.size) (hl : l.length + n ≤ 140737488355328) :
    Calls Tryd.prog 97 #[.pointer (some ⟨b, 0, none⟩), .slice A n c] w fun e w' => e = .returned (.tuple #[.int .i64 n, Value.nilIface]) ∧ BA w' B b (l ++ ys) ∧ Kp (Fro B) w w' := by
  have D := Lib.hid (copyCheck_calls h)
  obtain ⟨v, h2, h3, h4⟩ := h.ex
  have c1 : w.cell? ⟨b, 1, none⟩ = some v := h2.cell 1
  have hlo := h.lo
  have hn := hr.cap
  have hx := hr.max
  have H2 := Lib.hid h2
  have H3 := Lib.hid h3
  have HR := Lib.hid hr
  clear h h2 h3 hr
  obtain ⟨Z, hZ⟩ : ∃ Z, Z = l ++ ys := ⟨_, rfl⟩
  rw [← hZ]
  go_enter Tryd.func97, Tryd.ntmps97
  go_wp2_with (first
    | (go_at_call 117; refine D.out.mono ?_; rintro e w9 ⟨rfl, rfl⟩)
    | (at_builtin; refine own_append B rfl (.tmp 12) (.tmp 13) 22 5 rfl Tryd.und_bytes Tryd.info_byte v l ys A n c rfl rfl H3.out HR.out hB (by omega) ?_; intro v1 w1 O1 k1 hw1 _; rw [← hZ] at O1; obtain ⟨A9, c9, hv9, _⟩ := O1.rd; generalize Z.length = zl at hv9; subst hv9; have c1' : w1.cell? ⟨b, 1, none⟩ = some v := (H2.out.keep k1 (fun hh => h4 hh)).cell 1; have f1' := (H2.out.keep k1 (fun hh => h4 hh)).free 1))
  go_ret2
  exact ⟨rfl, BA.put H2.out hlo h4 k1 hw1 O1, Kp.put H3.out k1 hlo⟩
theorem BWriteByte_calls {w : World} {B b : Nat} {l : List Int} {x : Int} (h : BA w B b l) (hx : 0 ≤ x ∧ x < 256) (hB : B ≤ w.heap.size) (hl : l.length + 1 ≤ 140737488355328) :
    Calls Tryd.prog 95 #[.pointer (some ⟨b, 0, none⟩), .int .u8 x] w fun e w' => e = .returned Value.nilIface ∧ BA w' B b (l ++ [x]) ∧ Kp (Fro B) w w' := by
  have D := Lib.hid (copyCheck_calls h)
  obtain ⟨v, h2, h3, h4⟩ := h.ex
  have hlo := h.lo
  have hb1 : Byt [x] := fun y hy => by simp at hy; omega
  have ka : Kp no w (w.alloc (.cells #[.int .u8 x] 5)) := (Kp.refl _ _).alloc _
  have HR := Lib.hid (show Rd (w.alloc (.cells #[.int .u8 x] 5)) (some ⟨w.heap.size, 0, none⟩) 1 1 [x] from Rd.lit w 5 [x] hb1 (by simp))
  have H2 := Lib.hid (h2.keepN ka)
  have H3 := Lib.hid (h3.keepN ka)
  have c1 : w.cell? ⟨b, 1, none⟩ = some v := h2.cell 1
  clear h h2 h3
  obtain ⟨Z, hZ⟩ : ∃ Z, Z = l ++ [x] := ⟨_, rfl⟩
  rw [← hZ]
  go_enter Tryd.func95, Tryd.ntmps95
  go_wp2_with (first
    | (go_at_call 117; refine D.out.mono ?_; rintro e w9 ⟨rfl, rfl⟩)
    | (at_builtin; refine own_append B rfl (.tmp 11) (.tmp 13) 22 5 rfl Tryd.und_bytes Tryd.info_byte v l [x] (some ⟨w9.heap.size, 0, none⟩) 1 1 rfl rfl H3.out HR.out (by simp; omega) (by omega) ?_; intro v1 w1 O1 k1 hw1 _; rw [← hZ] at O1; obtain ⟨A9, c9, hv9, _⟩ := O1.rd; generalize Z.length = zl at hv9; subst hv9; have c1' : w1.cell? ⟨b, 1, none⟩ = some v := (H2.out.keep k1 (fun hh => h4 hh)).cell 1; have f1' := (H2.out.keep k1 (fun hh => h4 hh)).free 1))
  go_ret
  exact ⟨rfl, BA.put H2.out hlo h4 k1 hw1 O1, (ka.mono fun _ _ h => h.elim).trans (Kp.put H3.out k1 hlo) (fun _ _ h => h)⟩
end Go.Proofs.YtnbpliccenanpaaDoor
