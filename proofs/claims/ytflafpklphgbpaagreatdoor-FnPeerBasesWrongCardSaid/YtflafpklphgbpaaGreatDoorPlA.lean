/- The errors that package-level variables hold; ParseError. append onto bytes of one's own; new blocks; bytes.Clone and its kin. bytes.Equal; impl.present; bytes as texts. Bytes as texts and texts as bytes, of whatever named types. Rows of numbers that are known whole; texts of ASCII letters as runes. -/
import Derived.Test.YtflafpklphgbpaaGreatDoorBase
import Derived.Test.YtflafpklphgbpaaGreatDoorProg
import Derived.IntWalk
import Derived.Lib.Strings
import Derived.Laws.IdiomStrings
import Derived.Laws.AppendOwn
import Derived.Laws.RangeString
import Derived.OwnWalk
import Derived.Laws.BitsAllLaws
namespace Go.Proofs.YtflafpklphgbpaaGreatDoor
open Go Go.RowKit
set_option linter.unusedVariables false
set_option linter.unusedSimpArgs false
set_option maxRecDepth 100000

theorem Tryz.und_bytes : Tryz.prog.underlying 23 = some (.slice 5) := by kernel_rfl
theorem Tryz.und_byte : Tryz.prog.underlying 5 = some (.int .u8) := by kernel_rfl
theorem Tryz.size_byte : (Tryz.prog.info? 5).map (fun i => i.size) = some 1 := by kernel_rfl
/-- Variable g holds an error. -/
def IsErr (w : World) (g : Nat) : Prop := ∃ t v, w.cell? ⟨g, 0, none⟩ = some (.iface t v)
theorem IsErr.keep {S : Nat → Prop} {w w' : World} {g : Nat} (h : IsErr w g) (k : Kp S w w') (hn : ¬ S g) : IsErr w' g := by
  obtain ⟨t, v, hc⟩ := h
  exact ⟨t, v, k.cell hc hn⟩
theorem IsErr.keepN {w w' : World} {g : Nat} (h : IsErr w g) (k : Kp no w w') : IsErr w' g := h.keep k (fun h => h)
/-- A value that is an error. -/
def Bad (e : Ending) : Prop := ∃ t v, e = .returned (.iface t v)

end Go.Proofs.YtflafpklphgbpaaGreatDoor
namespace Go.Proofs.YtflafpklphgbpaaGreatDoor
open Go Go.RowKit
set_option linter.unusedVariables false
set_option linter.unusedSimpArgs false
set_option maxRecDepth 100000

theorem Own.lit (W : World) (e : TypeId) (B : Nat) (l : List Int) (hb : B ≤ W.heap.size) (hl : Byt l) (hm : l.length ≤ 9223372036854775807) :
    Own (W.alloc (.cells (nums .u8 l).toArray e)) e B (.slice (some ⟨W.heap.size, 0, none⟩) l.length l.length) l :=
  ⟨by
    have h := World.ownsRow_lit (base := B) (e := e) (size := 1) W (nums .u8 l).toArray l.length hb (by simpa [maxLen] using hm) (by simp [nums])
    simpa using h, hl⟩
theorem Rd.lit (W : World) (e : TypeId) (l : List Int) (hl : Byt l) (hm : l.length ≤ 9223372036854775807) :
    Rd (W.alloc (.cells (nums .u8 l).toArray e)) (some ⟨W.heap.size, 0, none⟩) l.length l.length l := by
  refine ⟨rfl, Nat.le_refl _, hm, hl, fun _ => ⟨W.heap.size, 0, rfl, fun j hj => ?_⟩⟩
  rw [Nat.zero_add, (Blk.new W (nums .u8 l).toArray e).cell j]
  simp [nums, List.getD_eq_getElem?_getD, List.getElem?_eq_getElem hj]

theorem Rd.plus {w : World} {g o n c : Nat} {l : List Int} (h : Rd w (some ⟨g, o, none⟩) n c l) (j : Nat) (hj : j < n) : w.cell? ((⟨g, o, none⟩ : Addr).add j) = some (.int .u8 (l.getD j 0)) := by
  obtain ⟨g', o', e, hc⟩ := h.at_ (by omega)
  cases e
  have ha : (⟨g, o, none⟩ : Addr).add j = ⟨g, o + j, none⟩ := by unfold Addr.add; split <;> simp_all
  rw [ha]
  exact hc j hj

/-- Where the row goes: it stays, or is a new block. -/
def Went (w : World) (v v1 : Value) : Prop := v1.ownBlock = v.ownBlock ∨ ∃ b, v1.ownBlock = some b ∧ w.heap.size ≤ b
/-- What an append onto v may have turned. -/
abbrev Of (v : Value) : Nat → Prop := fun k => v.ownBlock = some k
theorem Kp.own {S : Nat → Prop} {w0 w w' : World} {e : TypeId} {B : Nat} {v : Value} {l : List Int} (h : Kp S w0 w) (ho : Own w e B v l) (hb : w0.heap.size ≤ B) (k : Kp (Of v) w w') : Kp S w0 w' :=
  h.trans k fun i hi hv => absurd (ho.base i hv).1 (by omega)
theorem Went.trans {w w1 : World} {v v1 v2 : Value} (h : Went w v v1) (k : Went w1 v1 v2) (hs : w.heap.size ≤ w1.heap.size) : Went w v v2 := by
  rcases k with k | ⟨b, k, hb⟩
  · rcases h with h | ⟨b, h, hb⟩
    · exact .inl (k.trans h)
    · exact .inr ⟨b, k.trans h, hb⟩
  · exact .inr ⟨b, k, by omega⟩
/-- Two appends in a row. -/
theorem Kp.grew {w w1 w2 : World} {v v1 : Value} (h : Kp (Of v) w w1) (hw : Went w v v1) (k : Kp (Of v1) w1 w2) : Kp (Of v) w w2 :=
  h.trans k fun i hi hv => by
    have hv' : v1.ownBlock = some i := hv
    show v.ownBlock = some i
    rcases hw with hw | ⟨b, hw, hb⟩
    · rw [← hw]; exact hv'
    · rw [hw] at hv'; injection hv' with hv'; omega
theorem Out.went {S : Nat → Prop} {w : World} {v v1 : Value} (h : ∀ b, v.ownBlock = some b → ¬ S b) (hw : Went w v v1) (hS : ∀ k, S k → k < w.heap.size) : ∀ b, v1.ownBlock = some b → ¬ S b := by
  intro b hb
  rcases hw with hw | ⟨b', hw, hb'⟩
  · exact h b (hw ▸ hb)
  · rw [hw] at hb; injection hb with hb
    exact fun hs => by have := hS b hs; omega

section
variable {P : Program} {ops : Array Oper} {rest : List Oper} {o : Oper} {a : Act} {Q : Exit → Act → World → Prop}
theorem run_own_append {W : World} (B : Nat) (t e ty : TypeId)
    (ht : P.underlying t = some (.slice e)) (hinfo : (P.info? e).map (fun i => (i.zero, i.size, i.bytes)) = some (some (.int .u8 0), 1, 1))
    (v : Value) (l ys : List Int) (A : Option Addr) (m c : Nat)
    (HO : Own W e B v l) (HR : Rd W A m c ys) (hB : B ≤ W.heap.size) (hl : l.length + m ≤ 140737488355328) :
    ∃ v1 w1, (Builtin.append_ #[t, t] ty #[v, .slice A m c]).run P W = .ok v1 w1 ∧ Own w1 e B v1 (l ++ ys) ∧ W.grownBy w1 v.ownBlock ∧ Went W v v1 ∧ (v ≠ .slice none 0 0 → v1 ≠ .slice none 0 0) := by
  obtain ⟨i0, hi, hzz⟩ := Option.map_eq_some_iff.1 hinfo
  simp only [Prod.mk.injEq] at hzz
  obtain ⟨hz0, hz1, hz2⟩ := hzz
  have hm : ys.length = m := HR.len
  rcases A with _ | ⟨g, o, s⟩
  · have h0 : m = 0 := by
      rcases Nat.eq_zero_or_pos m with h0 | h0
      · exact h0
      · obtain ⟨g, o, h, _⟩ := HR.at_ h0
        cases h
    subst h0
    obtain rfl : ys = [] := List.eq_nil_of_length_eq_zero hm
    refine ⟨v, W, ?_, by simpa using HO, World.grownBy.refl W _, .inl rfl, fun h => h⟩
    rcases HO.row.2 with ⟨rfl, hn⟩ | ⟨g, cap, cur, rfl, _, _, hnc, _⟩
    · simp [Builtin.append_, run_underlying ht, sizeOf, typeInfo, hi, Builtin.lenOf, Builtin.firstCells]
    · simp [Builtin.append_, run_underlying ht, sizeOf, typeInfo, hi, Builtin.lenOf, Builtin.firstCells, hnc, storeCells]
  · have hcells : ∀ j u, (nums .u8 ys)[j]? = some u → W.cell? ((⟨g, o, s⟩ : Addr).add j) = some u := by
      intro j u hu
      have hj : j < ys.length := by
        rcases Nat.lt_or_ge j ys.length with h | h
        · exact h
        · simp [nums, List.getElem?_eq_none h] at hu
      obtain ⟨g', o', he, _⟩ := HR.at_ (by omega)
      cases he
      have := HR.plus j (by omega)
      rw [this]
      simp [nums, List.getElem?_eq_getElem hj] at hu
      subst hu
      simp [List.getD_eq_getElem?_getD, List.getElem?_eq_getElem hj]
    obtain ⟨v1, w1, hr, h2, h3, h4, h5⟩ := run_append_own_at (P := P) W B t ty e i0 (.int .u8 0) 1 1 ht hi hz0 hz1 hz2 rfl (by omega) v l.length (nums .u8 l) HO.row ⟨g, o, s⟩ m c (nums .u8 ys) (by simp [nums, hm]) hcells
      (by intro u hu; simp only [nums, List.mem_map] at hu; obtain ⟨q, _, rfl⟩ := hu; rfl) (by simp only [maxLen]; omega) (by omega) hB
    exact ⟨v1, w1, hr, ⟨by simpa [nums, hm] using h2, HO.byt.app HR.byt⟩, h3, h5.imp_right fun h => ⟨_, h, Nat.le_refl _⟩, fun hv h => hv (h4.1 h).1⟩

/-- 'append(v, ys...)', behind 'at_builtin'. -/
theorem own_append {W : World} (B : Nat) (hgd : o.guard = none) (s x : Operand) (t e : TypeId)
    (ho : o.op = .call { callee := .builtin .append, args := #[s, x], argTypes := #[t, t] })
    (ht : P.underlying t = some (.slice e)) (hinfo : (P.info? e).map (fun i => (i.zero, i.size, i.bytes)) = some (some (.int .u8 0), 1, 1))
    (v : Value) (l ys : List Int) (A : Option Addr) (m c : Nat) (hs : a.eval s = v) (hx : a.eval x = .slice A m c)
    (HO : Own W e B v l) (HR : Rd W A m c ys) (hB : B ≤ W.heap.size) (hl : l.length + m ≤ 140737488355328)
    (h : ∀ v1 w1, Own w1 e B v1 (l ++ ys) → Kp (Of v) W w1 → Went W v v1 → (v ≠ .slice none 0 0 → v1 ≠ .slice none 0 0) → wpList P ops Q rest (a.put o.dst v1) w1) :
    wpList P ops Q (o :: rest) a W := by
  obtain ⟨v1, w1, hr, hown, hg, hat, hnn⟩ := run_own_append (P := P) B t e o.type ht hinfo v l ys A m c HO HR hB hl
  refine wpList_plain hgd fun K hK => ?_
  unfold Oper.wp execOp
  simp only [ho, resolve, invoke, builtin, Sem.run_bind, Sem.run_pure, Result.andThen_ok, List.map_toArray, List.map_cons, List.map_nil, hs, hx, hr]
  exact hK _ _ (h v1 w1 hown ((Kp.refl _ _).grown hg fun k hk _ => hk) hat hnn)
end

theorem Tryz.info_byte : (Tryz.prog.info? 5).map (fun i => (i.zero, i.size, i.bytes)) = some (some (.int .u8 0), 1, 1) := by kernel_rfl

/-- The result of a call that makes bytes. -/
structure MadeAt (w w' : World) (A : Option Addr) (c : Nat) (l : List Int) : Prop where
  own : Own w' 5 w.heap.size (.slice A l.length c) l
  rd : Rd w' A l.length c l
  kp : Kp no w w'
def Made (w : World) (l : List Int) (e : Ending) (w' : World) : Prop := ∃ A c, e = .returned (.slice A l.length c) ∧ MadeAt w w' A c l
theorem Made.of {w w' : World} {l : List Int} {v : Value} (h : Own w' 5 w.heap.size v l) (hk : Kp no w w') : Made w l (.returned v) w' := by
  obtain ⟨A, c, rfl, hr, _⟩ := h.rd
  exact ⟨A, c, rfl, h, hr, hk⟩
/-- Bytes that are made, and are not nil. -/
def MadeN (w : World) (l : List Int) (e : Ending) (w' : World) : Prop := ∃ ad c, e = .returned (.slice (some ad) l.length c) ∧ MadeAt w w' (some ad) c l
theorem Own.nil_of {w : World} {e : TypeId} {B n c : Nat} {l : List Int} (h : Own w e B (.slice none n c) l) : n = 0 ∧ c = 0 := by
  rcases h.row.2 with ⟨h, _⟩ | ⟨g, cap, cur, h, _⟩
  · injection h with _ h1 h2; exact ⟨h1, h2⟩
  · injection h with h; cases h
theorem MadeN.of {w w' : World} {l : List Int} {v : Value} (h : Own w' 5 w.heap.size v l) (hk : Kp no w w') (hn : v ≠ .slice none 0 0) : MadeN w l (.returned v) w' := by
  obtain ⟨A, c, rfl, hr, _⟩ := h.rd
  cases A with
  | some ad => exact ⟨ad, c, rfl, h, hr, hk⟩
  | none => obtain ⟨h1, h2⟩ := h.nil_of; rw [h1, h2] at hn; exact absurd rfl hn
theorem MadeN.made {w : World} {l : List Int} {e : Ending} {w' : World} (h : MadeN w l e w') : Made w l e w' := by
  obtain ⟨ad, c, h⟩ := h
  exact ⟨_, c, h⟩

theorem Clone_calls {w : World} {A : Option Addr} {n c : Nat} {l : List Int} (h : Rd w A n c l) (hn : n ≤ 140737488355328) :
    Calls Tryz.prog 28 #[.slice A n c] w (Made w l) := by
  have hl := h.len
  by_cases hA : A = none
  · subst hA
    have h0 : n = 0 := by
      rcases Nat.eq_zero_or_pos n with h0 | h0
      · exact h0
      · obtain ⟨g, o, h, _⟩ := h.at_ h0
        cases h
    subst h0
    obtain rfl : l = [] := List.eq_nil_of_length_eq_zero hl
    clear hl
    have heq := fun W : World => Lib.run_eql_slice_nil (P := Tryz.prog) W 23 5 none 0 c 0 0 Tryz.und_bytes
    go_enter Tryz.func28, Tryz.ntmps28
    go_wp2
    go_ret
    exact Made.of (Own.nil _ _ _) (Kp.refl _ _)
  · obtain ⟨ad, rfl⟩ := Option.ne_none_iff_exists'.1 hA
    clear hl hA
    have heq := fun W : World => Lib.run_eql_slice_nil (P := Tryz.prog) W 23 5 (some ad) n c 0 0 Tryz.und_bytes
    have HO := Own.lit w 5 w.heap.size [] (Nat.le_refl _) Byt.nil (by simp)
    have hk : Kp no w (w.alloc (.cells (nums .u8 []).toArray 5)) := (Kp.refl _ _).alloc _
    have HR := h.keepN hk
    go_enter Tryz.func28, Tryz.ntmps28
    go_wp2_with (first | (at_builtin; refine own_append w.heap.size rfl (.tmp 5) (.tmp 6) 23 5 rfl Tryz.und_bytes Tryz.info_byte (.slice (some ⟨w.heap.size, 0, none⟩) 0 0) [] l (some ad) n c rfl rfl HO HR (by simp) (by simp; omega) ?_; intro v1 w1 hO1 hk1 _ _))
    go_ret
    exact Made.of hO1 (hk.own HO (Nat.le_refl _) hk1)
end Go.Proofs.YtflafpklphgbpaaGreatDoor
namespace Go.Proofs.YtflafpklphgbpaaGreatDoor
open Go Go.RowKit
set_option linter.unusedVariables false
set_option linter.unusedSimpArgs false
set_option maxRecDepth 100000

theorem Tryz.und_string : Tryz.prog.underlying 9 = some .string := by kernel_rfl

theorem strOfNums_inj {a b : List Int} (ha : Byt a) (hb : Byt b) (h : strOfNums a = strOfNums b) : a = b := by
  have h1 : (strOfNums a).data.toList = (strOfNums b).data.toList := by rw [h]
  rw [strOfNums_data, strOfNums_data] at h1
  have key : ∀ (a b : List Int), Byt a → Byt b → a.map (fun n => UInt8.ofNat n.toNat) = b.map (fun n => UInt8.ofNat n.toNat) → a = b := by
    intro a
    induction a with
    | nil => intro b _ _ h; cases b with | nil => rfl | cons => simp at h
    | cons x a ih =>
      intro b ha hb h
      cases b with
      | nil => simp at h
      | cons y b =>
        simp only [List.map_cons, List.cons.injEq] at h
        have hx := ha x (by simp)
        have hy := hb y (by simp)
        have hxy : x = y := by
          have h2 := congrArg UInt8.toNat h.1
          simp only [UInt8.toNat_ofNat'] at h2
          omega
        rw [hxy, ih b (fun z hz => ha z (by simp [hz])) (fun z hz => hb z (by simp [hz])) h.2]
  exact key a b ha hb h1
theorem strOfNums_beq {a b : List Int} (ha : Byt a) (hb : Byt b) : ((strOfNums a).toList == (strOfNums b).toList) = decide (a = b) := by
  by_cases h : a = b
  · subst h; simp
  · have : ¬ (strOfNums a).toList = (strOfNums b).toList := fun h1 => h (strOfNums_inj ha hb (by
      rw [Lib.toList_data, Lib.toList_data] at h1
      have h2 : (strOfNums a).data = (strOfNums b).data := Array.toList_inj.1 h1
      exact congrArg ByteArray.mk h2))
    simp [h, this]

theorem Rd.str {w : World} {A : Option Addr} {n c : Nat} {l : List Int} (h : Rd w A n c l) :
    (convert 23 9 (.slice A n c)).run Tryz.prog w = .ok (.string (strOfNums l)) w := by
  have hl := h.len
  rcases Nat.eq_zero_or_pos n with h0 | h0
  · subst h0
    obtain rfl : l = [] := List.eq_nil_of_length_eq_zero hl
    cases A with
    | none => exact run_convert_bytes_nil w _ _ Tryz.und_bytes Tryz.und_byte 0 c _ Tryz.und_string
    | some ad =>
      have hz : (loadCells ad 0).run Tryz.prog w = .ok (([] : List Int).map (Value.int .u8)).toArray w := by simp [loadCells, loadCellsFrom]
      rw [run_convert_bytes_string w 23 9 5 _ 0 c Tryz.und_bytes Tryz.und_byte Tryz.und_string, run_bytesToString w ad 0 c [] hz, foldl_push_bytes]
      rfl
  · obtain ⟨g, o, rfl, hc⟩ := h.at_ h0
    exact run_convert_bytes_arg w _ _ Tryz.und_bytes Tryz.und_byte g o n c l hl hc _ Tryz.und_string

theorem Equal_any {w : World} {A A' : Option Addr} {n c n' c' : Nat} {l l' : List Int} (h : Rd w A n c l) (h' : Rd w A' n' c' l') :
    Calls Tryz.prog 17 #[.slice A n c, .slice A' n' c'] w fun e w' => e = .returned (.bool (decide (l = l'))) ∧ w = w' := by
  have c1 := h.str
  have c2 := h'.str
  have c3 := strOfNums_beq h.byt h'.byt
  go_enter Tryz.func17, Tryz.ntmps17
  go_wp2
  go_ret
  exact ⟨rfl, rfl⟩
theorem Equal_same {w : World} {A A' : Option Addr} {n c n' c' : Nat} {l : List Int} (h : Rd w A n c l) (h' : Rd w A' n' c' l) :
    Calls Tryz.prog 17 #[.slice A n c, .slice A' n' c'] w fun e w' => e = .returned (.bool true) ∧ w = w' :=
  (Equal_any h h').mono fun e w' he => by simpa using he
theorem Equal_not {w : World} {A A' : Option Addr} {n c n' c' : Nat} {l l' : List Int} (h : Rd w A n c l) (h' : Rd w A' n' c' l') (hne : l ≠ l') :
    Calls Tryz.prog 17 #[.slice A n c, .slice A' n' c'] w fun e w' => e = .returned (.bool false) ∧ w = w' :=
  (Equal_any h h').mono fun e w' he => by simpa [hne] using he

end Go.Proofs.YtflafpklphgbpaaGreatDoor
namespace Go.Proofs.YtflafpklphgbpaaGreatDoor
open Go Go.RowKit
set_option linter.unusedVariables false
set_option linter.unusedSimpArgs false
set_option maxRecDepth 100000

theorem Rd.strT {w : World} {A : Option Addr} {n c : Nat} {l : List Int} (h : Rd w A n c l) {t u : TypeId} (ht : Tryz.prog.underlying t = some (.slice 5)) (hu : Tryz.prog.underlying u = some .string) :
    (convert t u (.slice A n c)).run Tryz.prog w = .ok (.string (strOfNums l)) w := by
  have hl := h.len
  rcases Nat.eq_zero_or_pos n with h0 | h0
  · subst h0
    obtain rfl : l = [] := List.eq_nil_of_length_eq_zero hl
    cases A with
    | none => exact run_convert_bytes_nil w _ _ ht Tryz.und_byte 0 c _ hu
    | some ad =>
      have hz : (loadCells ad 0).run Tryz.prog w = .ok (([] : List Int).map (Value.int .u8)).toArray w := by simp [loadCells, loadCellsFrom]
      rw [run_convert_bytes_string w t u 5 _ 0 c ht Tryz.und_byte hu, run_bytesToString w ad 0 c [] hz, foldl_push_bytes]
      rfl
  · obtain ⟨g, o, rfl, hc⟩ := h.at_ h0
    exact run_convert_bytes_arg w _ _ ht Tryz.und_byte g o n c l hl hc _ hu
/-- A text as bytes: a new row, only read. -/
theorem str_bytes {w : World} {l : List Int} (hb : Byt l) (hn : l.length ≤ 1099511627776) {t u : TypeId} (ht : Tryz.prog.underlying t = some .string) (hu : Tryz.prog.underlying u = some (.slice 5)) :
    ∃ c w2, (convert t u (.string (strOfNums l))).run Tryz.prog w = .ok (.slice (some ⟨w.heap.size, 0, none⟩) l.length c) w2 ∧ Rd w2 (some ⟨w.heap.size, 0, none⟩) l.length c l ∧ Kp no w w2 ∧ w2.heap.size = w.heap.size + 1 := by
  have hs := strOfNums_size l
  have hr := run_bytes_of_string (P := Tryz.prog) w t u 5 (strOfNums l) ht hu Tryz.und_byte
  rw [hs] at hr
  have hge := grownCap_ge w l.length 0 5
  have hle := grownCap_le_maxLen w l.length 0 5 (by simp only [maxLen]; omega)
  generalize grownCap w l.length 0 5 = cap at *
  refine ⟨cap, _, hr, ⟨rfl, hge, by simpa [maxLen] using hle, hb, fun hp => ⟨w.heap.size, 0, rfl, fun j hj => ?_⟩⟩, ((Kp.refl _ _).drew).alloc _, by simp⟩
  rw [Nat.zero_add]
  have hh := heap_alloc_new w.drew (.cells (bytesRow (strOfNums l) cap) 5 ((bytesRow (strOfNums l) cap).size, (bytesRow (strOfNums l) cap).size + 1))
  rw [cell_of_row _ w.heap.size j _ _ _ hh]
  have hd : (strOfNums l).data.size = l.length := hs
  rw [bytesRow_at _ _ j (by omega)]
  have hx := hb l[j] (List.getElem_mem hj)
  have he : (strOfNums l).data[j]'(by omega) = UInt8.ofNat l[j].toNat := by
    have h1 := strOfNums_data l
    have h2 : (strOfNums l).data.toList[j]'(by simpa using (by omega : j < (strOfNums l).data.size)) = (l.map (fun n => UInt8.ofNat n.toNat))[j]'(by simpa using hj) := by simp [h1]
    simpa using h2
  rw [he, List.getD_eq_getElem?_getD, List.getElem?_eq_getElem hj]
  simp only [UInt8.toNat_ofNat', Option.getD_some, Option.some.injEq, Value.int.injEq, true_and]
  omega
end Go.Proofs.YtflafpklphgbpaaGreatDoor
namespace Go.Proofs.YtflafpklphgbpaaGreatDoor
open Go Go.RowKit
set_option linter.unusedVariables false
set_option linter.unusedSimpArgs false
set_option maxRecDepth 100000

/-- A row of numbers, known whole. -/
def Nw (K : IntKind) (w : World) (g : Nat) (t : TypeId) (L : List Int) : Prop := Blk w g (nums K L).toArray t
theorem Nw.cell {K : IntKind} {w : World} {g : Nat} {t : TypeId} {L : List Int} (h : Nw K w g t L) (i : Nat) (hi : i < L.length) : w.cell? ⟨g, i, none⟩ = some (.int K (L.getD i 0)) := by
  rw [Blk.cell h i]; simp [nums, List.getD_eq_getElem?_getD, List.getElem?_eq_getElem hi]
theorem Nw.free {K : IntKind} {w : World} {g : Nat} {t : TypeId} {L : List Int} (h : Nw K w g t L) (i : Nat) : w.frozen? ⟨g, i, none⟩ = false := Blk.free h i
theorem Nw.set {K : IntKind} {w : World} {g : Nat} {t : TypeId} {L : List Int} (h : Nw K w g t L) (i : Nat) (v : Int) : Nw K (w.setCell ⟨g, i, none⟩ (.int K v)) g t (L.set i v) := by
  have := Blk.set h i (.int K v)
  unfold Nw
  rw [show (nums K (L.set i v)).toArray = (nums K L).toArray.setIfInBounds i (.int K v) from by apply Array.toList_inj.1; simp [nums, List.map_set]]
  exact this
theorem Nw.setTo {K : IntKind} {w : World} {g : Nat} {t : TypeId} {L M : List Int} (h : Nw K w g t L) (i : Nat) {v u : Int} (e : v = u) (hM : L.set i u = M) : Nw K (w.setCell ⟨g, i, none⟩ (.int K v)) g t M := by
  subst e; subst hM; exact h.set i v
theorem Nw.keep {K : IntKind} {S : Nat → Prop} {w w' : World} {g : Nat} {t : TypeId} {L : List Int} (h : Nw K w g t L) (k : Kp S w w') (hn : ¬ S g) : Nw K w' g t L := Blk.keep h k hn
theorem Nw.keepN {K : IntKind} {w w' : World} {g : Nat} {t : TypeId} {L : List Int} (h : Nw K w g t L) (k : Kp no w w') : Nw K w' g t L := Blk.keepN h k
theorem Nw.far {K : IntKind} {w : World} {g : Nat} {t : TypeId} {L : List Int} (h : Nw K w g t L) {p : Addr} (hp : g ≠ p.block) (u : Value) : Nw K (w.setCell p u) g t L := Blk.far h hp u
theorem Nw.lt {K : IntKind} {w : World} {g : Nat} {t : TypeId} {L : List Int} (h : Nw K w g t L) : g < w.heap.size := Blk.lt h
theorem Nw.rd {w : World} {g : Nat} {t : TypeId} {L : List Int} {n : Nat} (h : Nw .u8 w g t L) (hn : L.length = n) (hb : Byt L) (hm : n ≤ 9223372036854775807) : Rd w (some ⟨g, 0, none⟩) n n L :=
  ⟨hn, Nat.le_refl _, hm, hb, fun _ => ⟨g, 0, rfl, fun j hj => by
    rw [Nat.zero_add]; exact h.cell j (by omega)⟩⟩
theorem ownsRow_blk {w : World} {g n B : Nat} {e : TypeId} {xs : List Value} (h : w.ownsRow B e 1 (.slice (some ⟨g, 0, none⟩) n n) n xs) : Blk w g xs.toArray e := by
  rcases h.2 with ⟨h, _⟩ | ⟨g', cap, cur, hv, _, hh, _, _, hs, ht⟩
  · cases h
  · injection hv with hv h1 h2
    injection hv with hv
    injection hv with hv
    subst hv h2
    have : cur.toList = xs := by rw [← ht, List.take_of_length_le (by simp; omega)]
    unfold Blk
    rw [hh, ← this]
theorem made_nums (K : IntKind) (m : Nat) : (madeCells (Value.int K 0).cells (m * 1)).toList = nums K (List.replicate m 0) := by
  simp only [madeCells, Value.cells, nums]
  apply List.ext_getElem
  · simp
  · intro i h1 h2
    simp [Nat.mod_one]
theorem Nw.made {K : IntKind} {w : World} {g n B : Nat} {e : TypeId} (h : w.ownsRow B e 1 (.slice (some ⟨g, 0, none⟩) n n) n (madeCells (Value.int K 0).cells (n * 1)).toList) : Nw K w g e (List.replicate n 0) := by
  rw [made_nums] at h
  exact ownsRow_blk h

/-! ### Runes -/
def Asc (T : List Int) : Prop := ∀ x ∈ T, 0 ≤ x ∧ x < 128
theorem Asc.byt {T : List Int} (h : Asc T) : Byt T := fun x hx => by have := h x hx; omega
theorem Asc.getD {T : List Int} (h : Asc T) (i : Nat) : 0 ≤ T.getD i 0 ∧ T.getD i 0 < 128 := by
  rw [List.getD_eq_getElem?_getD]
  by_cases hi : i < T.length
  · rw [List.getElem?_eq_getElem hi]; exact h _ (List.getElem_mem hi)
  · rw [List.getElem?_eq_none (by omega)]; simp
theorem Asc.app {a b : List Int} (h : Asc a) (k : Asc b) : Asc (a ++ b) := fun x hx => (List.mem_append.1 hx).elim (h x) (k x)
theorem str_at {T : List Int} (hT : Asc T) (i : Nat) (hi : i < (strOfNums T).size) : ((strOfNums T)[i]'hi).toNat = (T.getD i 0).toNat := by
  have hs := strOfNums_size T
  have hi2 : i < T.length := by omega
  have hx := hT.getD i
  have h2 : (strOfNums T).data.toList[i]'(by simpa using hi) = (T.map (fun n => UInt8.ofNat n.toNat))[i]'(by simpa using hi2) := by simp [strOfNums_data]
  have h3 : (strOfNums T)[i]'hi = UInt8.ofNat (T[i].toNat) := by
    have : (strOfNums T)[i]'hi = (strOfNums T).data.toList[i]'(by simpa using hi) := by simp; rfl
    rw [this, h2]; simp
  rw [h3]
  rw [List.getD_eq_getElem?_getD, List.getElem?_eq_getElem hi2] at hx ⊢
  simp only [UInt8.toNat_ofNat', Option.getD_some] at hx ⊢
  omega
theorem runes_asc {T : List Int} (hT : Asc T) : ∀ (b i : Nat) (acc : Array Value), i + b = T.length → Conv.runesFrom (strOfNums T) b i acc = acc ++ (nums .i32 (T.drop i)).toArray
  | 0, i, acc, h => by
    rw [List.drop_of_length_le (by omega)]; simp [Conv.runesFrom, nums]
  | b + 1, i, acc, h => by
    have hs := strOfNums_size T
    have hi : i < (strOfNums T).size := by omega
    have hx := hT.getD i
    have hat := str_at hT i hi
    unfold Conv.runesFrom
    rw [if_pos hi, decode_ascii _ _ hi (by omega)]
    simp only
    rw [runes_asc hT b (i + 1) _ (by omega), hat, List.drop_eq_getElem_cons (show i < T.length by omega)]
    have e : Int.ofNat (T.getD i 0).toNat = T[i] := by
      rw [show Int.ofNat (T.getD i 0).toNat = ((T.getD i 0).toNat : Int) from rfl, Int.toNat_of_nonneg hx.1]
      simp [List.getD_eq_getElem?_getD, List.getElem?_eq_getElem (show i < T.length by omega)]
    rw [e]
    generalize T.drop (i + 1) = Z
    simp [nums]
/-- A text of ASCII letters as runes: a new row. -/
theorem str_runes {w : World} {T : List Int} (hT : Asc T) (hn : T.length ≤ 1099511627776) {t u : TypeId} (ht : Tryz.prog.underlying t = some .string) (hu : Tryz.prog.underlying u = some (.slice 21)) (he : Tryz.prog.underlying 21 = some (.int .i32)) :
    ∃ c w2, (convert t u (.string (strOfNums T))).run Tryz.prog w = .ok (.slice (some ⟨w.heap.size, 0, none⟩) T.length c) w2 ∧ (∀ j : Nat, j < T.length → w2.cell? ⟨w.heap.size, j, none⟩ = some (.int .i32 (T.getD j 0))) ∧ Kp no w w2 ∧ w2.heap.size = w.heap.size + 1 ∧ T.length ≤ c := by
  have hs := strOfNums_size T
  have hrun := runes_asc hT T.length 0 #[] (by omega)
  rw [List.drop_zero, ← hs, Array.empty_append] at hrun
  have hsz : (nums .i32 T).toArray.size = T.length := by simp [nums]
  have hr := run_runes_of_string (P := Tryz.prog) w t u 21 (strOfNums T) ht hu he (by rw [hrun, hsz]; omega)
  rw [hrun, hsz] at hr
  have hge := grownCap_ge w T.length 0 21
  generalize grownCap w T.length 0 21 = cap at *
  refine ⟨cap, _, hr, fun j hj => ?_, ((Kp.refl _ _).drew).alloc _, by simp, hge⟩
  have hb := Blk.new w.drew ((nums .i32 T).toArray ++ Array.replicate (cap - T.length) (.int .i32 0)) 21
  have := hb.cell j
  rw [show w.drew.heap.size = w.heap.size from rfl] at this
  rw [this, Array.getElem?_append_left (by rw [hsz]; exact hj)]
  simp [nums, List.getD_eq_getElem?_getD, List.getElem?_eq_getElem hj]
theorem and_hi (k x y : Nat) (h : x < 2 ^ k) : x &&& (2 ^ k * y) = 0 := by
  apply Nat.eq_of_testBit_eq
  intro i
  rw [Nat.testBit_and, Nat.zero_testBit, Nat.testBit_two_pow_mul]
  by_cases hi : i < k
  · have : decide (i ≥ k) = false := by simp; omega
    simp [this]
  · rw [Nat.testBit_lt_two_pow (Nat.lt_of_lt_of_le h (Nat.pow_le_pow_right (by omega) (by omega)))]; simp
end Go.Proofs.YtflafpklphgbpaaGreatDoor
