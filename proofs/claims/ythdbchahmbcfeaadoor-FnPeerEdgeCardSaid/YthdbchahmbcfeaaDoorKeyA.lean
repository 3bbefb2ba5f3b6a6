/- A key's fields, read over what is there: (*key).merge. -/
import Derived.Test.YthdbchahmbcfeaaDoorBytes
import Derived.Test.YthdbchahmbcfeaaDoorMsg
namespace Go.Proofs.YthdbchahmbcfeaaDoor
open Go Go.RowKit
set_option linter.unusedVariables false
set_option linter.unusedSimpArgs false
set_option maxRecDepth 100000

section
variable {P : Program} {ops : Array Oper} {rest : List Oper} {o : Oper} {a : Act} {Q : Exit → Act → World → Prop}
/-- 'append([]byte{}, ys...)', behind 'at_builtin': what comes out is no nil. -/
theorem fresh_append {W : World} (B : Nat) (hgd : o.guard = none) (s x : Operand) (t e : TypeId)
    (ho : o.op = .call { callee := .builtin .append, args := #[s, x], argTypes := #[t, t] })
    (ht : P.underlying t = some (.slice e)) (hinfo : (P.info? e).map (fun i => (i.zero, i.size, i.bytes)) = some (some (.int .u8 0), 1, 1))
    (a0 : Addr) (c0 : Nat) (ys : List Int) (A : Option Addr) (m c : Nat) (hs : a.eval s = .slice (some a0) 0 c0) (hx : a.eval x = .slice A m c)
    (HO : Own W e B (.slice (some a0) 0 c0) []) (HR : Rd W A m c ys) (hB : B ≤ W.heap.size) (hl : m ≤ 140737488355328)
    (h : ∀ g1 c1 w1, Own w1 e B (.slice (some ⟨g1, 0, none⟩) m c1) ys → Rd w1 (some ⟨g1, 0, none⟩) m c1 ys → B ≤ g1 → Kp (Of (.slice (some a0) 0 c0)) W w1 → wpList P ops Q rest (a.put o.dst (.slice (some ⟨g1, 0, none⟩) m c1)) w1) :
    wpList P ops Q (o :: rest) a W := by
  refine own_append B hgd s x t e ho ht hinfo (.slice (some a0) 0 c0) [] ys A m c hs hx HO HR hB (by simpa using hl) ?_
  intro v1 w1 hO hk hw hn
  rcases hO.row.2 with ⟨rfl, h0⟩ | ⟨g, cap, cur, hv, hb, _⟩
  · exact absurd rfl (hn (by simp))
  · have hlen : ys.length = m := HR.len
    simp only [List.nil_append] at hO hv
    subst hv
    obtain ⟨A', c', he, hr, _⟩ := hO.rd
    injection he with h1 _ h2
    subst h1 h2
    rw [hlen] at hO hr ⊢
    exact h g cap w1 hO hr hb hk
end

theorem Enum_calls {w : World} (k : Int) :
    Calls Tryd.prog 28 #[.int .i32 k] w fun e w' => ∃ b, e = .returned (.pointer (some ⟨b, 0, none⟩)) ∧ w.heap.size ≤ b ∧ w'.cell? ⟨b, 0, none⟩ = some (.int .i32 k) ∧ Kp no w w' := by
  go_enter Tryd.func28, Tryd.ntmps28
  go_wp2
  go_ret
  exact ⟨_, rfl, Nat.le_refl _, by simp, (Kp.refl no w).alloc _⟩

/-- A key's two cells: its kind, behind a pointer, and its data; what they tell. -/
def PtAt (w : World) (S : Nat → Prop) (pt : Value) : Option Int → Prop
  | none => pt = .pointer none
  | some k => ∃ b, pt = .pointer (some ⟨b, 0, none⟩) ∧ ¬ S b ∧ w.cell? ⟨b, 0, none⟩ = some (.int .i32 k) ∧ -2147483648 ≤ k ∧ k ≤ 2147483647
def DtAt (w : World) (S : Nat → Prop) (sl : Value) : Option (List Int) → Prop
  | none => sl = .slice none 0 0
  | some l => ∃ b o c, sl = .slice (some ⟨b, o, none⟩) l.length c ∧ ¬ S b ∧ b < w.heap.size ∧ l.length ≤ 1099511627776 ∧ Rd w (some ⟨b, o, none⟩) l.length c l
abbrev KS := Option Int × Option (List Int)
structure KSt (w : World) (S : Nat → Prop) (pt sl : Value) (st : KS) : Prop where
  pt : PtAt w S pt st.1
  dt : DtAt w S sl st.2
theorem PtAt.keep {w w' : World} {S R : Nat → Prop} {pt : Value} {k : Option Int} (h : PtAt w S pt k) (hk : Kp R w w') (hr : ∀ i, R i → S i) : PtAt w' S pt k := by
  cases k with
  | none => exact h
  | some k =>
    obtain ⟨b, h1, h2, h3, h4⟩ := h
    exact ⟨b, h1, h2, hk.cell h3 (fun h => h2 (hr _ h)), h4⟩
theorem DtAt.keep {w w' : World} {S R : Nat → Prop} {sl : Value} {l : Option (List Int)} (h : DtAt w S sl l) (hk : Kp R w w') (hr : ∀ i, R i → S i) : DtAt w' S sl l := by
  cases l with
  | none => exact h
  | some l =>
    obtain ⟨b, o, c, h1, h2, h3, hn, h4⟩ := h
    exact ⟨b, o, c, h1, h2, Nat.lt_of_lt_of_le h3 hk.size, hn, h4.keep hk (fun a ha => by cases ha; exact fun h => h2 (hr _ h))⟩
theorem KSt.keep {w w' : World} {S R : Nat → Prop} {pt sl : Value} {st : KS} (h : KSt w S pt sl st) (hk : Kp R w w') (hr : ∀ i, R i → S i) : KSt w' S pt sl st := ⟨h.pt.keep hk hr, h.dt.keep hk hr⟩
theorem KSt.keepN {w w' : World} {S : Nat → Prop} {pt sl : Value} {st : KS} (h : KSt w S pt sl st) (hk : Kp no w w') : KSt w' S pt sl st := h.keep hk (fun _ h => h.elim)
theorem PtAt.mono {w : World} {S S' : Nat → Prop} {pt : Value} {k : Option Int} (h : PtAt w S pt k) (hr : ∀ i, i < w.heap.size → S' i → S i) : PtAt w S' pt k := by
  cases k with
  | none => exact h
  | some k =>
    obtain ⟨b, h1, h2, h3, h4⟩ := h
    exact ⟨b, h1, fun h => h2 (hr _ (World.block_lt_of_cell? w _ h3) h), h3, h4⟩
theorem DtAt.mono {w : World} {S S' : Nat → Prop} {sl : Value} {l : Option (List Int)} (h : DtAt w S sl l) (hr : ∀ i, i < w.heap.size → S' i → S i) : DtAt w S' sl l := by
  cases l with
  | none => exact h
  | some l =>
    obtain ⟨b, o, c, h1, h2, h3, h4⟩ := h
    exact ⟨b, o, c, h1, fun h => h2 (hr _ h3 h), h3, h4⟩
/-- What is avoided may be less, or more from the world's end on. -/
theorem KSt.mono {w : World} {S S' : Nat → Prop} {pt sl : Value} {st : KS} (h : KSt w S pt sl st) (hr : ∀ i, i < w.heap.size → S' i → S i) : KSt w S' pt sl st := ⟨h.pt.mono hr, h.dt.mono hr⟩
theorem KSt.one {w : World} {S : Nat → Prop} {pt sl : Value} {st : KS} (h : KSt w S pt sl st) : pt.oneCell' = true ∧ sl.oneCell' = true := by
  obtain ⟨h1, h2⟩ := h
  constructor
  · cases hk : st.1 with
    | none => rw [hk] at h1; rw [h1]; rfl
    | some k => rw [hk] at h1; obtain ⟨b, h1, _⟩ := h1; rw [h1]; rfl
  · cases hk : st.2 with
    | none => rw [hk] at h2; rw [h2]; rfl
    | some k => rw [hk] at h2; obtain ⟨b, o, c, h2, _⟩ := h2; rw [h2]; rfl

/-- What a field does to a key. -/
def kstep (s : KS) (f : Fld) : KS :=
  if f.num = 1 ∧ f.kind = 0 then (some (IntKind.i32.wrap f.val), s.2) else if f.num = 2 ∧ f.kind = 2 then (s.1, some f.data) else s
/-- How a message ends. -/
def Fin (l : List Int) (st st' : KS) (e : Ending) : Prop := match wf l with
  | .ok fs => e = .returned .nilIface ∧ st' = fs.foldl kstep st
  | .bad => Bad e
  | .opn => e = .returned .nilIface ∨ Bad e
/-- Where a reading of it stands. -/
def At (l l' : List Int) (st st' : KS) : Prop := (∃ p, From l p l' ∧ st' = p.foldl kstep st) ∨ wf l = .opn
theorem At.start (l : List Int) (st : KS) : At l l st st := .inl ⟨[], From.start l, rfl⟩
theorem At.step {l l' r : List Int} {st st' : KS} {f : Fld} (h : At l l' st st') (hb : Byt l') (h0 : 0 < l'.length) (hh : hd l' = .fld f r) : At l r st (kstep st' f) := by
  rcases h with ⟨p, h, rfl⟩ | h
  · exact .inl ⟨p ++ [f], h.step hb h0 hh, by simp⟩
  · exact .inr h
theorem At.opn {l l' r : List Int} {st st' st'' : KS} (h : At l l' st st') (hb : Byt l') (h0 : 0 < l'.length) (hh : hd l' = .opn) : At l r st st'' := by
  rcases h with ⟨p, h, rfl⟩ | h
  · exact .inr (h.opn hb h0 hh)
  · exact .inr h
theorem At.bad {l l' : List Int} {st st' st'' : KS} {e : Ending} (h : At l l' st st') (hb : Byt l') (h0 : 0 < l'.length) (hh : hd l' = .bad ∨ hd l' = .opn) (he : Bad e) : Fin l st st'' e := by
  unfold Fin
  rcases h with ⟨p, h, rfl⟩ | h
  · rcases hh with hh | hh
    · rw [h.bad hb h0 hh]; exact he
    · rw [h.opn hb h0 hh]; exact .inr he
  · rw [h]; exact .inr he
theorem At.done {l : List Int} {st st' : KS} (h : At l [] st st') : Fin l st st' (.returned .nilIface) := by
  unfold Fin
  rcases h with ⟨p, h, rfl⟩ | h
  · rw [h.done]; exact ⟨rfl, rfl⟩
  · rw [h]; exact .inl rfl
end Go.Proofs.YthdbchahmbcfeaaDoor
