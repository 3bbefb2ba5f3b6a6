/- append onto bytes of one's own; new blocks; bytes.Clone and its kin. -/
import Derived.Test.YthdbchahmbcfeaaDoorErr
namespace Go.Proofs.YthdbchahmbcfeaaDoor
open Go Go.RowKit
set_option linter.unusedVariables false
set_option linter.unusedSimpArgs false
set_option maxRecDepth 100000

theorem Own.lit (W : World) (e : TypeId) (B : Nat) (l : List Int) (hb : B ≤ W.heap.size) (hl : Byt l) (hm : l.length ≤ 9223372036854775807) :
    Own (W.alloc (.cells (nums .u8 l).toArray e)) e B (.slice (some ⟨W.heap.size, 0, none⟩) l.length l.length) l :=
  ⟨by
    have h := World.ownsRow_lit (base := B) (e := e) (size := 1) W (nums .u8 l).toArray l.length hb (by simpa [maxLen] using hm) (by simp [nums])
    simpa using h, hl⟩
theorem Rd.lit (W : World) (e : TypeId) (l : List Int) (hl : Byt l) (hm : l.length ≤ 9223372036854775807) :
    Rd (W.alloc (.cells (nums .u8 l).toArray e)) (some ⟨W.heap.size, 0, none⟩) l.length l.length l := by
  refine ⟨rfl, Nat.le_refl _, hm, hl, fun _ => ⟨W.heap.size, 0, rfl, fun j hj => ?_⟩⟩
  rw [Nat.zero_add, (Blk.new W (nums .u8 l).toArray e).cell j]
  simp [nums, List.getD_eq_getElem?_getD, List.getElem?_eq_getElem hj]

theorem Rd.plus {w : World} {g o n c : Nat} {l : List Int} (h : Rd w (some ⟨g, o, none⟩) n c l) (j : Nat) (hj : j < n) : w.cell? ((⟨g, o, none⟩ : Addr).add j) = some (.int .u8 (l.getD j 0)) := by
  obtain ⟨g', o', e, hc⟩ := h.at_ (by omega)
  cases e
  have ha : (⟨g, o, none⟩ : Addr).add j = ⟨g, o + j, none⟩ := by unfold Addr.add; split <;> simp_all
  rw [ha]
  exact hc j hj

/-- Where the row goes: it stays, or is a new block. -/
def Went (w : World) (v v1 : Value) : Prop := v1.ownBlock = v.ownBlock ∨ ∃ b, v1.ownBlock = some b ∧ w.heap.size ≤ b
/-- What an append onto v may have turned. -/
abbrev Of (v : Value) : Nat → Prop := fun k => v.ownBlock = some k
theorem Kp.own {S : Nat → Prop} {w0 w w' : World} {e : TypeId} {B : Nat} {v : Value} {l : List Int} (h : Kp S w0 w) (ho : Own w e B v l) (hb : w0.heap.size ≤ B) (k : Kp (Of v) w w') : Kp S w0 w' :=
  h.trans k fun i hi hv => absurd (ho.base i hv).1 (by omega)
theorem Went.trans {w w1 : World} {v v1 v2 : Value} (h : Went w v v1) (k : Went w1 v1 v2) (hs : w.heap.size ≤ w1.heap.size) : Went w v v2 := by
  rcases k with k | ⟨b, k, hb⟩
  · rcases h with h | ⟨b, h, hb⟩
    · exact .inl (k.trans h)
    · exact .inr ⟨b, k.trans h, hb⟩
  · exact .inr ⟨b, k, by omega⟩
/-- Two appends in a row. -/
theorem Kp.grew {w w1 w2 : World} {v v1 : Value} (h : Kp (Of v) w w1) (hw : Went w v v1) (k : Kp (Of v1) w1 w2) : Kp (Of v) w w2 :=
  h.trans k fun i hi hv => by
    have hv' : v1.ownBlock = some i := hv
    show v.ownBlock = some i
    rcases hw with hw | ⟨b, hw, hb⟩
    · rw [← hw]; exact hv'
    · rw [hw] at hv'; injection hv' with hv'; omega
theorem Out.went {S : Nat → Prop} {w : World} {v v1 : Value} (h : ∀ b, v.ownBlock = some b → ¬ S b) (hw : Went w v v1) (hS : ∀ k, S k → k < w.heap.size) : ∀ b, v1.ownBlock = some b → ¬ S b := by
  intro b hb
  rcases hw with hw | ⟨b', hw, hb'⟩
  · exact h b (hw ▸ hb)
  · rw [hw] at hb; injection hb with hb
    exact fun hs => by have := hS b hs; omega

section
variable {P : Program} {ops : Array Oper} {rest : List Oper} {o : Oper} {a : Act} {Q : Exit → Act → World → Prop}
theorem run_own_append {W : World} (B : Nat) (t e ty : TypeId)
    (ht : P.underlying t = some (.slice e)) (hinfo : (P.info? e).map (fun i => (i.zero, i.size, i.bytes)) = some (some (.int .u8 0), 1, 1))
    (v : Value) (l ys : List Int) (A : Option Addr) (m c : Nat)
    (HO : Own W e B v l) (HR : Rd W A m c ys) (hB : B ≤ W.heap.size) (hl : l.length + m ≤ 140737488355328) :
    ∃ v1 w1, (Builtin.append_ #[t, t] ty #[v, .slice A m c]).run P W = .ok v1 w1 ∧ Own w1 e B v1 (l ++ ys) ∧ W.grownBy w1 v.ownBlock ∧ Went W v v1 ∧ (v ≠ .slice none 0 0 → v1 ≠ .slice none 0 0) := by
  obtain ⟨i0, hi, hzz⟩ := Option.map_eq_some_iff.1 hinfo
  simp only [Prod.mk.injEq] at hzz
  obtain ⟨hz0, hz1, hz2⟩ := hzz
  have hm : ys.length = m := HR.len
  rcases A with _ | ⟨g, o, s⟩
  · have h0 : m = 0 := by
      rcases Nat.eq_zero_or_pos m with h0 | h0
      · exact h0
      · obtain ⟨g, o, h, _⟩ := HR.at_ h0
        cases h
    subst h0
    obtain rfl : ys = [] := List.eq_nil_of_length_eq_zero hm
    refine ⟨v, W, ?_, by simpa using HO, World.grownBy.refl W _, .inl rfl, fun h => h⟩
    rcases HO.row.2 with ⟨rfl, hn⟩ | ⟨g, cap, cur, rfl, _, _, hnc, _⟩
    · simp [Builtin.append_, run_underlying ht, sizeOf, typeInfo, hi, Builtin.lenOf, Builtin.firstCells]
    · simp [Builtin.append_, run_underlying ht, sizeOf, typeInfo, hi, Builtin.lenOf, Builtin.firstCells, hnc, storeCells]
  · have hcells : ∀ j u, (nums .u8 ys)[j]? = some u → W.cell? ((⟨g, o, s⟩ : Addr).add j) = some u := by
      intro j u hu
      have hj : j < ys.length := by
        rcases Nat.lt_or_ge j ys.length with h | h
        · exact h
        · simp [nums, List.getElem?_eq_none h] at hu
      obtain ⟨g', o', he, _⟩ := HR.at_ (by omega)
      cases he
      have := HR.plus j (by omega)
      rw [this]
      simp [nums, List.getElem?_eq_getElem hj] at hu
      subst hu
      simp [List.getD_eq_getElem?_getD, List.getElem?_eq_getElem hj]
    obtain ⟨v1, w1, hr, h2, h3, h4, h5⟩ := run_append_own_at (P := P) W B t ty e i0 (.int .u8 0) 1 1 ht hi hz0 hz1 hz2 rfl (by omega) v l.length (nums .u8 l) HO.row ⟨g, o, s⟩ m c (nums .u8 ys) (by simp [nums, hm]) hcells
      (by intro u hu; simp only [nums, List.mem_map] at hu; obtain ⟨q, _, rfl⟩ := hu; rfl) (by simp only [maxLen]; omega) (by omega) hB
    exact ⟨v1, w1, hr, ⟨by simpa [nums, hm] using h2, HO.byt.app HR.byt⟩, h3, h5.imp_right fun h => ⟨_, h, Nat.le_refl _⟩, fun hv h => hv (h4.1 h).1⟩

/-- 'append(v, ys...)', behind 'at_builtin'. -/
theorem own_append {W : World} (B : Nat) (hgd : o.guard = none) (s x : Operand) (t e : TypeId)
    (ho : o.op = .call { callee := .builtin .append, args := #[s, x], argTypes := #[t, t] })
    (ht : P.underlying t = some (.slice e)) (hinfo : (P.info? e).map (fun i => (i.zero, i.size, i.bytes)) = some (some (.int .u8 0), 1, 1))
    (v : Value) (l ys : List Int) (A : Option Addr) (m c : Nat) (hs : a.eval s = v) (hx : a.eval x = .slice A m c)
    (HO : Own W e B v l) (HR : Rd W A m c ys) (hB : B ≤ W.heap.size) (hl : l.length + m ≤ 140737488355328)
    (h : ∀ v1 w1, Own w1 e B v1 (l ++ ys) → Kp (Of v) W w1 → Went W v v1 → (v ≠ .slice none 0 0 → v1 ≠ .slice none 0 0) → wpList P ops Q rest (a.put o.dst v1) w1) :
    wpList P ops Q (o :: rest) a W := by
  obtain ⟨v1, w1, hr, hown, hg, hat, hnn⟩ := run_own_append (P := P) B t e o.type ht hinfo v l ys A m c HO HR hB hl
  refine wpList_plain hgd fun K hK => ?_
  unfold Oper.wp execOp
  simp only [ho, resolve, invoke, builtin, Sem.run_bind, Sem.run_pure, Result.andThen_ok, List.map_toArray, List.map_cons, List.map_nil, hs, hx, hr]
  exact hK _ _ (h v1 w1 hown ((Kp.refl _ _).grown hg fun k hk _ => hk) hat hnn)
end

theorem Tryd.info_byte : (Tryd.prog.info? 5).map (fun i => (i.zero, i.size, i.bytes)) = some (some (.int .u8 0), 1, 1) := by kernel_rfl

/-- The result of a call that makes bytes. -/
structure MadeAt (w w' : World) (A : Option Addr) (c : Nat) (l : List Int) : Prop where
  own : Own w' 5 w.heap.size (.slice A l.length c) l
  rd : Rd w' A l.length c l
  kp : Kp no w w'
def Made (w : World) (l : List Int) (e : Ending) (w' : World) : Prop := ∃ A c, e = .returned (.slice A l.length c) ∧ MadeAt w w' A c l
theorem Made.of {w w' : World} {l : List Int} {v : Value} (h : Own w' 5 w.heap.size v l) (hk : Kp no w w') : Made w l (.returned v) w' := by
  obtain ⟨A, c, rfl, hr, _⟩ := h.rd
  exact ⟨A, c, rfl, h, hr, hk⟩
/-- Bytes that are made, and are not nil. -/
def MadeN (w : World) (l : List Int) (e : Ending) (w' : World) : Prop := ∃ ad c, e = .returned (.slice (some ad) l.length c) ∧ MadeAt w w' (some ad) c l
theorem Own.nil_of {w : World} {e : TypeId} {B n c : Nat} {l : List Int} (h : Own w e B (.slice none n c) l) : n = 0 ∧ c = 0 := by
  rcases h.row.2 with ⟨h, _⟩ | ⟨g, cap, cur, h, _⟩
  · injection h with _ h1 h2; exact ⟨h1, h2⟩
  · injection h with h; cases h
theorem MadeN.of {w w' : World} {l : List Int} {v : Value} (h : Own w' 5 w.heap.size v l) (hk : Kp no w w') (hn : v ≠ .slice none 0 0) : MadeN w l (.returned v) w' := by
  obtain ⟨A, c, rfl, hr, _⟩ := h.rd
  cases A with
  | some ad => exact ⟨ad, c, rfl, h, hr, hk⟩
  | none => obtain ⟨h1, h2⟩ := h.nil_of; rw [h1, h2] at hn; exact absurd rfl hn
theorem MadeN.made {w : World} {l : List Int} {e : Ending} {w' : World} (h : MadeN w l e w') : Made w l e w' := by
  obtain ⟨ad, c, h⟩ := h
  exact ⟨_, c, h⟩

theorem Clone_calls {w : World} {A : Option Addr} {n c : Nat} {l : List Int} (h : Rd w A n c l) (hn : n ≤ 140737488355328) :
    Calls Tryd.prog 15 #[.slice A n c] w (Made w l) := by
  have hl := h.len
  by_cases hA : A = none
  · subst hA
    have h0 : n = 0 := by
      rcases Nat.eq_zero_or_pos n with h0 | h0
      · exact h0
      · obtain ⟨g, o, h, _⟩ := h.at_ h0
        cases h
    subst h0
    obtain rfl : l = [] := List.eq_nil_of_length_eq_zero hl
    clear hl
    have heq := fun W : World => Lib.run_eql_slice_nil (P := Tryd.prog) W 22 5 none 0 c 0 0 Tryd.und_bytes
    go_enter Tryd.func15, Tryd.ntmps15
    go_wp2
    go_ret
    exact Made.of (Own.nil _ _ _) (Kp.refl _ _)
  · obtain ⟨ad, rfl⟩ := Option.ne_none_iff_exists'.1 hA
    clear hl hA
    have heq := fun W : World => Lib.run_eql_slice_nil (P := Tryd.prog) W 22 5 (some ad) n c 0 0 Tryd.und_bytes
    have HO := Own.lit w 5 w.heap.size [] (Nat.le_refl _) Byt.nil (by simp)
    have hk : Kp no w (w.alloc (.cells (nums .u8 []).toArray 5)) := (Kp.refl _ _).alloc _
    have HR := h.keepN hk
    go_enter Tryd.func15, Tryd.ntmps15
    go_wp2_with (first | (at_builtin; refine own_append w.heap.size rfl (.tmp 5) (.tmp 6) 22 5 rfl Tryd.und_bytes Tryd.info_byte (.slice (some ⟨w.heap.size, 0, none⟩) 0 0) [] l (some ad) n c rfl rfl HO HR (by simp) (by simp; omega) ?_; intro v1 w1 hO1 hk1 _ _))
    go_ret
    exact Made.of hO1 (hk.own HO (Nat.le_refl _) hk1)
end Go.Proofs.YthdbchahmbcfeaaDoor
