/- Words used by all walks of this seat: worlds that keep what was there (Kp), bytes that are read (Rd), bytes of one's own (Own). -/
import Derived.WalkKit
import Derived.KernelRfl
import Derived.WalkSpells
import Derived.Outline
import Derived.Lib.Hide
import Derived.Deep.AppendLies
import Derived.Maps.AppendAt
import Derived.Laws.BytesArg
import Derived.Lib.ConvBytes
import Derived.Deep.OwnRows
import Derived.Deep.Draws
namespace Go.Proofs.YtflafpklphgbpaaGreatDoor
open Go Go.RowKit
set_option linter.unusedVariables false

/-! ### Worlds -/
/-- Every block that was there, but those of S, is as it was. -/
structure Kp (S : Nat → Prop) (w w' : World) : Prop where
  os : w'.os = w.os
  tape : w'.tape = w.tape
  output : w'.output = w.output
  size : w.heap.size ≤ w'.heap.size
  block : ∀ k, k < w.heap.size → ¬ S k → w'.heap[k]? = w.heap[k]?

def no (_ : Nat) : Prop := False
theorem Kp.refl (S : Nat → Prop) (w : World) : Kp S w w := ⟨rfl, rfl, rfl, Nat.le_refl _, fun _ _ _ => rfl⟩
theorem Kp.trans {S S' : Nat → Prop} {a b c : World} (h : Kp S a b) (k : Kp S' b c) (hs : ∀ i, i < a.heap.size → S' i → S i) : Kp S a c :=
  ⟨k.os.trans h.os, k.tape.trans h.tape, k.output.trans h.output, Nat.le_trans h.size k.size, fun i hi hn =>
    (k.block i (Nat.lt_of_lt_of_le hi h.size) (fun hS => hn (hs i hi hS))).trans (h.block i hi hn)⟩
theorem Kp.then {S : Nat → Prop} {a b c : World} (h : Kp S a b) (k : Kp no b c) : Kp S a c := h.trans k fun _ _ h => h.elim
theorem Kp.mono {S S' : Nat → Prop} {a b : World} (h : Kp S a b) (hs : ∀ i, i < a.heap.size → S i → S' i) : Kp S' a b :=
  ⟨h.os, h.tape, h.output, h.size, fun i hi hn => h.block i hi fun hS => hn (hs i hi hS)⟩
theorem Kp.alloc {S : Nat → Prop} {a w : World} (h : Kp S a w) (o : Obj) : Kp S a (w.alloc o) :=
  ⟨h.os, h.tape, h.output, by have := h.size; simp; omega, fun k hk hn => (Below.heap_alloc _ _ _ (by have := h.size; omega)).trans (h.block k hk hn)⟩
theorem Kp.drew {S : Nat → Prop} {a w : World} (h : Kp S a w) : Kp S a w.drew := ⟨h.os, h.tape, h.output, h.size, h.block⟩
theorem Kp.drewN {S : Nat → Prop} {a w : World} (h : Kp S a w) (n : Nat) : Kp S a (w.drewN n) := ⟨h.os, h.tape, h.output, h.size, h.block⟩
theorem Kp.setCell {S : Nat → Prop} {a w : World} (h : Kp S a w) {p : Addr} (hp : p.block < a.heap.size → S p.block) (u : Value) : Kp S a (w.setCell p u) :=
  ⟨h.os, h.tape, h.output, by simpa [World.setCell] using h.size, fun k hk hn =>
    (Below.heap_setCell _ _ _ _ (fun e => hn (by subst e; exact hp hk))).trans (h.block k hk hn)⟩
theorem Kp.grown {S : Nat → Prop} {a w w' : World} {row : Option Nat} (h : Kp S a w) (hg : w.grownBy w' row) (hr : ∀ k, row = some k → k < a.heap.size → S k) : Kp S a w' :=
  ⟨hg.os.trans h.os, hg.tape.trans h.tape, hg.output.trans h.output, Nat.le_trans h.size hg.size, fun k hk hn =>
    (hg.block k (Nat.lt_of_lt_of_le hk h.size) (fun e => hn (hr k e.symm hk))).trans (h.block k hk hn)⟩
theorem Kp.below {w w' : World} (h : Kp no w w') : Below w.heap.size w w' :=
  ⟨h.os, h.tape, h.output, h.size, fun k hk => h.block k hk (fun h => h)⟩
theorem Kp.of_below {w w' : World} (h : Below w.heap.size w w') : Kp no w w' :=
  ⟨h.os, h.tape, h.output, h.size, fun k hk _ => h.block k hk⟩
theorem Kp.cell {S : Nat → Prop} {w w' : World} (h : Kp S w w') {a : Addr} {v : Value} (hc : w.cell? a = some v) (hn : ¬ S a.block) : w'.cell? a = some v :=
  (World.cell?_of_block (h.block a.block (World.block_lt_of_cell? w a hc) hn)).trans hc
theorem Kp.cellN {w w' : World} (h : Kp no w w') {a : Addr} {v : Value} (hc : w.cell? a = some v) : w'.cell? a = some v := h.cell hc (fun h => h)

/-! ### A block known whole -/
def Blk (w : World) (g : Nat) (cs : Array Value) (T : TypeId) : Prop := w.heap[g]? = some (.cells cs T (0, 0))
theorem Blk.lt {w : World} {g : Nat} {cs : Array Value} {T : TypeId} (h : Blk w g cs T) : g < w.heap.size := (Array.getElem?_eq_some_iff.1 h).1
theorem Blk.cell {w : World} {g : Nat} {cs : Array Value} {T : TypeId} (h : Blk w g cs T) (i : Nat) : w.cell? ⟨g, i, none⟩ = cs[i]? := cell_of_row w g i cs T (0, 0) h
theorem Blk.free {w : World} {g : Nat} {cs : Array Value} {T : TypeId} (h : Blk w g cs T) (i : Nat) : w.frozen? ⟨g, i, none⟩ = false := by
  unfold Blk at h; simp [World.frozen?, h]
theorem Blk.keep {S : Nat → Prop} {w w' : World} {g : Nat} {cs : Array Value} {T : TypeId} (h : Blk w g cs T) (k : Kp S w w') (hn : ¬ S g) : Blk w' g cs T :=
  (k.block g h.lt hn).trans h
theorem Blk.keepN {w w' : World} {g : Nat} {cs : Array Value} {T : TypeId} (h : Blk w g cs T) (k : Kp no w w') : Blk w' g cs T := h.keep k (fun h => h)
theorem Blk.new (w : World) (cs : Array Value) (T : TypeId) : Blk (w.alloc (.cells cs T)) w.heap.size cs T := heap_alloc_new w _
theorem Blk.alloc {w : World} {g : Nat} {cs : Array Value} {T : TypeId} (h : Blk w g cs T) (o : Obj) : Blk (w.alloc o) g cs T := h.keepN ((Kp.refl _ _).alloc o)
theorem Blk.drew {w : World} {g : Nat} {cs : Array Value} {T : TypeId} (h : Blk w g cs T) : Blk w.drew g cs T := h
theorem Blk.set {w : World} {g : Nat} {cs : Array Value} {T : TypeId} (h : Blk w g cs T) (i : Nat) (u : Value) : Blk (w.setCell ⟨g, i, none⟩ u) g (cs.setIfInBounds i u) T := by
  unfold Blk at *; simp [World.setCell, Array.getElem?_modify, h]
theorem Blk.far {w : World} {g : Nat} {cs : Array Value} {T : TypeId} (h : Blk w g cs T) {p : Addr} (hp : g ≠ p.block) (u : Value) : Blk (w.setCell p u) g cs T :=
  (Below.heap_setCell _ _ _ _ hp).trans h

/-! ### Bytes that are read -/
def Byt (l : List Int) : Prop := ∀ x ∈ l, 0 ≤ x ∧ x < 256
theorem Byt.nil : Byt [] := fun _ h => by cases h
theorem Byt.app {a b : List Int} (h : Byt a) (k : Byt b) : Byt (a ++ b) := fun x hx => (List.mem_append.1 hx).elim (h x) (k x)
theorem Byt.one {x : Int} (h0 : 0 ≤ x) (h1 : x < 256) : Byt [x] := fun y hy => by simp at hy; omega
theorem Byt.drop {a : List Int} (h : Byt a) (k : Nat) : Byt (a.drop k) := fun x hx => h x (List.mem_of_mem_drop hx)
theorem Byt.take {a : List Int} (h : Byt a) (k : Nat) : Byt (a.take k) := fun x hx => h x (List.mem_of_mem_take hx)
theorem Byt.getD {a : List Int} (h : Byt a) (i : Nat) : 0 ≤ a.getD i 0 ∧ a.getD i 0 < 256 := by
  rw [List.getD_eq_getElem?_getD]
  by_cases hi : i < a.length
  · rw [List.getElem?_eq_getElem hi]; exact h _ (List.getElem_mem hi)
  · rw [List.getElem?_eq_none (by omega)]; simp

/-- The slice '.slice A n c' reads in w as the bytes l. -/
structure Rd (w : World) (A : Option Addr) (n c : Nat) (l : List Int) : Prop where
  len : l.length = n
  cap : n ≤ c
  max : c ≤ 9223372036854775807
  byt : Byt l
  at_ : 0 < n → ∃ g o, A = some ⟨g, o, none⟩ ∧ ∀ j, j < n → w.cell? ⟨g, o + j, none⟩ = some (.int .u8 (l.getD j 0))

/-- All that a slice leads to lies outside S. -/
def Out (S : Nat → Prop) (A : Option Addr) : Prop := ∀ a, A = some a → ¬ S a.block
theorem Out.no (A : Option Addr) : Out no A := fun _ _ h => h
theorem Out.none (S : Nat → Prop) : Out S none := fun _ h => by cases h
/-- Below B. -/
def Lo (B : Nat) (A : Option Addr) : Prop := ∀ a, A = some a → a.block < B
theorem Lo.none (B : Nat) : Lo B none := fun _ h => by cases h
theorem Lo.mono {B B' : Nat} {A : Option Addr} (h : Lo B A) (hb : B ≤ B') : Lo B' A := fun a e => Nat.lt_of_lt_of_le (h a e) hb

theorem Rd.keep {S : Nat → Prop} {w w' : World} {A : Option Addr} {n c : Nat} {l : List Int} (h : Rd w A n c l) (k : Kp S w w') (hs : Out S A) : Rd w' A n c l :=
  ⟨h.len, h.cap, h.max, h.byt, fun hp => by
    obtain ⟨g, o, rfl, hc⟩ := h.at_ hp
    exact ⟨g, o, rfl, fun j hj => k.cell (hc j hj) (hs ⟨g, o, none⟩ rfl)⟩⟩
theorem Rd.keepN {w w' : World} {A : Option Addr} {n c : Nat} {l : List Int} (h : Rd w A n c l) (k : Kp no w w') : Rd w' A n c l := h.keep k (Out.no A)
theorem Rd.nil (w : World) : Rd w none 0 0 [] := ⟨rfl, Nat.le_refl _, by omega, Byt.nil, fun h => absurd h (by omega)⟩
theorem Rd.empty (w : World) (A : Option Addr) (c : Nat) (hc : c ≤ 9223372036854775807) : Rd w A 0 c [] := ⟨rfl, Nat.zero_le _, hc, Byt.nil, fun h => absurd h (by omega)⟩
theorem Rd.take {w : World} {A : Option Addr} {n c : Nat} {l : List Int} (h : Rd w A n c l) (m : Nat) (hm : m ≤ n) : Rd w A m c (l.take m) :=
  ⟨by rw [List.length_take, h.len]; omega, by have := h.cap; omega, h.max, h.byt.take m, fun hp => by
    obtain ⟨g, o, rfl, hc⟩ := h.at_ (by omega)
    exact ⟨g, o, rfl, fun j hj => by rw [hc j (by omega)]; simp [List.getD_eq_getElem?_getD, hj]⟩⟩
theorem Rd.drop {w : World} {A : Option Addr} {n c : Nat} {l : List Int} (h : Rd w A n c l) (m : Nat) (hm : m ≤ n) :
    Rd w (if c = m then A else A.map (·.add m)) (n - m) (c - m) (l.drop m) :=
  ⟨by rw [List.length_drop, h.len], by have := h.cap; omega, by have := h.max; omega, h.byt.drop m, fun hp => by
    obtain ⟨g, o, rfl, hc⟩ := h.at_ (by omega)
    have := h.cap
    rw [if_neg (by omega)]
    refine ⟨g, o + m, ?_, fun j hj => ?_⟩
    · by_cases h0 : m = 0
      · subst h0; simp [Addr.add]
      · simp [Addr.add, h0]
    · rw [show o + m + j = o + (m + j) from by omega, hc (m + j) (by omega)]
      simp [List.getD_eq_getElem?_getD, List.getElem?_drop]⟩
theorem sub_out {S : Nat → Prop} {A : Option Addr} {c m : Nat} (h : Out S A) : Out S (if c = m then A else A.map (·.add m)) := by
  intro a ha
  split at ha
  · exact h a ha
  · cases A with
    | none => cases ha
    | some x =>
      simp at ha
      subst ha
      have := h x rfl
      unfold Addr.add
      split <;> exact this
theorem sub_lo {B : Nat} {A : Option Addr} {c m : Nat} (h : Lo B A) : Lo B (if c = m then A else A.map (·.add m)) := by
  intro a ha
  have := sub_out (S := fun k => ¬ k < B) (c := c) (m := m) (A := A) (fun a e => not_not_intro (h a e)) a ha
  exact Classical.not_not.1 this

section
variable {P : Program} {t e : TypeId} {i : TypeInfo}
/-- 'x[lo:]' behind a letter. -/
theorem Rd.cutFrom {w : World} {A : Option Addr} {n c : Nat} {l : List Int} (h : Rd w A n c l) (ht : P.underlying t = some (.slice e)) (hi : (P.info? e).map (fun i => i.size) = some 1) (k : IntKind) (j : Int) (h0 : 0 ≤ j) (h1 : j ≤ n) :
    ∃ A', Rd w A' (n - j.toNat) (c - j.toNat) (l.drop j.toNat) ∧ (∀ S, Out S A → Out S A') ∧ (∀ B, Lo B A → Lo B A') ∧
      ∀ W : World, (Instr.slice t (.slice A n c) (some (.int k j)) none none).run P W = .ok (.slice A' (n - j.toNat) (c - j.toNat)) W := by
  obtain ⟨i, hi, hsz⟩ := Option.map_eq_some_iff.1 hi
  refine ⟨_, h.drop j.toNat (by omega), fun S => sub_out, fun B => sub_lo, fun W => ?_⟩
  have hel : P.elem t = e := by simp [Program.elem, ht]
  have hu : P.underlying t = some (.slice (P.elem t)) := by rw [hel]; exact ht
  rw [run_slice_l W t A n c hu k j h0 h1, hel]
  simp [sizeOf, typeInfo, hi, hsz, sliced, Result.andThen]
/-- 'x[:hi]' up to the length. -/
theorem cutTo (ht : P.underlying t = some (.slice e)) (hi : (P.info? e).map (fun i => i.size) = some 1) (A : Option Addr) (n c : Nat) (k : IntKind) (j : Int) (h0 : 0 ≤ j) (h1 : j ≤ n) (hc : n ≤ c) :
    ∀ W : World, (Instr.slice t (.slice A n c) none (some (.int k j)) none).run P W = .ok (.slice A j.toNat c) W := by
  intro W
  obtain ⟨i, hi, hsz⟩ := Option.map_eq_some_iff.1 hi
  have hel : P.elem t = e := by simp [Program.elem, ht]
  have hu : P.underlying t = some (.slice (P.elem t)) := by rw [hel]; exact ht
  have ha : (A.map fun x => x.add 0) = A := by cases A <;> simp [Addr.add]
  rw [run_slice_h W t A n c hu k j h0 (by omega), hel]
  simp [sizeOf, typeInfo, hi, sliced, Result.andThen, ha]
/-- 'x[lo:hi]' up to the length, behind a letter. -/
theorem Rd.cut {w : World} {A : Option Addr} {n c : Nat} {l : List Int} (h : Rd w A n c l) (ht : P.underlying t = some (.slice e)) (hi : (P.info? e).map (fun i => i.size) = some 1) (k k' : IntKind) (lo hi' : Int) (h0 : 0 ≤ lo) (h1 : lo ≤ hi') (h2 : hi' ≤ n) :
    ∃ A', Rd w A' (hi'.toNat - lo.toNat) (c - lo.toNat) ((l.take hi'.toNat).drop lo.toNat) ∧ (∀ S, Out S A → Out S A') ∧ (∀ B, Lo B A → Lo B A') ∧
      ∀ W : World, (Instr.slice t (.slice A n c) (some (.int k lo)) (some (.int k' hi')) none).run P W = .ok (.slice A' (hi'.toNat - lo.toNat) (c - lo.toNat)) W := by
  obtain ⟨i, hi, hsz⟩ := Option.map_eq_some_iff.1 hi
  refine ⟨_, (h.take hi'.toNat (by omega)).drop lo.toNat (by omega), fun S => sub_out, fun B => sub_lo, fun W => ?_⟩
  have hel : P.elem t = e := by simp [Program.elem, ht]
  have hu : P.underlying t = some (.slice (P.elem t)) := by rw [hel]; exact ht
  rw [run_slice_lh W t A n c hu k k' lo hi' h0 h1 (by have := h.cap; omega), hel]
  simp [sizeOf, typeInfo, hi, hsz, sliced, Result.andThen]
end

/-! ### Bytes of one's own -/
def nums (k : IntKind) (xs : List Int) : List Value := xs.map fun x => .int k x
theorem nums_length (k : IntKind) (xs : List Int) : (nums k xs).length = xs.length := by simp [nums]
theorem nums_append (k : IntKind) (xs ys : List Int) : nums k (xs ++ ys) = nums k xs ++ nums k ys := by simp [nums]

/-- v, made from block B on, owns its row of bytes l (e: the type of bytes). -/
structure Own (w : World) (e : TypeId) (B : Nat) (v : Value) (l : List Int) : Prop where
  row : w.ownsRow B e 1 v l.length (nums .u8 l)
  byt : Byt l
theorem Own.nil (w : World) (e : TypeId) (B : Nat) : Own w e B (.slice none 0 0) [] := ⟨⟨by simp [nums], .inl ⟨rfl, rfl⟩⟩, Byt.nil⟩
theorem Own.base {w : World} {e : TypeId} {B : Nat} {v : Value} {l : List Int} (h : Own w e B v l) (k : Nat) (hk : v.ownBlock = some k) : B ≤ k ∧ k < w.heap.size := h.row.lt k hk
theorem Own.lower {w : World} {e : TypeId} {B B' : Nat} {v : Value} {l : List Int} (h : Own w e B v l) (hb : B' ≤ B) : Own w e B' v l := by
  refine ⟨⟨h.row.1, ?_⟩, h.byt⟩
  rcases h.row.2 with h2 | ⟨g, cap, cur, hv, hg, r⟩
  · exact .inl h2
  · exact .inr ⟨g, cap, cur, hv, Nat.le_trans hb hg, r⟩
theorem Own.keep {S : Nat → Prop} {w w' : World} {e : TypeId} {B : Nat} {v : Value} {l : List Int} (h : Own w e B v l) (k : Kp S w w') (hn : ∀ b, v.ownBlock = some b → ¬ S b) : Own w' e B v l := by
  refine ⟨⟨h.row.1, ?_⟩, h.byt⟩
  rcases h.row.2 with h2 | ⟨g, cap, cur, hv, hg, hh, r⟩
  · exact .inl h2
  · exact .inr ⟨g, cap, cur, hv, hg, (k.block g (Array.getElem?_eq_some_iff.1 hh).1 (hn g (by rw [hv]; rfl))).trans hh, r⟩
theorem Own.keepN {w w' : World} {e : TypeId} {B : Nat} {v : Value} {l : List Int} (h : Own w e B v l) (k : Kp no w w') : Own w' e B v l := h.keep k fun _ _ h => h
/-- It is read. -/
theorem Own.rd {w : World} {e : TypeId} {B : Nat} {v : Value} {l : List Int} (h : Own w e B v l) : ∃ A c, v = .slice A l.length c ∧ Rd w A l.length c l ∧ (∀ a, A = some a → B ≤ a.block) ∧ Lo w.heap.size A := by
  rcases h.row.2 with ⟨rfl, h0⟩ | ⟨g, cap, cur, rfl, hb, hh, hnc, hcm, hsz, ht⟩
  · have : l = [] := List.eq_nil_of_length_eq_zero h0
    subst this
    exact ⟨none, 0, rfl, Rd.nil w, (fun a h => by cases h), Lo.none _⟩
  · have hcm' : cap ≤ 9223372036854775807 := by simpa [maxLen] using hcm
    refine ⟨some ⟨g, 0, none⟩, cap, rfl, ⟨rfl, hnc, hcm', h.byt, fun hp => ⟨g, 0, rfl, fun j hj => ?_⟩⟩, (fun a ha => by cases ha; exact hb), (fun a ha => by cases ha; exact (Array.getElem?_eq_some_iff.1 hh).1)⟩
    rw [Nat.zero_add, cell_of_row w g j cur e (0, 0) hh]
    have h1 : (cur.toList.take (l.length * 1))[j]? = (nums .u8 l)[j]? := by rw [ht]
    rw [List.getElem?_take, if_pos (by omega)] at h1
    have h2 : cur[j]? = (nums .u8 l)[j]? := by simpa using h1
    rw [h2]
    simp [nums, List.getD_eq_getElem?_getD, List.getElem?_eq_getElem hj]
end Go.Proofs.YtflafpklphgbpaaGreatDoor
