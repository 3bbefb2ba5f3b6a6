/- SHA2-256 of Go's library, plain: what its block, its Write and its Sum come to, over whatever keys its table holds. A digest of Go's library, plain: its cells, what Write makes of it. -/
import Derived.Test.YthdbchahmbcfeaaDoorShaP
import Derived.Test.YthdbchahmbcfeaaDoorAppend
import Derived.Laws.CopyOwn
namespace Go.Proofs.YthdbchahmbcfeaaDoor
open Go
set_option linter.unusedVariables false
set_option linter.unusedSimpArgs false
set_option maxRecDepth 100000

def rotl (x : Int) (s : Nat) : Int := bits .or .u32 (x * 2 ^ s % 4294967296) (x / 2 ^ (32 - s))
def ig0 (x : Int) : Int := xo (xo (rotl x 25) (rotl x 14)) (x / 8)
def ig1 (x : Int) : Int := xo (xo (rotl x 15) (rotl x 13)) (x / 1024)
def inW (w2 w7 w15 w16 : Int) : Int := (ig1 w2 + w7 + ig0 w15 + w16) % 4294967296
def inOne (e f g h k w : Int) : Int := (h + xo (xo (rotl e 26) (rotl e 21)) (rotl e 7) + xo (an e f) (an (xo 4294967295 e) g) + k + w) % 4294967296
def inTwo (a b c : Int) : Int := (xo (xo (rotl a 30) (rotl a 19)) (rotl a 10) + xo (xo (an a b) (an a c)) (an b c)) % 4294967296
/-- The words of a block, as far as i. -/
def iwl (l : List Int) : Nat → List Int
  | 0 => []
  | i + 1 => iwl l i ++ [if i < 16 then word4 (l.getD (4 * i) 0) (l.getD (4 * i + 1) 0) (l.getD (4 * i + 2) 0) (l.getD (4 * i + 3) 0)
      else inW ((iwl l i).getD (i - 2) 0) ((iwl l i).getD (i - 7) 0) ((iwl l i).getD (i - 15) 0) ((iwl l i).getD (i - 16) 0)]
theorem iwl_length (l : List Int) : ∀ i, (iwl l i).length = i
  | 0 => rfl
  | i + 1 => by simp [iwl, iwl_length l i]
def iwn (l : List Int) (j : Nat) : Int := (iwl l (j + 1)).getD j 0
theorem iwl_get (l : List Int) : ∀ (i j : Nat), j < i → (iwl l i).getD j 0 = iwn l j
  | 0, j, h => by omega
  | i + 1, j, h => by
    rcases Nat.lt_or_ge j i with hj | hj
    · rw [← iwl_get l i j hj]
      simp only [iwl]
      rw [List.getD_eq_getElem?_getD, List.getElem?_append_left (by rw [iwl_length]; exact hj), List.getD_eq_getElem?_getD]
    · obtain rfl : j = i := by omega
      rfl
theorem iwn_eq (l : List Int) (i : Nat) : iwn l i = if i < 16 then word4 (l.getD (4 * i) 0) (l.getD (4 * i + 1) 0) (l.getD (4 * i + 2) 0) (l.getD (4 * i + 3) 0)
      else inW ((iwl l i).getD (i - 2) 0) ((iwl l i).getD (i - 7) 0) ((iwl l i).getD (i - 15) 0) ((iwl l i).getD (i - 16) 0) := getD_snoc _ _ (iwl_length l i)
theorem iwn_lo (l : List Int) {i : Nat} (h : i < 16) : iwn l i = word4 (l.getD (4 * i) 0) (l.getD (4 * i + 1) 0) (l.getD (4 * i + 2) 0) (l.getD (4 * i + 3) 0) := by
  rw [iwn_eq, if_pos h]
theorem iwn_hi (l : List Int) {i : Nat} (h : 16 ≤ i) : iwn l i = inW (iwn l (i - 2)) (iwn l (i - 7)) (iwn l (i - 15)) (iwn l (i - 16)) := by
  rw [iwn_eq, if_neg (by omega), iwl_get l i (i - 16) (by omega), iwl_get l i (i - 7) (by omega), iwl_get l i (i - 15) (by omega), iwl_get l i (i - 2) (by omega)]
/-- The row of words: as far as i those of l. -/
def Words (l : List Int) (i : Nat) (L : List Int) : Prop := L.length = 64 ∧ ∀ j, j < i → L.getD j 0 = iwn l j
theorem Words.zero {l L : List Int} (h : L.length = 64) : Words l 0 L := ⟨h, fun j hj => by omega⟩
theorem Words.set {l L : List Int} {i : Nat} (h : Words l i L) (hi : i < 64) : Words l (i + 1) (L.set i (iwn l i)) := by
  refine ⟨by rw [List.length_set]; exact h.1, fun j hj => ?_⟩
  rw [List.getD_eq_getElem?_getD, List.getElem?_set]
  by_cases hj2 : i = j
  · subst hj2; rw [if_pos rfl, if_pos (by have := h.1; omega)]; rfl
  · rw [if_neg hj2, ← List.getD_eq_getElem?_getD]; exact h.2 j (by omega)
/-- One round. -/
def irnd (V : List Int) (k w : Int) : List Int :=
  [(inOne (V.getD 4 0) (V.getD 5 0) (V.getD 6 0) (V.getD 7 0) k w + inTwo (V.getD 0 0) (V.getD 1 0) (V.getD 2 0)) % 4294967296, V.getD 0 0, V.getD 1 0, V.getD 2 0,
   (V.getD 3 0 + inOne (V.getD 4 0) (V.getD 5 0) (V.getD 6 0) (V.getD 7 0) k w) % 4294967296, V.getD 4 0, V.getD 5 0, V.getD 6 0]
def irnds (K H l : List Int) : Nat → List Int
  | 0 => H
  | i + 1 => irnd (irnds K H l i) (K.getD i 0) (iwn l i)
theorem irnds_length {K H l : List Int} (h : H.length = 8) : ∀ i, (irnds K H l i).length = 8
  | 0 => h
  | i + 1 => rfl
/-- Eight words behind a block; behind n blocks. -/
def iblk (K H l : List Int) : List Int := addW H (irnds K H l 64)
theorem iblk_length {K H : List Int} (l : List Int) (h : H.length = 8) : (iblk K H l).length = 8 := addW_length h (irnds_length h 64)
def iblks (K H b : List Int) : Nat → List Int
  | 0 => H
  | n + 1 => iblks K (iblk K H (b.take 64)) (b.drop 64) n
theorem iblks_length {K : List Int} : ∀ {H : List Int} (b : List Int) (n : Nat), H.length = 8 → (iblks K H b n).length = 8
  | H, b, 0, h => h
  | H, b, n + 1, h => iblks_length _ n (iblk_length _ h)
/-- The state of a digest: the words, the bytes at hand, how many of them count, how many came in all. -/
structure DS where
  H : List Int
  X : List Int
  nx : Nat
  len : Nat
structure DS.Ok (s : DS) : Prop where
  h : s.H.length = 8
  x : s.X.length = 64
  b : Byt s.X
  n : s.nx ≤ 64
/-- What Write makes of it. -/
def wr1 (K : List Int) (s : DS) (p : List Int) : DS :=
  if s.nx = 0 then ⟨s.H, s.X, 0, s.len⟩
  else if s.nx + min (64 - s.nx) p.length = 64 then ⟨iblk K s.H (s.X.take s.nx ++ p.take (min (64 - s.nx) p.length) ++ s.X.drop (s.nx + min (64 - s.nx) p.length)), s.X.take s.nx ++ p.take (min (64 - s.nx) p.length) ++ s.X.drop (s.nx + min (64 - s.nx) p.length), 0, s.len⟩
  else ⟨s.H, s.X.take s.nx ++ p.take (min (64 - s.nx) p.length) ++ s.X.drop (s.nx + min (64 - s.nx) p.length), s.nx + min (64 - s.nx) p.length, s.len⟩
def cutN (s : DS) (p : List Int) : Nat := if s.nx = 0 then 0 else min (64 - s.nx) p.length
def wr2 (K : List Int) (s : DS) (p : List Int) : DS := ⟨iblks K s.H p (p.length / 64), s.X, s.nx, s.len⟩
def wr3 (s : DS) (p : List Int) : DS := if p.length = 0 then s else ⟨s.H, p ++ s.X.drop p.length, p.length, s.len⟩
def wrF (K : List Int) (s : DS) (p : List Int) : DS :=
  wr3 (wr2 K (wr1 K ⟨s.H, s.X, s.nx, s.len + p.length⟩ p) (p.drop (cutN s p))) ((p.drop (cutN s p)).drop (64 * ((p.drop (cutN s p)).length / 64)))
/-- The bytes of padding: how many ahead of the length. -/
def padT (n : Nat) : Nat := if n % 64 < 56 then 56 - n % 64 else 120 - n % 64
def padI (n : Nat) : List Int := (128 :: List.replicate (padT n - 1) 0) ++ be8 (n * 8)
def sumF (K : List Int) (s : DS) : List Int := outF (wrF K s (padI s.len)).H
def ds0 : DS := ⟨shaH, List.replicate 64 0, 0, 0⟩
/-- SHA2-256, over whatever keys. -/
def sha256F (K l : List Int) : List Int := sumF K (wrF K ds0 l)
theorem sha256F_length (K l : List Int) : (sha256F K l).length = 32 := outF_length _
theorem sha256F_byt (K l : List Int) : Byt (sha256F K l) := outF_byt _
end Go.Proofs.YthdbchahmbcfeaaDoor
namespace Go.Proofs.YthdbchahmbcfeaaDoor
open Go Go.RowKit
set_option linter.unusedVariables false
set_option linter.unusedSimpArgs false
set_option maxRecDepth 100000

theorem DS.Ok.wr1 {K : List Int} {s : DS} {p : List Int} (h : s.Ok) (hp : Byt p) : (wr1 K s p).Ok := by
  have hx := h.x; have hn := h.n
  have hl : (s.X.take s.nx ++ p.take (min (64 - s.nx) p.length) ++ s.X.drop (s.nx + min (64 - s.nx) p.length)).length = 64 := by simp; omega
  have hb : Byt (s.X.take s.nx ++ p.take (min (64 - s.nx) p.length) ++ s.X.drop (s.nx + min (64 - s.nx) p.length)) := ((h.b.take _).app (hp.take _)).app (h.b.drop _)
  unfold Proofs.YthdbchahmbcfeaaDoor.wr1
  split
  · exact ⟨h.h, h.x, h.b, by show 0 ≤ 64; omega⟩
  · split
    · exact ⟨iblk_length _ h.h, hl, hb, by show 0 ≤ 64; omega⟩
    · exact ⟨h.h, hl, hb, by show s.nx + min (64 - s.nx) p.length ≤ 64; omega⟩
theorem DS.Ok.wr2 {K : List Int} {s : DS} {p : List Int} (h : s.Ok) : (wr2 K s p).Ok := ⟨iblks_length _ _ h.h, h.x, h.b, h.n⟩
theorem DS.Ok.wr3 {s : DS} {p : List Int} (h : s.Ok) (hp : Byt p) (hl : p.length ≤ 64) : (wr3 s p).Ok := by
  have hx := h.x
  unfold Proofs.YthdbchahmbcfeaaDoor.wr3
  split
  · exact h
  · exact ⟨h.h, by simp; omega, hp.app (h.b.drop _), hl⟩
theorem DS.Ok.wrF {K : List Int} {s : DS} {p : List Int} (h : s.Ok) (hp : Byt p) : (wrF K s p).Ok := by
  have h0 : DS.Ok ⟨s.H, s.X, s.nx, s.len + p.length⟩ := ⟨h.h, h.x, h.b, h.n⟩
  unfold Proofs.YthdbchahmbcfeaaDoor.wrF
  exact ((h0.wr1 hp).wr2).wr3 ((hp.drop _).drop _) (by rw [List.length_drop, List.length_drop]; omega)
theorem ds0_ok : ds0.Ok := ⟨rfl, rfl, fun x hx => by have := List.eq_of_mem_replicate hx; omega, by decide⟩

/-- The cells of a digest. -/
def dgT (X : List Int) (nx ln : Nat) : List Value := nums .u8 X ++ [.int .i64 nx, .int .u64 ln, .bool false]
def dgC (s : DS) : List Value := nums .u32 s.H ++ dgT s.X s.nx s.len
theorem dgC_len {s : DS} (h : s.Ok) : (dgC s).length = 75 := by
  have := h.h; have := h.x
  simp [dgC, dgT, nums_length]; omega
theorem dgC_nx {s : DS} (h : s.Ok) : (dgC s)[72]? = some (.int .i64 s.nx) := by
  have h1 := h.h; have h2 := h.x
  unfold dgC dgT
  rw [List.getElem?_append_right (by rw [nums_length]; omega), List.getElem?_append_right (by rw [nums_length, nums_length]; omega), nums_length, nums_length, h1, h2]; rfl
theorem dgC_ln {s : DS} (h : s.Ok) : (dgC s)[73]? = some (.int .u64 s.len) := by
  have h1 := h.h; have h2 := h.x
  unfold dgC dgT
  rw [List.getElem?_append_right (by rw [nums_length]; omega), List.getElem?_append_right (by rw [nums_length, nums_length]; omega), nums_length, nums_length, h1, h2]; rfl
theorem dgC_is {s : DS} (h : s.Ok) : (dgC s)[74]? = some (.bool false) := by
  have h1 := h.h; have h2 := h.x
  unfold dgC dgT
  rw [List.getElem?_append_right (by rw [nums_length]; omega), List.getElem?_append_right (by rw [nums_length, nums_length]; omega), nums_length, nums_length, h1, h2]; rfl
theorem dgC_h {s : DS} (h : s.Ok) (i : Nat) (hi : i < 8) : (dgC s)[i]? = some (.int .u32 (s.H.getD i 0)) := by
  have h1 := h.h
  unfold dgC
  rw [List.getElem?_append_left (by rw [nums_length]; omega)]
  simp [nums, List.getD_eq_getElem?_getD, List.getElem?_eq_getElem (show i < s.H.length by omega)]
theorem dgC_x {s : DS} (h : s.Ok) (i : Nat) (hi : i < 64) : (dgC s)[8 + i]? = some (.int .u8 (s.X.getD i 0)) := by
  have h1 := h.h; have h2 := h.x
  unfold dgC dgT
  rw [List.getElem?_append_right (by rw [nums_length]; omega), List.getElem?_append_left (by rw [nums_length, nums_length]; omega), nums_length, h1, show 8 + i - 8 = i from by omega]
  simp [nums, List.getD_eq_getElem?_getD, List.getElem?_eq_getElem (show i < s.X.length by omega)]
theorem kput {w w1 : World} {g : Nat} (k : Kp (· = g) w w1) (i : Nat) (u : Value) : Kp (· = g) w (w1.setCell ⟨g, i, none⟩ u) := k.setCell (p := ⟨g, i, none⟩) (fun _ => rfl) u
/-- A digest lies at g. -/
structure Dg (w : World) (g : Nat) (s : DS) : Prop where
  blk : Blk w g (dgC s).toArray 124
  ok : s.Ok
theorem Dg.cell {w : World} {g : Nat} {s : DS} (h : Dg w g s) (i : Nat) : w.cell? ⟨g, i, none⟩ = (dgC s)[i]? := by
  rw [h.blk.cell i, List.getElem?_toArray]
theorem Dg.nx {w : World} {g : Nat} {s : DS} (h : Dg w g s) : w.cell? ⟨g, 72, none⟩ = some (.int .i64 s.nx) := by rw [h.cell, dgC_nx h.ok]
theorem Dg.ln {w : World} {g : Nat} {s : DS} (h : Dg w g s) : w.cell? ⟨g, 73, none⟩ = some (.int .u64 s.len) := by rw [h.cell, dgC_ln h.ok]
theorem Dg.is {w : World} {g : Nat} {s : DS} (h : Dg w g s) : w.cell? ⟨g, 74, none⟩ = some (.bool false) := by rw [h.cell, dgC_is h.ok]
theorem Dg.h {w : World} {g : Nat} {s : DS} (h : Dg w g s) (i : Nat) (hi : i < 8) : w.cell? ⟨g, i, none⟩ = some (.int .u32 (s.H.getD i 0)) := by rw [h.cell, dgC_h h.ok i hi]
theorem Dg.free {w : World} {g : Nat} {s : DS} (h : Dg w g s) (i : Nat) : w.frozen? ⟨g, i, none⟩ = false := h.blk.free i
theorem Dg.lt {w : World} {g : Nat} {s : DS} (h : Dg w g s) : g < w.heap.size := h.blk.lt
theorem Dg.keep {S : Nat → Prop} {w w' : World} {g : Nat} {s : DS} (h : Dg w g s) (k : Kp S w w') (hn : ¬ S g) : Dg w' g s := ⟨h.blk.keep k hn, h.ok⟩
theorem Dg.keepN {w w' : World} {g : Nat} {s : DS} (h : Dg w g s) (k : Kp no w w') : Dg w' g s := ⟨h.blk.keepN k, h.ok⟩
theorem Dg.rd {w : World} {g : Nat} {s : DS} (h : Dg w g s) : Rd w (some ⟨g, 8, none⟩) 64 64 s.X :=
  ⟨h.ok.x, Nat.le_refl _, by omega, h.ok.b, fun _ => ⟨g, 8, rfl, fun j hj => by rw [h.cell, dgC_x h.ok j hj]⟩⟩
theorem set_lists (A B : List Value) (v0 v1 v2 u : Value) (n : Nat) (ha : A.length + B.length = n) :
    (A ++ (B ++ [v0, v1, v2])).toArray.setIfInBounds n u = (A ++ (B ++ [u, v1, v2])).toArray ∧ (A ++ (B ++ [v0, v1, v2])).toArray.setIfInBounds (n + 1) u = (A ++ (B ++ [v0, u, v2])).toArray := by
  constructor
  · apply Array.toList_inj.1
    rw [Array.toList_setIfInBounds, List.toList_toArray, List.toList_toArray, List.set_append_right _ _ (by omega), List.set_append_right _ _ (by omega), show n - A.length - B.length = 0 from by omega]; rfl
  · apply Array.toList_inj.1
    rw [Array.toList_setIfInBounds, List.toList_toArray, List.toList_toArray, List.set_append_right _ _ (by omega), List.set_append_right _ _ (by omega), show n + 1 - A.length - B.length = 1 from by omega]; rfl
theorem Dg.setNx {w : World} {g : Nat} {s : DS} (h : Dg w g s) (m : Nat) (hm : m ≤ 64) : Dg (w.setCell ⟨g, 72, none⟩ (.int .i64 m)) g ⟨s.H, s.X, m, s.len⟩ := by
  refine ⟨?_, ⟨h.ok.h, h.ok.x, h.ok.b, hm⟩⟩
  have := h.blk.set 72 (.int .i64 m)
  unfold dgC dgT at this
  rw [(set_lists _ _ _ _ _ _ 72 (by rw [nums_length, nums_length, h.ok.h, h.ok.x])).1] at this
  exact this
theorem Dg.setLn {w : World} {g : Nat} {s : DS} (h : Dg w g s) (m : Nat) {v : Value} (hv : v = .int .u64 m) : Dg (w.setCell ⟨g, 73, none⟩ v) g ⟨s.H, s.X, s.nx, m⟩ := by
  subst hv
  refine ⟨?_, ⟨h.ok.h, h.ok.x, h.ok.b, h.ok.n⟩⟩
  have := h.blk.set 73 (.int .u64 m)
  unfold dgC dgT at this
  rw [(set_lists _ _ _ _ _ _ 72 (by rw [nums_length, nums_length, h.ok.h, h.ok.x])).2] at this
  exact this
/-- Bytes laid over the digest's own, from the place k on. -/
theorem dg_splice {s : DS} (h : s.Ok) (k : Nat) (l : List Int) (hk : k + l.length ≤ 64) : splice (dgC s) (8 + k) (nums .u8 l) = nums .u32 s.H ++ dgT (s.X.take k ++ l ++ s.X.drop (k + l.length)) s.nx s.len := by
  have h1 := h.h; have h2 := h.x
  unfold splice dgC dgT
  rw [nums_length]
  have e1 : (nums .u32 s.H ++ (nums .u8 s.X ++ [Value.int .i64 (s.nx : Int), Value.int .u64 (s.len : Int), Value.bool false])).take (8 + k) = nums .u32 s.H ++ nums .u8 (s.X.take k) := by
    rw [show 8 + k = (nums .u32 s.H).length + k from by rw [nums_length, h1], List.take_length_add_append, List.take_append_of_le_length (by rw [nums_length]; omega)]
    simp [nums]
  have e2 : (nums .u32 s.H ++ (nums .u8 s.X ++ [Value.int .i64 (s.nx : Int), Value.int .u64 (s.len : Int), Value.bool false])).drop (8 + k + l.length) = nums .u8 (s.X.drop (k + l.length)) ++ [Value.int .i64 (s.nx : Int), Value.int .u64 (s.len : Int), Value.bool false] := by
    rw [show 8 + k + l.length = (nums .u32 s.H).length + (k + l.length) from by rw [nums_length, h1]; omega, List.drop_length_add_append, List.drop_append_of_le_length (by rw [nums_length]; omega)]
    simp [nums]
  rw [e1, e2]
  simp [nums]

theorem Dg.setNxTo {w : World} {g : Nat} {s : DS} (h : Dg w g s) (m : Nat) (hm : m ≤ 64) {v : Value} (hv : v = .int .i64 m) : Dg (w.setCell ⟨g, 72, none⟩ v) g ⟨s.H, s.X, m, s.len⟩ := by
  subst hv; exact h.setNx m hm
theorem wr1_some {K : List Int} {s : DS} {p X2 : List Int} {k : Nat} (h0 : ¬ s.nx = 0) (hk : k = min p.length (64 - s.nx)) (hX : X2 = s.X.take s.nx ++ p.take k ++ s.X.drop (s.nx + k)) :
    cutN s p = k ∧ (s.nx + k = 64 → wr1 K s p = ⟨iblk K s.H X2, X2, 0, s.len⟩) ∧ (¬ s.nx + k = 64 → wr1 K s p = ⟨s.H, X2, s.nx + k, s.len⟩) := by
  have e : min (64 - s.nx) p.length = k := by omega
  unfold cutN wr1
  rw [if_neg h0, if_neg h0, e, ← hX]
  exact ⟨rfl, fun h => by rw [if_pos h], fun h => by rw [if_neg h]⟩
theorem iblks_take (K : List Int) : ∀ (m : Nat) (H l : List Int), iblks K H (l.take (64 * m)) m = iblks K H l m
  | 0, H, l => rfl
  | m + 1, H, l => by
    show iblks K (iblk K H ((l.take (64 * (m + 1))).take 64)) ((l.take (64 * (m + 1))).drop 64) m = iblks K (iblk K H (l.take 64)) (l.drop 64) m
    rw [List.take_take, show min 64 (64 * (m + 1)) = 64 from by omega, List.drop_take, show 64 * (m + 1) - 64 = 64 * m from by omega]
    exact iblks_take K m _ _
theorem iblks_one {K H X : List Int} (h : X.length = 64) : iblks K H X 1 = iblk K H X := by
  show iblk K H (X.take 64) = _
  rw [List.take_of_length_le (by omega)]

section
variable {P : Program} {ops : Array Oper} {rest : List Oper} {o : Oper} {a : Act} {Q : Exit → Act → World → Prop}
theorem Kp.setRow {S : Nat → Prop} {w0 w : World} (h : Kp S w0 w) {g : Nat} (hg : g < w0.heap.size → S g) (cs : Array Value) : Kp S w0 (w.setRow g cs) :=
  ⟨h.os, h.tape, h.output, by have := h.size; simpa [World.setRow] using this, fun k hk hn => (setRow_other w g k cs (fun e => hn (by subst e; exact hg hk))).trans (h.block k hk hn)⟩
/-- 'copy(d, s)' into a block that is known whole. -/
theorem copy_blk {W : World} (hgd : o.guard = none) (d s : Operand) (dT sT : TypeId)
    (ho : o.op = .call { callee := .builtin .copy, args := #[d, s], argTypes := #[dT, sT] }) (elem : TypeId) (hu : P.underlying dT = some (.slice elem)) (hsz : (P.info? elem).map (·.size) = some 1)
    (g off dLen dCap : Nat) (hd : a.eval d = .slice (some ⟨g, off, none⟩) dLen dCap) (A : Option Addr) (n c : Nat) (hs : a.eval s = .slice A n c) (l : List Int) (hR : Rd W A n c l)
    (cur : List Value) (t : TypeId) (hb : Blk W g cur.toArray t) (hfit : off + dLen ≤ cur.length) (k : Nat) (hk : k = min n dLen)
    (h : ∀ w', Hid (Blk w' g (splice cur off (nums .u8 (l.take k))).toArray t) → Kp (· = g) W w' → wpList P ops Q rest (a.put o.dst (.int .i64 (k : Int))) w') : wpList P ops Q (o :: rest) a W := by
  have hl := hR.len
  have hcl : (nums .u8 (l.take k)).length = k := by rw [nums_length, List.length_take]; omega
  by_cases h0 : k = 0
  · refine wpList_copy_nothing hgd d s dT sT ho elem hu hsz _ A dLen dCap n c hd hs (by first | omega | (have : Nat.min n dLen = min n dLen := rfl; omega)) ?_
    subst h0
    have := h W (show Blk _ _ _ _ by simpa [splice, nums] using hb) (Kp.refl _ _)
    exact this
  · obtain ⟨g', o', rfl, hc⟩ := hR.at_ (by omega)
    have hrow := wpList_copy_own (P := P) (w := W) (ops := ops) (rest := rest) (Q := Q) hgd d s dT sT ho elem hu hsz g off dLen dCap ⟨g', o', none⟩ n c hd hs cur.toArray t hb (nums .u8 (l.take k)) (by rw [hcl, hk])
      (by
        intro j u hu
        have hj : j < k := by
          rcases Nat.lt_or_ge j k with h | h
          · exact h
          · rw [List.getElem?_eq_none (by omega)] at hu; cases hu
        rw [hR.plus j (by omega), ← hu]
        simp [nums, List.getElem?_take, hj, List.getD_eq_getElem?_getD, List.getElem?_eq_getElem (show j < l.length by omega)])
      (by rw [hcl]; simp; omega) (by intro u hu; simp only [nums, List.mem_map] at hu; obtain ⟨q, _, rfl⟩ := hu; rfl)
    refine hrow ?_
    rw [hcl]
    refine h _ (show Blk _ _ _ _ from ?_) (Kp.setRow (S := (· = g)) (Kp.refl _ W) (fun _ => rfl) _)
    have := setRow_heap W g cur.toArray (splice cur off (nums .u8 (l.take k))).toArray t (0, 0) hb
    simpa [splice, Blk, hcl] using this
end
end Go.Proofs.YthdbchahmbcfeaaDoor
