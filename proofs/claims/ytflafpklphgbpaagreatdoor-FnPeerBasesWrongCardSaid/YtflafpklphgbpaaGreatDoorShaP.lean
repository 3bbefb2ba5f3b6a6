/- SHA2-256, plain: what a block and a message come to. -/
import Derived.Test.YtflafpklphgbpaaGreatDoorBase
namespace Go.Proofs.YtflafpklphgbpaaGreatDoor
open Go
set_option linter.unusedVariables false
set_option linter.unusedSimpArgs false
set_option maxRecDepth 100000

def turn (x n : Int) : Int := bits .or .u32 (x / 2 ^ n.toNat) (x * 2 ^ (32 - n).toNat % 4294967296)
def xo (a b : Int) : Int := bits .xor .u32 a b
def an (a b : Int) : Int := bits .and .u32 a b
def sg0 (x : Int) : Int := xo (xo (turn x 7) (turn x 18)) (x / 8)
def sg1 (y : Int) : Int := xo (xo (turn y 17) (turn y 19)) (y / 1024)
def bg0 (a : Int) : Int := xo (xo (turn a 2) (turn a 13)) (turn a 22)
def bg1 (e : Int) : Int := xo (xo (turn e 6) (turn e 11)) (turn e 25)
def chf (e f g : Int) : Int := xo (an e f) (an (xo 4294967295 e) g)
def maj (a b c : Int) : Int := xo (xo (an a b) (an a c)) (an b c)
def nextW (a b x y : Int) : Int := (a + b + sg0 x + sg1 y) % 4294967296
def shaOne (e f g h k w : Int) : Int := (h + bg1 e + chf e f g + k + w) % 4294967296
def shaTwo (a b c : Int) : Int := (bg0 a + maj a b c) % 4294967296
def rnd (V : List Int) (k w : Int) : List Int :=
  [(shaOne (V.getD 4 0) (V.getD 5 0) (V.getD 6 0) (V.getD 7 0) k w + shaTwo (V.getD 0 0) (V.getD 1 0) (V.getD 2 0)) % 4294967296, V.getD 0 0, V.getD 1 0, V.getD 2 0,
   (V.getD 3 0 + shaOne (V.getD 4 0) (V.getD 5 0) (V.getD 6 0) (V.getD 7 0) k w) % 4294967296, V.getD 4 0, V.getD 5 0, V.getD 6 0]
def word4 (y0 y1 y2 y3 : Int) : Int := bits .or .u32 (bits .or .u32 (bits .or .u32 (y0 * 16777216 % 4294967296) (y1 * 65536 % 4294967296)) (y2 * 256 % 4294967296)) y3
/-- The words of a block, as far as i. -/
def wl (l : List Int) : Nat → List Int
  | 0 => []
  | i + 1 => wl l i ++ [if i < 16 then word4 (l.getD (4 * i) 0) (l.getD (4 * i + 1) 0) (l.getD (4 * i + 2) 0) (l.getD (4 * i + 3) 0)
      else nextW ((wl l i).getD (i - 16) 0) ((wl l i).getD (i - 7) 0) ((wl l i).getD (i - 15) 0) ((wl l i).getD (i - 2) 0)]
theorem wl_length (l : List Int) : ∀ i, (wl l i).length = i
  | 0 => rfl
  | i + 1 => by simp [wl, wl_length l i]
def wn (l : List Int) (j : Nat) : Int := (wl l (j + 1)).getD j 0
theorem wl_get (l : List Int) : ∀ (i j : Nat), j < i → (wl l i).getD j 0 = wn l j
  | 0, j, h => by omega
  | i + 1, j, h => by
    rcases Nat.lt_or_ge j i with hj | hj
    · rw [← wl_get l i j hj]
      simp only [wl]
      rw [List.getD_eq_getElem?_getD, List.getElem?_append_left (by rw [wl_length]; exact hj), List.getD_eq_getElem?_getD]
    · obtain rfl : j = i := by omega
      rfl
theorem getD_snoc (p : List Int) (v : Int) {i : Nat} (h : p.length = i) : (p ++ [v]).getD i 0 = v := by
  subst h
  rw [List.getD_eq_getElem?_getD, List.getElem?_append_right (Nat.le_refl _)]; simp
theorem wn_eq (l : List Int) (i : Nat) : wn l i = if i < 16 then word4 (l.getD (4 * i) 0) (l.getD (4 * i + 1) 0) (l.getD (4 * i + 2) 0) (l.getD (4 * i + 3) 0)
      else nextW ((wl l i).getD (i - 16) 0) ((wl l i).getD (i - 7) 0) ((wl l i).getD (i - 15) 0) ((wl l i).getD (i - 2) 0) := getD_snoc _ _ (wl_length l i)
theorem wl_next (l : List Int) (i : Nat) : (wl l (i + 1)) = wl l i ++ [wn l i] := by
  rw [wn_eq]
  simp only [wl]
theorem wn_lo (l : List Int) {i : Nat} (h : i < 16) : wn l i = word4 (l.getD (4 * i) 0) (l.getD (4 * i + 1) 0) (l.getD (4 * i + 2) 0) (l.getD (4 * i + 3) 0) := by
  rw [wn_eq, if_pos h]
theorem wn_hi (l : List Int) {i : Nat} (h : 16 ≤ i) : wn l i = nextW (wn l (i - 16)) (wn l (i - 7)) (wn l (i - 15)) (wn l (i - 2)) := by
  rw [wn_eq, if_neg (by omega), wl_get l i (i - 16) (by omega), wl_get l i (i - 7) (by omega), wl_get l i (i - 15) (by omega), wl_get l i (i - 2) (by omega)]
/-- The row of words, as far as i. -/
def wrow (l : List Int) (i : Nat) : List Int := wl l i ++ List.replicate (64 - i) 0
theorem wrow_length (l : List Int) {i : Nat} (h : i ≤ 64) : (wrow l i).length = 64 := by simp [wrow, wl_length]; omega
theorem wrow_get (l : List Int) {i j : Nat} (h : j < i) : (wrow l i).getD j 0 = wn l j := by
  rw [← wl_get l i j h]
  unfold wrow
  rw [List.getD_eq_getElem?_getD, List.getElem?_append_left (by rw [wl_length]; exact h), List.getD_eq_getElem?_getD]
theorem wrow_set (l : List Int) {i : Nat} (h : i < 64) : (wrow l i).set i (wn l i) = wrow l (i + 1) := by
  unfold wrow
  rw [wl_next, List.set_append_right _ _ (by rw [wl_length]; exact Nat.le_refl _), wl_length, Nat.sub_self, show 64 - i = (64 - (i + 1)) + 1 from by omega, List.replicate_succ]
  simp
/-- The eight words, as they turn. -/
def rnds (H l : List Int) (K : List Int) : Nat → List Int
  | 0 => H
  | i + 1 => rnd (rnds H l K i) (K.getD i 0) (wn l i)
theorem rnds_length {H l K : List Int} (h : H.length = 8) : ∀ i, (rnds H l K i).length = 8
  | 0 => h
  | i + 1 => rfl
/-- A prefix of one row, the rest of another. -/
theorem mix_length {A B : List Int} {n i : Nat} (hA : A.length = n) (hB : B.length = n) (hi : i ≤ n) : (A.take i ++ B.drop i).length = n := by simp; omega
theorem mix_get {A B : List Int} {n i : Nat} (hA : A.length = n) (hB : B.length = n) (hi : i < n) : (A.take i ++ B.drop i).getD i 0 = B.getD i 0 := by
  rw [List.getD_eq_getElem?_getD, List.getElem?_append_right (by simp; omega), List.getD_eq_getElem?_getD]
  simp
  rw [show min i A.length = i from by omega, Nat.sub_self, Nat.add_zero]
theorem mix_set {A B : List Int} {n i : Nat} (hA : A.length = n) (hB : B.length = n) (hi : i < n) : (A.take i ++ B.drop i).set i (A.getD i 0) = A.take (i + 1) ++ B.drop (i + 1) := by
  rw [List.set_append_right _ _ (by simp; omega), List.take_succ_eq_append_getElem (by omega), List.append_assoc]
  congr 1
  rw [show i - (A.take i).length = 0 from by simp; omega, List.drop_eq_getElem_cons (show i < B.length by omega), List.set_cons_zero]
  simp [List.getD_eq_getElem?_getD, List.getElem?_eq_getElem (show i < A.length by omega)]
def addW (H V : List Int) : List Int := List.zipWith (fun a b => (a + b) % 4294967296) H V
theorem addW_length {H V : List Int} (h : H.length = 8) (k : V.length = 8) : (addW H V).length = 8 := by simp [addW, h, k]
theorem addW_get {H V : List Int} (h : H.length = 8) (k : V.length = 8) {i : Nat} (hi : i < 8) : (addW H V).getD i 0 = (H.getD i 0 + V.getD i 0) % 4294967296 := by
  unfold addW
  rw [List.getD_eq_getElem?_getD, List.getElem?_zipWith, List.getElem?_eq_getElem (by omega), List.getElem?_eq_getElem (by omega)]
  simp [List.getD_eq_getElem?_getD, List.getElem?_eq_getElem (show i < H.length by omega), List.getElem?_eq_getElem (show i < V.length by omega)]
/-- The keys. -/
def shaK : List Int := [1116352408, 1899447441, 3049323471, 3921009573, 961987163, 1508970993, 2453635748, 2870763221, 3624381080, 310598401, 607225278, 1426881987, 1925078388, 2162078206, 2614888103, 3248222580, 3835390401, 4022224774, 264347078, 604807628, 770255983, 1249150122, 1555081692, 1996064986, 2554220882, 2821834349, 2952996808, 3210313671, 3336571891, 3584528711, 113926993, 338241895, 666307205, 773529912, 1294757372, 1396182291, 1695183700, 1986661051, 2177026350, 2456956037, 2730485921, 2820302411, 3259730800, 3345764771, 3516065817, 3600352804, 4094571909, 275423344, 430227734, 506948616, 659060556, 883997877, 958139571, 1322822218, 1537002063, 1747873779, 1955562222, 2024104815, 2227730452, 2361852424, 2428436474, 2756734187, 3204031479, 3329325298]
/-- Eight words behind a block. -/
def blkF (H l : List Int) : List Int := addW H (rnds H l shaK 64)
theorem blkF_length {H : List Int} (l : List Int) (h : H.length = 8) : (blkF H l).length = 8 := addW_length h (rnds_length h 64)
/-- .. behind n blocks. -/
def blksF (H b : List Int) : Nat → List Int
  | 0 => H
  | n + 1 => blkF (blksF H b n) ((b.drop (64 * n)).take 64)
theorem blksF_length {H : List Int} (b : List Int) (h : H.length = 8) : ∀ n, (blksF H b n).length = 8
  | 0 => h
  | n + 1 => blkF_length _ (blksF_length b h n)
def shaH : List Int := [1779033703, 3144134277, 1013904242, 2773480762, 1359893119, 2600822924, 528734635, 1541459225]
/-- How many zeros stand behind the 128. -/
def padN (n : Nat) : Nat := (119 - n % 64) % 64
/-- A number in eight bytes. -/
def be8 (x : Int) : List Int := (List.range 8).map fun i => x / 256 ^ (7 - i) % 256
def padF (l : List Int) : List Int := l ++ (128 :: (List.replicate (padN l.length) 0 ++ be8 (l.length * 8)))
theorem padF_length (l : List Int) : (padF l).length % 64 = 0 := by simp [padF, be8, padN]; omega
/-- The bytes of eight words. -/
def outF (H : List Int) : List Int := (List.range 32).map fun i => H.getD (i / 4) 0 / 2 ^ (24 - 8 * (i % 4)) % 256
theorem outF_length (H : List Int) : (outF H).length = 32 := by simp [outF]
theorem outF_byt (H : List Int) : Byt (outF H) := by
  intro x hx
  obtain ⟨i, _, rfl⟩ := List.mem_map.1 hx
  omega
def shaF (l : List Int) : List Int := outF (blksF shaH (padF l) ((padF l).length / 64))
theorem shaF_length (l : List Int) : (shaF l).length = 32 := outF_length _
theorem shaF_byt (l : List Int) : Byt (shaF l) := outF_byt _
end Go.Proofs.YtflafpklphgbpaaGreatDoor
