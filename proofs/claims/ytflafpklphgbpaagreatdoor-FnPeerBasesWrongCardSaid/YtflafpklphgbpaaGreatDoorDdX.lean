/- base36: the value of a digit; DecodeString of digits' letters. What decoders to a base tell of the digits that a text has. base36.DecodeString, walked: digits' letters, the first of them no zero. base36.DecodeString, walked: digits' letters, the first of them no zero. -/
import Derived.Test.YtflafpklphgbpaaGreatDoorDec58
import Derived.Test.YtflafpklphgbpaaGreatDoorNum36
import Derived.Test.YtflafpklphgbpaaGreatDoorDgX
import Derived.Lib.OthersKept
import Derived.LoopN
import Derived.Test.YtflafpklphgbpaaGreatDoorBiX
namespace Go.Proofs.YtflafpklphgbpaaGreatDoor
open Go Go.RowKit
set_option linter.unusedVariables false
set_option linter.unusedSimpArgs false
set_option maxRecDepth 100000

/-! ### Plain -/
theorem zs_first {l : List Int} (h : l.getD 0 0 ≠ 0) : zs l = 0 := by
  cases l with
  | nil => rfl
  | cons a l => unfold zs; rw [if_neg (by simpa using h)]
theorem v256_of_zs {o : List Int} (h : zs o = o.length) : v256 o = 0 := by
  have := v256_dropz o o.length (by omega)
  rw [List.drop_length] at this
  rw [← this]; rfl
/-- A number's bytes are these, if none of them is too many. -/
theorem v256_cons (a : Int) (x : List Int) : v256 (a :: x) = a * 256 ^ x.length + v256 x := by
  have := vf_lin 256 x a
  show vf 256 (a :: x) 0 = _
  simp only [vf, List.foldl_cons] at this ⊢
  rw [show (0 : Int) * 256 + a = a from by omega]
  exact this
theorem v256_same : ∀ (x y : List Int), Byt x → Byt y → x.length = y.length → v256 x = v256 y → x = y
  | [], [], _, _, _, _ => rfl
  | [], b :: y, _, _, h, _ => by simp at h
  | a :: x, [], _, _, h, _ => by simp at h
  | a :: x, b :: y, hx, hy, h, hv => by
    have hl : x.length = y.length := by simpa using h
    have hx' : Byt x := fun z hz => hx z (List.mem_cons_of_mem _ hz)
    have hy' : Byt y := fun z hz => hy z (List.mem_cons_of_mem _ hz)
    have h1 := v256_lt hx'
    have h2 := v256_lt hy'
    have h3 := v256_nonneg hx'
    have h4 := v256_nonneg hy'
    rw [v256_cons, v256_cons, hl] at hv
    rw [hl] at h1
    have hp : (0 : Int) < 256 ^ y.length := Int.pow_pos (by omega)
    generalize (256 : Int) ^ y.length = p at *
    have hab : a = b := by
      rcases Int.lt_trichotomy a b with hh | hh | hh
      · have : (b - a) * p ≥ 1 * p := Int.mul_le_mul_of_nonneg_right (by omega) (by omega)
        have e : (b - a) * p = b * p - a * p := Int.sub_mul _ _ _
        omega
      · exact hh
      · have : (a - b) * p ≥ 1 * p := Int.mul_le_mul_of_nonneg_right (by omega) (by omega)
        have e : (a - b) * p = a * p - b * p := Int.sub_mul _ _ _
        omega
    subst hab
    rw [v256_same x y hx' hy' hl (by omega)]
theorem v256_ge {a : Int} {x : List Int} (h1 : 1 ≤ a) (hx : Byt x) : (256 : Int) ^ x.length ≤ v256 (a :: x) := by
  have := v256_nonneg hx
  have hp : (0 : Int) < 256 ^ x.length := Int.pow_pos (by omega)
  rw [v256_cons]
  have : (1 : Int) * 256 ^ x.length ≤ a * 256 ^ x.length := Int.mul_le_mul_of_nonneg_right h1 (by omega)
  omega
theorem v256_uniq {x y : List Int} (hx : Byt x) (hy : Byt y) (x0 : x.getD 0 0 ≠ 0) (y0 : y.getD 0 0 ≠ 0) (h : v256 x = v256 y) : x = y := by
  refine v256_same x y hx hy ?_ h
  have key : ∀ {x y : List Int}, Byt x → Byt y → y.getD 0 0 ≠ 0 → v256 x = v256 y → y.length ≤ x.length := by
    intro x y hx hy y0 h
    cases y with
    | nil => simp
    | cons b y =>
      have hb := hy b (by simp)
      have h1 : 1 ≤ b := by have : b ≠ 0 := by simpa using y0
                            omega
      have h2 := v256_ge h1 (fun z hz => hy z (List.mem_cons_of_mem _ hz))
      have h3 := v256_lt hx
      rcases Nat.lt_or_ge y.length x.length with hh | hh
      · simp only [List.length_cons]; omega
      · have := p256_mono x.length (y.length - x.length)
        rw [show x.length + (y.length - x.length) = y.length from by omega] at this
        omega
  have h1 := key hx hy y0 h
  have h2 := key hy hx x0 h.symm
  omega
/-- What comes out of digits, none of which is too many. -/
theorem decB_zs {b : Int} (b0 : 1 ≤ b) (b1 : b ≤ 256) {D : List Int} (hD : DgB b D) (h0 : D.getD 0 0 ≠ 0) :
    (fun o : List Int => zs o < o.length ∧ decB b D = o.drop (zs o)) (outB (rowF b D (List.replicate ((D.length + 3) / 4) 0)) D.length) := by
  have hz := zs_first h0
  have hl : 0 < D.length := by
    cases D with
    | nil => simp at h0
    | cons => simp
  have hv := v256_decB b0 b1 hD
  have hpos : 0 < vf b D 0 := by
    cases D with
    | nil => simp at hl
    | cons d D =>
      have hd := hD d (by simp)
      have hd1 : 1 ≤ d := by have : d ≠ 0 := by simpa using h0
                             omega
      have := vf_ge b0 D (0 * b + d) hD.tail (by omega)
      simp only [vf, List.foldl_cons] at this ⊢
      omega
  have hle := zs_le (outB (rowF b D (List.replicate ((D.length + 3) / 4) 0)) D.length)
  have hdec : decB b D = (fun o : List Int => if zs o = o.length then o else o.drop (zs o - zs D)) (outB (rowF b D (List.replicate ((D.length + 3) / 4) 0)) D.length) := rfl
  generalize outB (rowF b D (List.replicate ((D.length + 3) / 4) 0)) D.length = o at *
  simp only at hdec ⊢
  by_cases hq : zs o = o.length
  · rw [if_pos hq] at hdec
    have := v256_of_zs hq
    rw [hdec] at hv
    omega
  · rw [if_neg hq, hz, Nat.sub_zero] at hdec
    exact ⟨by omega, hdec⟩
theorem decB_same {b : Int} (b0 : 1 ≤ b) (b1 : b ≤ 256) {D x : List Int} (hD : DgB b D) (h0 : D.getD 0 0 ≠ 0) (hx : Byt x) (x0 : x.getD 0 0 ≠ 0) (hv : vf b D 0 = v256 x) : decB b D = x := by
  obtain ⟨h1, h2⟩ := decB_zs b0 b1 hD h0
  have hd := v256_decB b0 b1 hD
  refine v256_uniq ?_ hx ?_ x0 (by rw [hd, hv])
  · rw [h2]; exact (outB_byt _ _).drop _
  · rw [h2]
    have hs := zs_stop _ h1
    intro e
    apply hs
    rw [List.getD_eq_getElem?_getD, List.getElem?_drop, Nat.add_zero, ← List.getD_eq_getElem?_getD] at e
    exact e
theorem dig58_byt {x : List Int} (hx : Byt x) : DgB 58 (dig58 x) := dig58_ok hx
theorem tip_first {N : List Int} (h : Tip N) (hN : N ≠ []) : N.getD 0 0 ≠ 0 := by
  rcases h with h | h
  · exact absurd h hN
  · cases N with
    | nil => exact absurd rfl hN
    | cons d N => simp at h ⊢; omega
theorem dig58_back {x : List Int} (hx : Byt x) (x0 : x.getD 0 0 ≠ 0) : DgB 58 (dig58 x) ∧ (dig58 x).getD 0 0 ≠ 0 ∧ decB 58 (dig58 x) = x := by
  have hv : vf 58 (dig58 x) 0 = v256 x := by rw [vf_v58, v58_dig58 hx]; simp
  have hpos : 0 < v256 x := by
    cases x with
    | nil => simp at x0
    | cons a x =>
      have ha := hx a (by simp)
      have := v256_ge (a := a) (x := x) (by have : a ≠ 0 := by simpa using x0
                                            omega) (fun z hz => hx z (List.mem_cons_of_mem _ hz))
      have hp : (0 : Int) < 256 ^ x.length := Int.pow_pos (by omega)
      omega
  have hne : dig58 x ≠ [] := fun h => by rw [h] at hv; simp [vf] at hv; omega
  have h0 := tip_first (dig58_tip hx) hne
  exact ⟨dig58_ok hx, h0, decB_same (by omega) (by omega) (dig58_ok hx) h0 hx x0 hv⟩
namespace N36
theorem vf_v36 : ∀ (D : List Int) (v : Int), vf 36 D v = v * 36 ^ D.length + v36 D
  | [], v => by simp [vf, v36]
  | d :: D, v => by
    have := vf_v36 D (v * 36 + d)
    simp only [vf, List.foldl_cons] at this ⊢
    rw [this]
    simp only [v36, List.length_cons, Int.pow_succ]
    generalize (36 : Int) ^ D.length = p
    grind
theorem fold_v36 : ∀ (b : List Int) {N : List Int}, Byt b → Dg8 N → v36 (b.foldl dstep N) = vf 256 b (v36 N)
  | [], N, _, _ => rfl
  | c :: b, N, hb, h => by
    have hc := hb c (by simp)
    have := fold_v36 b (N := dstep N c) (fun x hx => hb x (List.mem_cons_of_mem _ hx)) (dstep_ok hc.1 (by omega) h)
    simp only [List.foldl_cons, vf] at this ⊢
    rw [this, v36_step hc.1 (by omega) h]
theorem tip_first {N : List Int} (h : Tip N) (hN : N ≠ []) : N.getD 0 0 ≠ 0 := by
  rcases h with h | h
  · exact absurd h hN
  · cases N with
    | nil => exact absurd rfl hN
    | cons d N => simp at h ⊢; omega
theorem dig36_back {x : List Int} (hx : Byt x) (x0 : x.getD 0 0 ≠ 0) : DgB 36 (dig36 x) ∧ (dig36 x).getD 0 0 ≠ 0 ∧ decB 36 (dig36 x) = x := by
  have hv : vf 36 (dig36 x) 0 = v256 x := by
    rw [vf_v36, show v36 (dig36 x) = vf 256 x (v36 []) from fold_v36 x hx Dg8.nil]; simp [v36]; rfl
  have hpos : 0 < v256 x := by
    cases x with
    | nil => simp at x0
    | cons a x =>
      have ha := hx a (by simp)
      have := v256_ge (a := a) (x := x) (by have : a ≠ 0 := by simpa using x0
                                            omega) (fun z hz => hx z (List.mem_cons_of_mem _ hz))
      have hp : (0 : Int) < 256 ^ x.length := Int.pow_pos (by omega)
      omega
  have hne : dig36 x ≠ [] := fun h => by rw [h] at hv; simp [vf] at hv; omega
  have h0 := tip_first (dig36_tip hx) hne
  exact ⟨dig36_ok hx, h0, decB_same (by omega) (by omega) (dig36_ok hx) h0 hx x0 hv⟩
end N36
end Go.Proofs.YtflafpklphgbpaaGreatDoor
namespace Go.Proofs.YtflafpklphgbpaaGreatDoor
open Go Go.RowKit
set_option linter.unusedVariables false
set_option linter.unusedSimpArgs false
set_option maxRecDepth 100000

/-- A letter of a digit to the base of 36, small or great. -/
def Rev36 (r d : Int) : Prop := (48 ≤ r ∧ r ≤ 57 ∧ d = r - 48) ∨ (65 ≤ r ∧ r ≤ 90 ∧ d = r - 55) ∨ (97 ≤ r ∧ r ≤ 122 ∧ d = r - 87)
theorem rev36_calls {r d : Int} (h : Rev36 r d) (w : World) : Calls Tryz.prog 74 #[.int .i32 r] w fun e w' => e = .returned (.int .u8 d) ∧ w = w' := by
  rcases h with ⟨h1, h2, rfl⟩ | ⟨h1, h2, rfl⟩ | ⟨h1, h2, rfl⟩
  · have d1 : decide ((48 : Int) ≤ r) = true := decide_eq_true h1
    have d2 : decide (r ≤ (57 : Int)) = true := decide_eq_true h2
    have hw : (r - 48) % 256 = r - 48 := by omega
    go_enter Tryz.func74, Tryz.ntmps74
    go_wp2
    go_ret
    exact ⟨rfl, rfl⟩
  · have d1 : decide ((48 : Int) ≤ r) = true := decide_eq_true (by omega)
    have d2 : decide (r ≤ (57 : Int)) = false := decide_eq_false (by omega)
    have d3 : decide ((65 : Int) ≤ r) = true := decide_eq_true (by omega)
    have d4 : decide (r ≤ (90 : Int)) = true := decide_eq_true (by omega)
    have hw : (r - 65) % 256 = r - 65 := by omega
    have he : r - 65 + 10 = r - 55 := by omega
    go_enter Tryz.func74, Tryz.ntmps74
    go_wp2
    go_ret
    exact ⟨by first | rfl | (congr 2 <;> omega), rfl⟩
  · have d1 : decide ((48 : Int) ≤ r) = true := decide_eq_true (by omega)
    have d2 : decide (r ≤ (57 : Int)) = false := decide_eq_false (by omega)
    have d3 : decide ((65 : Int) ≤ r) = true := decide_eq_true (by omega)
    have d4 : decide (r ≤ (90 : Int)) = false := decide_eq_false (by omega)
    have d5 : decide ((97 : Int) ≤ r) = true := decide_eq_true (by omega)
    have d6 : decide (r ≤ (122 : Int)) = true := decide_eq_true (by omega)
    have hw : (r - 97) % 256 = r - 97 := by omega
    have he : r - 97 + 10 = r - 87 := by omega
    go_enter Tryz.func74, Tryz.ntmps74
    go_wp2
    go_ret
    exact ⟨by first | rfl | (congr 2 <;> omega), rfl⟩
/-- The letters of an alphabet have their digits' values. -/
def Al36 (dl : List Int) : Prop := ∀ d : Nat, d < 36 → Rev36 (dl.getD d 0) d ∧ (dl.getD d 0 = 48 → d = 0)
theorem al36k : Al36 alp107 := fun d hd => by
  have : ∀ d : Nat, d < 36 → ((48 ≤ alp107.getD d 0 ∧ alp107.getD d 0 ≤ 57 ∧ (d : Int) = alp107.getD d 0 - 48) ∨ (65 ≤ alp107.getD d 0 ∧ alp107.getD d 0 ≤ 90 ∧ (d : Int) = alp107.getD d 0 - 55) ∨ (97 ≤ alp107.getD d 0 ∧ alp107.getD d 0 ≤ 122 ∧ (d : Int) = alp107.getD d 0 - 87)) ∧ (alp107.getD d 0 = 48 → d = 0) := by decide +kernel
  exact this d hd
theorem al36K : Al36 alp75 := fun d hd => by
  have : ∀ d : Nat, d < 36 → ((48 ≤ alp75.getD d 0 ∧ alp75.getD d 0 ≤ 57 ∧ (d : Int) = alp75.getD d 0 - 48) ∨ (65 ≤ alp75.getD d 0 ∧ alp75.getD d 0 ≤ 90 ∧ (d : Int) = alp75.getD d 0 - 55) ∨ (97 ≤ alp75.getD d 0 ∧ alp75.getD d 0 ≤ 122 ∧ (d : Int) = alp75.getD d 0 - 87)) ∧ (alp75.getD d 0 = 48 → d = 0) := by decide +kernel
  exact this d hd

theorem Kp.iter (w : World) (s : ByteArray) (p : Nat) : Kp no w (w.iter s p) := (Kp.refl _ _).alloc _
theorem Kp.iterAt (w : World) (k : Nat) (s : ByteArray) (p : Nat) : Kp (· = k) w (w.iterAt k s p) := ⟨rfl, rfl, rfl, by rw [Lib.iterAt_size]; exact Nat.le_refl _, fun i _ hn => Lib.iterAt_other w k i s p hn⟩
end Go.Proofs.YtflafpklphgbpaaGreatDoor
namespace Go.Proofs.YtflafpklphgbpaaGreatDoor
open Go Go.RowKit
set_option linter.unusedVariables false
set_option linter.unusedSimpArgs false
set_option maxRecDepth 100000

def Dec36 (w : World) (D : List Int) (e : Ending) (w' : World) : Prop := Kp no w w' ∧ ∃ A c, e = .returned (.tuple #[.slice A (decB 36 D).length c, Value.nilIface]) ∧ Rd w' A (decB 36 D).length c (decB 36 D)
/-- The words, as the inner loop turns them. -/
def In36 (w0 : World) (gO : Nat) (N : List Int) (y : Int) (k : Int) (r : Nat) (wr : World) : Prop :=
  ∃ M, (k, M) = mulw 36 y (N.drop r) ∧ M.length = N.length - r ∧ Nw .u32 wr gO 46 (N.take r ++ M) ∧ Kp (· = gO) w0 wr

/-- 'b[k:h:h]' of a row. -/
theorem cutMid {P : Program} {t e : TypeId} (ht : P.underlying t = some (.slice e)) (hi : (P.info? e).map (fun i => i.size) = some 1) (g n c k h : Nat) (hk : k < h) (hc : h ≤ c) (W : World) :
    (Instr.slice t (.slice (some ⟨g, 0, none⟩) n c) (some (.int .i64 (k : Int))) (some (.int .i64 (h : Int))) (some (.int .i64 (h : Int)))).run P W = .ok (.slice (some ⟨g, k, none⟩) (h - k) (h - k)) W := by
  obtain ⟨i, hi, hsz⟩ := Option.map_eq_some_iff.1 hi
  have hel : P.elem t = e := by simp [Program.elem, ht]
  have hu : P.underlying t = some (.slice (P.elem t)) := by rw [hel]; exact ht
  have ha : (⟨g, 0, none⟩ : Addr).add k = ⟨g, k, none⟩ := by unfold Addr.add; split <;> simp_all
  rw [run_slice_lhm W t (some ⟨g, 0, none⟩) n c hu .i64 .i64 .i64 k h h (by omega) (by omega) (by omega) (by omega), hel]
  simp [sizeOf, typeInfo, hi, hsz, sliced, Result.andThen, ha]
  omega
set_option maxHeartbeats 16000000 in
theorem decode36_calls {w : World} {D dl : List Int} (hD : DgB 36 D) (h0 : D.getD 0 0 ≠ 0) (hn : D.length ≤ 300) (hal : Al36 dl) :
    Calls Tryz.prog 51 #[.string (strOfNums (D.map (ltr dl)))] w (Dec36 w D) := by
  have h1 : 1 ≤ D.length := by
    cases D with
    | nil => simp at h0
    | cons => simp
  have hT : ∀ x ∈ D.map (ltr dl), 0 ≤ x ∧ x < 128 := by
    intro x hx
    obtain ⟨d, hd, rfl⟩ := List.mem_map.1 hx
    have hd := hD d hd
    have := (hal d.toNat (by omega)).1
    unfold ltr Rev36 at *
    omega
  have hsz : (strOfNums (D.map (ltr dl))).size = D.length := by rw [strOfNums_size, List.length_map]
  have hat : ∀ (i : Nat) (hi : i < (strOfNums (D.map (ltr dl))).size), ((strOfNums (D.map (ltr dl)))[i]'hi).toNat = (ltr dl (D.getD i 0)).toNat := fun i hi => by
    rw [str_at hT i hi]
    rw [hsz] at hi
    congr 1
    rw [List.getD_eq_getElem?_getD, List.getElem?_map, List.getElem?_eq_getElem hi, List.getD_eq_getElem?_getD, List.getElem?_eq_getElem hi]; rfl
  have hrev : ∀ i, i < D.length → Rev36 (ltr dl (D.getD i 0)) (D.getD i 0) ∧ (ltr dl (D.getD i 0) = 48 → D.getD i 0 = 0) := fun i hi => by
    have hd := hD.getD hi
    have := hal (D.getD i 0).toNat (by omega)
    rw [show (((D.getD i 0).toNat : Nat) : Int) = D.getD i 0 from by omega] at this
    exact ⟨this.1, fun h => by have := this.2 h; omega⟩
  have HREV := Lib.hid hrev
  generalize strOfNums (D.map (ltr dl)) = s at *
  have HSZ := Lib.hid hsz
  have HAT := Lib.hid hat
  have hs1 : 1 ≤ s.size := by omega
  have hs2 : s.size ≤ 300 := by omega
  have hs3 : ((s.size : Int) == 0) = false := beq_eq_false_iff_ne.2 (by omega)
  have hs4 : (0 : Int) < (s.size : Int) := by omega
  obtain ⟨r0, hr0⟩ : ∃ r : Nat, r = (ltr dl (D.getD 0 0)).toNat := ⟨_, rfl⟩
  have hg0 : ∀ h : 0 < s.size, (s[0]'h).toNat = r0 := fun h => by rw [hr0]; exact hat 0 h
  have hr48 : ((r0 : Int) == 48) = false := beq_eq_false_iff_ne.2 (fun e => by
    have h2 := hrev 0 (by omega)
    have h3 : ltr dl (D.getD 0 0) = 48 := by have := h2.1; unfold Rev36 at this; omega
    exact h0 (h2.2 h3))
  have HDD := Lib.hid hD
  have HD0 := Lib.hid h0
  have DZ := fun (W : World) i (hi : i < D.length) => Lib.hid (rev36_calls (hrev i hi).1 W)
  obtain ⟨i8, hi8, hz8⟩ := Option.map_eq_some_iff.1 Tryz.info_byte
  obtain ⟨i4, hi4, hz4⟩ := Option.map_eq_some_iff.1 Tryz.info_u32
  simp only [Prod.mk.injEq] at hz8 hz4
  have HI8 := Lib.hid (And.intro hi8 hz8)
  have HI4 := Lib.hid (And.intro hi4 hz4)
  obtain ⟨m, hm⟩ : ∃ m, m = (s.size + 3) / 4 := ⟨_, rfl⟩
  obtain ⟨nb, hnb⟩ : ∃ nb, nb = 2 * (s.size * 179 / 277 + 1) := ⟨_, rfl⟩
  have hmi : ((s.size : Int) + 3) / 4 = (m : Int) := by omega
  have hnbi : 2 * ((s.size : Int) * 179 / 277 + 1) = (nb : Int) := by omega
  have hm1 : 1 ≤ m := by omega
  have hmb : m ≤ 100 := by omega
  have hnbb : nb ≤ 1000 := by omega
  have HM := Lib.hid hm
  have HNB := Lib.hid (show s.size ≤ nb from by omega)
  have HF := Lib.hid (fr_eq hs1)
  have hfr := fr_rng s.size
  have HFD := Lib.hid (show fr s.size = if s.size % 4 = 0 then 4 else s.size % 4 from rfl)
  clear hi8 hz8 hi4 hz4 hm hnb hr0 hD h0 hn hal hT hsz hat hrev h1
  go_enter Tryz.func51, Tryz.ntmps51
  go_wp2
  refine wp_loop_rounds 1 ?_
  rw [rounds_succ]
  go_upto_region 7 with (first | (at_make; refine wpList_make_full _ rfl (.tmp 37) (.tmp 37) 23 rfl 0 5 i8 (.int .u8 0) 1 Tryz.und_bytes HI8.out.1 HI8.out.2.1 HI8.out.2.2.1 .i64 .i64 _ _ nb rfl rfl rfl rfl (by rw [HI8.out.2.2.2]; omega) (by simp only [maxLen]; omega) (Nat.zero_le _) ?_; intro w4 hrow4 hgr4; have k4 : Kp no w w4 := (Kp.refl _ _).grown hgr4 (fun k hk _ => by cases hk); have B4 : Nw .u8 w4 w.heap.size 5 (List.replicate nb 0) := Nw.made hrow4; clear hrow4 hgr4))
  go_upto_block 2 with (first | (at_make; refine wpList_make_full _ rfl (.tmp 42) (.tmp 42) 113 rfl 0 46 i4 (.int .u32 0) 1 Tryz.und_words HI4.out.1 HI4.out.2.1 HI4.out.2.2.1 .i64 .i64 _ _ m rfl rfl hmi hmi (by rw [HI4.out.2.2.2]; omega) (by simp only [maxLen]; omega) (Nat.zero_le _) ?_; intro w5 hrow5 hgr5; have k5' : Kp no w4 w5 := (Kp.refl _ _).grown hgr5 (fun k hk _ => by cases hk); have O5 : Nw .u32 w5 w4.heap.size 46 (List.replicate m 0) := Nw.made hrow5; clear hrow5 hgr5))
  obtain ⟨gB, hgB⟩ : ∃ g, g = w.heap.size := ⟨_, rfl⟩
  obtain ⟨gO, hgO⟩ : ∃ g, g = w4.heap.size := ⟨_, rfl⟩
  obtain ⟨kt, hkt⟩ : ∃ g, g = w5.heap.size := ⟨_, rfl⟩
  rw [← hgB] at B4
  rw [← hgO] at O5
  have hBO : gB < gO := by rw [hgO]; exact B4.lt
  have hOk : gO < kt := by rw [hkt]; exact O5.lt
  have HI6 := Lib.hid (show (w5.iter s 0).heap[kt]? = some (.stringIter s 0) from by rw [hkt]; exact World.iter_heap _ _ _)
  have HO6 := Lib.hid (O5.keepN (Kp.iter w5 s 0))
  have HB6 := Lib.hid ((B4.keepN k5').keepN (Kp.iter w5 s 0))
  have HK6 := Lib.hid ((k4.then k5').then (Kp.iter w5 s 0))
  have HGB := Lib.hid (show w.heap.size ≤ gB from by omega)
  rw [← hgB, ← hgO, ← hkt]
  generalize w5.iter s 0 = w6 at *
  clear hgB hgO hkt B4 O5 k4 k5'
  go_cut [2, 3, 8, 9, 10, 11] from 46 to 82 (fun _ _ _ _ _ _ wx => Hid (Nw .u32 wx gO 46 (rowF 36 D (List.replicate m 0))) ∧ Hid (Nw .u8 wx gB 5 (List.replicate nb 0)) ∧ Hid (Kp no w wx))
  case first =>
    go_wp2
    go_loopw [8] (fun _ wr => ∃ i : Nat, i ≤ s.size ∧ Hid (wr.heap[kt]? = some (.stringIter s i)) ∧ Hid (Nw .u32 wr gO 46 (rowF 36 (D.take i) (List.replicate m 0))) ∧ Hid (Nw .u8 wr gB 5 (List.replicate nb 0)) ∧ Hid (Kp no w wr)) (fun _ wr => s.size - wr.iterPos kt)
    case atStart => exact ⟨0, Nat.zero_le _, HI6, HO6, HB6, HK6⟩
    case round =>
      obtain ⟨i, hi, HI, HO, HB, HK⟩ := hrel
      by_cases hlt : i < s.size
      · have hiD : i < D.length := by have := HSZ.out; omega
        have hrv := HREV.out i hiD
        have hdi := HDD.out.getD hiD
        have hr128 : 48 ≤ ltr dl (D.getD i 0) ∧ ltr dl (D.getD i 0) ≤ 122 := by have := hrv.1; unfold Rev36 at this; omega
        have hnx : ∀ ty, (Instr.next (.pointer (some ⟨kt, 0, none⟩)) true ty).run Tryz.prog wr = .ok (.tuple #[.bool true, .int .i64 (i : Int), .int .i32 (ltr dl (D.getD i 0))]) (wr.iterAt kt s (i + 1)) := fun ty => by
          have ha := HAT.out i hlt
          have h := Lib.run_next_ascii_at (P := Tryz.prog) wr kt s i ty HI.out hlt (by omega)
          rw [ha, show (((ltr dl (D.getD i 0)).toNat : Nat) : Int) = ltr dl (D.getD i 0) from by omega] at h
          exact h
        have DZ1 := fun W => DZ W i hiD
        have HIT0 := Lib.hid (show wr.iterPos kt = i from by unfold World.iterPos; rw [HI.out])
        have HST := Lib.hid (rowF_take 36 D (List.replicate m 0) i hiD)
        have HNL := Lib.hid (show (rowF 36 (D.take i) (List.replicate m 0)).length = m from by rw [rowF_len, List.length_replicate])
        have HW1 := Lib.hid (rowF_ok (b := 36) (by omega) (by omega) (D.take i) _ (HDD.out.take i) (W32.zero m))
        have KI := Kp.iterAt wr kt s (i + 1)
        have HI2 := Lib.hid (Lib.iterAt_heap wr kt s i (i + 1) HI.out)
        have HO2 := Lib.hid (HO.out.keep KI (by show ¬ gO = kt; omega))
        have HB2 := Lib.hid (HB.out.keep KI (by show ¬ gB = kt; omega))
        have HK2 := Lib.hid (show Kp no w (wr.iterAt kt s (i + 1)) from HK.out.trans KI (fun x hx h => by have h : x = kt := h; have := HGB.out; omega))
        generalize wr.iterAt kt s (i + 1) = wi at *
        generalize hN : rowF 36 (D.take i) (List.replicate m 0) = N at *
        generalize ltr dl (D.getD i 0) = r at *
        generalize hy : D.getD i 0 = y at *
        have hr1 : ¬ (122 : Int) < r := by omega
        have hy1 : ¬ (35 : Int) < y := by omega
        clear hN hy hrv KI HI HO HB HK
        go_upto_block 4 with (first | (go_at_call 74; refine (DZ1 _).out.mono ?_; rintro e wz ⟨rfl, rfl⟩))
        obtain ⟨wo, rfl⟩ : ∃ wo : World, wo = wi := ⟨_, rfl⟩
        go_wp2
        go_loopw [9, 10] (fun cv jv wr => ∃ (r : Nat) (k j : Int), r ≤ m ∧ jv = .int .i64 j ∧ j = r - 1 ∧ cv = .int .u64 k ∧ 0 ≤ k ∧ k < 36 ∧ Hid (In36 wo gO N y k r wr)) (fun _ jv _ => (intOf jv + 1).toNat)
        case atStart => exact ⟨m, y, _, Nat.le_refl _, rfl, by omega, rfl, hdi.1, hdi.2, Lib.hid ⟨[], by rw [List.drop_of_length_le (by rw [HNL.out]; exact Nat.le_refl _)]; rfl, by rw [HNL.out]; simp, by rw [List.take_of_length_le (by rw [HNL.out]; exact Nat.le_refl _), List.append_nil]; exact HO2.out, Kp.refl _ _⟩⟩
        case round =>
          obtain ⟨r, k, j, hr, rfl, hj, rfl, hk0, hk1, HIN⟩ := hrel
          cases r with
          | zero =>
            have hj2 : j < 0 := by omega
            clear hj
            obtain ⟨M, hM, _, hO, hK⟩ := HIN.out
            rw [List.drop_zero] at hM
            have hM2 : M = (mulw 36 y N).2 := congrArg Prod.snd hM
            rw [List.take_zero, List.nil_append, hM2] at hO
            clear hM hM2
            have O7 := hO
            have k7 := hK
            obtain ⟨wq, rfl⟩ : ∃ x : World, x = wr := ⟨_, rfl⟩
            have HF7 := Lib.hid (show wq.heap[kt]? = some (.stringIter s (i + 1)) from (k7.block kt (by have h := (Array.getElem?_eq_some_iff.1 HI2.out).1; exact h) (by show ¬ kt = gO; omega)).trans HI2.out)
            have HB7 := Lib.hid (HB2.out.keep k7 (by show ¬ gB = gO; omega))
            have HK7 := Lib.hid (show Kp no w wq from HK2.out.trans k7 (fun x hx h => by have h : x = gO := h; have := HGB.out; omega))
            have HO7 := Lib.hid (show Nw .u32 wq gO 46 (rowF 36 (D.take (i + 1)) (List.replicate m 0)) from by rw [HST.out]; exact O7)
            have hit : wq.iterPos kt = i + 1 := by unfold World.iterPos; rw [HF7.out]
            clear O7 k7
            go_wp2
            go_roundw
            case rel => exact ⟨i + 1, by omega, HF7, HO7, HB7, HK7⟩
            case measure => rw [hit, HIT0.out]; omega
          | succ r =>
            obtain rfl : j = (r : Int) := by omega
            obtain ⟨M, hM, hMl, hO, hK⟩ := HIN.out
            have hrl : r < N.length := by have := HNL.out; omega
            have c1 := hO.cell r (by rw [List.length_append, List.length_take]; omega)
            rw [row_get N M r hrl] at c1
            have f1 := hO.free r
            have hdr := HW1.out.getD r
            have HNX := Lib.hid (mulw_next 36 y N r hrl)
            have HRS := Lib.hid (fun v => row_set N M r v hrl)
            generalize N.getD r 0 = d at *
            have a2 : bits .and .u64 (d * 36 + k) 4294967295 = (d * 36 + k) % 4294967296 := by
              have := u64_and (d * 36 + k) 4294967295 (by omega) (by omega) (by omega) (by omega)
              rw [this, show (4294967295 : Int).toNat = 2 ^ 32 - 1 from rfl, Nat.and_two_pow_sub_one_eq_mod]; omega
            have HMM := Lib.hid hM
            have HML := Lib.hid hMl
            clear hj hM hMl hrl
            have hrm : (r : Int) < (m : Int) := by omega
            go_wp2
            go_roundw
            case rel =>
              refine ⟨r, (d * 36 + k) / 4294967296, _, by omega, rfl, rfl, rfl, by omega, by omega, Lib.hid ⟨(d * 36 + k) % 4294967296 :: M, ?_, ?_, ?_, ?_⟩⟩
              · rw [HNX.out, ← HMM.out]
              · rw [List.length_cons, HML.out]; have := HNL.out; omega
              · exact hO.setTo r rfl (HRS.out _)
              · exact hK.setCell (p := ⟨gO, r, none⟩) (fun _ => rfl) _
            case measure => first | (simp [intOf]; done) | (simp [intOf]; omega)
      · have hnx : ∀ ty, (Instr.next (.pointer (some ⟨kt, 0, none⟩)) true ty).run Tryz.prog wr = .ok (.tuple #[.bool false]) wr := fun ty => Lib.run_next_end_at (P := Tryz.prog) wr kt s i ty HI.out hlt
        have HE := Lib.hid (show D.take i = D from List.take_of_length_le (by have := HSZ.out; omega))
        go_wp2
        go_meet
        case rel => exact ⟨by have := HO; rw [HE.out] at this; exact this, HB, HK⟩
  case rest =>
    obtain ⟨HO, HB, HK⟩ := hcut
    obtain ⟨w7, rfl⟩ : ∃ x : World, x = wc := ⟨_, rfl⟩
    have hsm : (s.size : Int) % 4 * 8 % 18446744073709551616 = (s.size : Int) % 4 * 8 := by omega
    clear HI6 HO6 HB6 HK6
    go_upto_if 89 with (fail)
    go_cut [12] from 88 to 90 (fun mv wx => ∃ q : Nat, mv = .int .u64 (8 * q : Nat) ∧ q = fr s.size ∧ wx = w7)
    case first =>
      by_cases hq : s.size % 4 = 0
      · have hqi : (s.size : Int) % 4 = 0 := by omega
        have HX := Lib.hid (show fr s.size = 4 from by rw [HFD.out, if_pos hq])
        clear hq hsm
        go_wp2
        go_meet
        case rel => exact ⟨4, rfl, HX.out.symm, rfl⟩
      · obtain ⟨q, hqq⟩ : ∃ q, q = s.size % 4 := ⟨_, rfl⟩
        have hqi : (s.size : Int) % 4 = (q : Int) := by omega
        have hq1 : 1 ≤ q := by omega
        have hq4 : q ≤ 3 := by omega
        have HX := Lib.hid (show fr s.size = q from by rw [HFD.out, if_neg hq, hqq])
        have hq8 : (q : Int) * 8 = ((8 * q : Nat) : Int) := by omega
        have hqz : (((8 * q : Nat) : Int) == 0) = false := beq_eq_false_iff_ne.2 (by omega)
        clear hq hqq hsm
        go_wp2
        go_meet
        case rel => exact ⟨q, by rw [show (s.size : Int) % 4 * 8 = ((8 * q : Nat) : Int) from by omega], HX.out.symm, rfl⟩
    case rest =>
      obtain ⟨q, rfl, hq, hw⟩ := hcut
      subst hw
      have hq1 : 1 ≤ q := by omega
      have hq4 : q ≤ 4 := by omega
      have HQ := Lib.hid hq
      have hm8 : ((8 * q : Nat) : Int) - 8 = ((8 * (q - 1) : Nat) : Int) := by omega
      clear hq hsm
      have HDEC := Lib.hid (decB_zs (b := 36) (by omega) (by omega) HDD.out HD0.out)
      rw [HSZ.out.symm, ← HM.out] at HDEC
      have hLw := rowF_ok (b := 36) (by omega) (by omega) D _ HDD.out (W32.zero m)
      have hLl : (rowF 36 D (List.replicate m 0)).length = m := by rw [rowF_len, List.length_replicate]
      generalize rowF 36 D (List.replicate m 0) = L at *
      have HLL := Lib.hid hLl
      have hol : (outB L s.size).length = s.size := outB_len (by rw [hLl, HM.out]; omega)
      have HOG := Lib.hid (fun j p i (hj : j < m) (hp : p < 4) (hi : i + (4 - fr s.size) = 4 * j + p) => outB_get (L := L) (n := s.size) (j := j) (p := p) (i := i) (by rw [hLl, HM.out]; omega) (by rw [hLl]; exact hj) hp (by rw [hLl]; have := HF.out.1; rw [← HM.out] at this; omega))
      have HOB := Lib.hid (outB_byt L s.size)
      generalize outB L s.size = o at *
      have HOL := Lib.hid hol
      have HLW := Lib.hid hLw
      have HFQ := Lib.hid (And.intro (show 4 * m = s.size + (4 - fr s.size) from by have := HF.out.1; rw [← HM.out] at this; exact this) HQ.out)
      clear hLl hol hLw hfr
      go_upto_block 6 with (fail)
      go_cut [12, 13, 14] from 92 to 113 (fun _ cv _ wx => cv = .int .i64 s.size ∧ Hid (Nw .u8 wx gB 5 (o ++ List.replicate (nb - s.size) 0)) ∧ Hid (Kp (· = gB) wc wx))
      case first =>
        go_wp2
        go_loopw [12, 13, 14] (fun bv cv jv wr => ∃ j c p : Nat, bv = .int .u64 (24 - 8 * p : Int) ∧ p ≤ 3 ∧ jv = .int .i64 j ∧ cv = .int .i64 c ∧ j ≤ m ∧ Hid ((j = 0 ∧ c = 0 ∧ p = 4 - fr s.size) ∨ (1 ≤ j ∧ c + (4 - fr s.size) = 4 * j ∧ p = 0)) ∧ Hid (Nw .u8 wr gB 5 (o.take c ++ List.replicate (nb - c) 0)) ∧ Hid (Kp (· = gB) wc wr)) (fun _ _ jv _ => m - (intOf jv).toNat)
        case atStart => exact ⟨0, 0, 4 - q, by rw [show (8 : Int) * (q : Int) - 8 = 24 - 8 * ((4 - q : Nat) : Int) from by omega], by omega, rfl, rfl, Nat.zero_le _, Lib.hid (.inl ⟨rfl, rfl, by rw [HQ.out]⟩), Lib.hid (by simpa using HB.out), Lib.hid (Kp.refl _ _)⟩
        case round =>
          obtain ⟨j, c, p0, rfl, hp0, rfl, rfl, hj, HC, HB7, HK7⟩ := hrel
          by_cases hjm : j < m
          · have hcj : c + (4 - fr s.size) = 4 * j + p0 := by rcases HC.out with ⟨a1, a2, a3⟩ | ⟨a1, a2, a3⟩ <;> omega
            have HCJ := Lib.hid hcj
            clear hcj HC
            obtain ⟨wo, rfl⟩ : ∃ x : World, x = wr := ⟨_, rfl⟩
            go_wp2
            go_loopw [12, 13] (fun mv cv wr => ∃ (p c : Nat) (x : Int), p ≤ 4 ∧ cv = .int .i64 c ∧ mv = .int .u64 x ∧ Hid (p < 4 ∧ x = 24 - 8 * p ∨ p = 4 ∧ x = 18446744073709551608) ∧ Hid (c + (4 - fr s.size) = 4 * j + p) ∧ Hid (Nw .u8 wr gB 5 (o.take c ++ List.replicate (nb - c) 0)) ∧ Hid (Kp (· = gB) wc wr)) (fun mv _ _ => ((intOf mv + 8) % 18446744073709551616).toNat)
            case atStart => exact ⟨p0, c, _, by omega, rfl, rfl, Lib.hid (.inl ⟨by omega, by omega⟩), HCJ, HB7, HK7⟩
            case round =>
              obtain ⟨p, c, x, hp, rfl, rfl, HX, HCP, HB8, HK8⟩ := hrel
              by_cases hp4 : p < 4
              · have hLj := (HO.out.keep HK8.out (by show ¬ gO = gB; omega)).cell j (by rw [HLL.out]; exact hjm)
                have hqq := HLW.out.getD j
                have hcn : c < s.size := by have := HCP.out; have := HFQ.out.1; omega
                have HV := Lib.hid (HOG.out j p c hjm hp4 HCP.out)
                have HS := Lib.hid (out_set o nb c (by rw [HOL.out]; exact hcn) (by rw [HOL.out]; exact HNB.out))
                have f8 := HB8.out.free c
                have c8 := HB8.out.cell c (by rw [List.length_append, List.length_take, List.length_replicate, HOL.out]; have := HNB.out; omega)
                generalize L.getD j 0 = lj at *
                generalize (o.take c ++ List.replicate (nb - c) 0).getD c 0 = v0 at *
                have hcnb : (c : Int) < (nb : Int) := by have := HNB.out; omega
                have hjmi : (j : Int) < (m : Int) := by omega
                have hx : x = 24 - 8 * p := by rcases HX.out with ⟨_, h⟩ | ⟨h, _⟩ <;> omega
                rcases (show (p = 0 ∨ p = 1) ∨ (p = 2 ∨ p = 3) by omega) with (rfl | rfl) | (rfl | rfl)
                · obtain rfl : x = 24 := by omega
                  clear hx HX
                  go_wp2
                  go_roundw
                  case rel => exact ⟨1, c + 1, 16, by omega, by go_num, rfl, Lib.hid (.inl ⟨by omega, by omega⟩), Lib.hid (by have := HCP.out; omega), Lib.hid (HB8.out.setTo c (by rw [HV.out, show (2 : Int) ^ (24 - 8 * 0) = 16777216 from rfl]; omega) HS.out), Lib.hid (HK8.out.setCell (p := ⟨gB, c, none⟩) (fun _ => rfl) _)⟩
                  case measure => first | (simp [intOf]; done) | (simp [intOf]; omega)
                · obtain rfl : x = 16 := by omega
                  clear hx HX
                  go_wp2
                  go_roundw
                  case rel => exact ⟨2, c + 1, 8, by omega, by go_num, rfl, Lib.hid (.inl ⟨by omega, by omega⟩), Lib.hid (by have := HCP.out; omega), Lib.hid (HB8.out.setTo c (by rw [HV.out]; try rfl) HS.out), Lib.hid (HK8.out.setCell (p := ⟨gB, c, none⟩) (fun _ => rfl) _)⟩
                  case measure => first | (simp [intOf]; done) | (simp [intOf]; omega)
                · obtain rfl : x = 8 := by omega
                  clear hx HX
                  go_wp2
                  go_roundw
                  case rel => exact ⟨3, c + 1, 0, by omega, by go_num, rfl, Lib.hid (.inl ⟨by omega, by omega⟩), Lib.hid (by have := HCP.out; omega), Lib.hid (HB8.out.setTo c (by rw [HV.out]; try rfl) HS.out), Lib.hid (HK8.out.setCell (p := ⟨gB, c, none⟩) (fun _ => rfl) _)⟩
                  case measure => first | (simp [intOf]; done) | (simp [intOf]; omega)
                · obtain rfl : x = 0 := by omega
                  have hw8 : IntKind.u64.wrap (-8) = 18446744073709551608 := by rw [IntKind.wrap_u64]; omega
                  clear hx HX
                  go_wp2
                  go_roundw
                  case rel => exact ⟨4, c + 1, 18446744073709551608, by omega, by go_num, rfl, Lib.hid (.inr ⟨rfl, rfl⟩), Lib.hid (by have := HCP.out; omega), Lib.hid (HB8.out.setTo c (by rw [HV.out, show (2 : Int) ^ (24 - 8 * 3) = 1 from rfl]; omega) HS.out), Lib.hid (HK8.out.setCell (p := ⟨gB, c, none⟩) (fun _ => rfl) _)⟩
                  case measure => first | (simp [intOf]; done) | (simp [intOf]; omega)
              · obtain rfl : p = 4 := by omega
                obtain rfl : x = 18446744073709551608 := by rcases HX.out with ⟨h, _⟩ | ⟨_, h⟩ <;> omega
                clear HX hp4
                go_wp2
                go_roundw
                case rel => exact ⟨j + 1, c, 0, rfl, by omega, by go_num, rfl, by omega, Lib.hid (.inr ⟨by omega, by have := HCP.out; omega, rfl⟩), HB8, HK8⟩
                case measure => first | (simp [intOf]; done) | (simp [intOf]; omega)
          · obtain rfl : j = m := by omega
            have hcn : c = s.size := by rcases HC.out with ⟨a1, a2, a3⟩ | ⟨a1, a2, a3⟩ <;> (have := HFQ.out.1; omega)
            subst hcn
            have HBE := Lib.hid (show Nw .u8 wr gB 5 (o ++ List.replicate (nb - s.size) 0) from by have := HB7.out; rw [List.take_of_length_le (by rw [HOL.out]; exact Nat.le_refl _)] at this; exact this)
            clear hjm
            go_wp2
            go_meet
            case rel => exact ⟨rfl, HBE, HK7⟩
      case rest =>
        obtain ⟨rfl, HB7, HK7⟩ := hcut
        obtain ⟨w8, rfl⟩ : ∃ x : World, x = wc := ⟨_, rfl⟩
        have hBl : (o ++ List.replicate (nb - s.size) 0).length = nb := by rw [List.length_append, List.length_replicate, HOL.out]; have := HNB.out; omega
        have hBb : Byt (o ++ List.replicate (nb - s.size) 0) := HOB.out.app (fun x hx => by have := (List.mem_replicate.1 hx).2; omega)
        have RB := HB7.out.rd hBl hBb (by omega)
        have KF := Lib.hid (show Kp no w w8 from HK.out.trans HK7.out (fun i hi h => by have h : i = gB := h; have := HGB.out; omega))
        have hzo := HDEC.out.1
        rw [HOL.out] at hzo
        have HDE := Lib.hid HDEC.out.2
        have HZ0 := Lib.hid (zs_zero o)
        have HZS := Lib.hid (zs_stop o (by rw [HOL.out]; exact hzo))
        have HG := Lib.hid (fun i (hi : i < s.size) => (by
          have h := HB7.out.cell i (by rw [hBl]; have := HNB.out; omega)
          rw [h, List.getD_eq_getElem?_getD, List.getElem?_append_left (by rw [HOL.out]; exact hi), ← List.getD_eq_getElem?_getD] : w8.cell? ⟨gB, i, none⟩ = some (.int .u8 (o.getD i 0))))
        have HTK := Lib.hid (show (o ++ List.replicate (nb - s.size) 0).take s.size = o from by rw [List.take_left' HOL.out])
        have RT := Lib.hid (RB.take s.size HNB.out)
        rw [HTK.out] at RT
        have HRD := Lib.hid ((RT.out.drop (zs o) (by omega)))
        rw [← HDE.out] at HRD
        have HDL := Lib.hid (show (decB 36 D).length = s.size - zs o from by rw [HDE.out, List.length_drop, HOL.out])
        clear RB hBl hBb HB7 HK7
        go_wp2
        go_loop [15] (fun iv => ∃ i : Nat, iv = .int .i64 i ∧ i ≤ zs o) (fun iv => s.size - (intOf iv).toNat)
        case atStart => exact ⟨0, rfl, Nat.zero_le _⟩
        case round =>
          obtain ⟨i, rfl, hi⟩ := hrel
          by_cases hiz : i < zs o
          · have c8 := HG.out i (by omega)
            rw [HZ0.out i hiz] at c8
            have hin : (i : Int) < (s.size : Int) := by omega
            have hinb : (i : Int) < (nb : Int) := by have := HNB.out; omega
            go_wp2
            go_round
            case rel => exact ⟨i + 1, by go_num, by omega⟩
            case measure => simp [intOf]; omega
          · obtain rfl : i = zs o := by omega
            have c8 := HG.out (zs o) hzo
            have hb := HOB.out.getD (zs o)
            have hpos : (0 : Int) < o.getD (zs o) 0 := by have := HZS.out; omega
            generalize o.getD (zs o) 0 = v0 at *
            generalize zs o = z at *
            have hin : (z : Int) < (s.size : Int) := by omega
            have hinb : (z : Int) < (nb : Int) := by have := HNB.out; omega
            have hnbi : (s.size : Int) ≤ (nb : Int) := by have := HNB.out; omega
            have hct := cutMid (P := Tryz.prog) Tryz.und_bytes Tryz.size_byte gB nb nb z s.size hzo HNB.out
            have HF := Lib.hid (show Dec36 w D (.returned (.tuple #[.slice (some ⟨gB, z, none⟩) (s.size - z) (s.size - z), Value.nilIface])) w8 from ⟨KF.out, some ⟨gB, z, none⟩, s.size - z, by rw [HDL.out], by
              have h := HRD.out
              rw [if_neg (by have := HNB.out; omega), show (Option.map (fun x : Addr => x.add z) (some ⟨gB, 0, none⟩)) = some ⟨gB, z, none⟩ from by simp [Addr.add]; omega] at h
              rw [HDL.out]
              exact h.capped (Nat.le_refl _) (by omega)⟩)
            clear HRD HDL RT HDE hb
            go_wp2
            go_ret2
            exact HF.out
end Go.Proofs.YtflafpklphgbpaaGreatDoor
