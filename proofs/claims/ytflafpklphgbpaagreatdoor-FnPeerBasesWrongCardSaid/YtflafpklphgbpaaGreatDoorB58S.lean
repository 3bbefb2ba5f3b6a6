/- The reference's PeerBase58. -/
import Derived.Test.YtflafpklphgbpaaGreatDoorDgX
import Derived.Deep.Cut
import Derived.Deep.CutRange
import Derived.Deep.CutBlock
namespace Go.Proofs.YtflafpklphgbpaaGreatDoor
open Go Go.RowKit
set_option linter.unusedVariables false
set_option linter.unusedSimpArgs false
set_option maxRecDepth 100000

theorem Own.blk {w : World} {e : TypeId} {B g n c : Nat} {l : List Int} (h : Own w e B (.slice (some ⟨g, 0, none⟩) n c) l) : ∃ cur, Blk w g cur e ∧ B ≤ g ∧ n = l.length ∧ n ≤ c ∧ c ≤ 9223372036854775807 ∧ cur.size = c ∧ cur.toList.take l.length = nums .u8 l := by
  rcases h.row.2 with ⟨hv, _⟩ | ⟨g', cap, cur, hv, hb, hh, hnc, hcm, hsz, ht⟩
  · cases hv
  · injection hv with h1 h2 h3
    injection h1 with h1
    injection h1 with h1
    subst h1 h2 h3
    simp only [maxLen] at hcm
    exact ⟨cur, hh, hb, rfl, hnc, by omega, by simpa using hsz, by simpa using ht⟩
theorem Own.cellAt {w : World} {e : TypeId} {B g n c : Nat} {l : List Int} (h : Own w e B (.slice (some ⟨g, 0, none⟩) n c) l) (j : Nat) (hj : j < l.length) : w.cell? ⟨g, j, none⟩ = some (.int .u8 (l.getD j 0)) := by
  obtain ⟨cur, hb, _, _, _, _, _, ht⟩ := h.blk
  rw [hb.cell j]
  have h2 : (nums .u8 l)[j]? = cur.toList[j]? := by rw [← ht, List.getElem?_take, if_pos hj]
  rw [show cur[j]? = cur.toList[j]? from by simp, ← h2]
  simp [nums, List.getD_eq_getElem?_getD, List.getElem?_eq_getElem hj]
theorem Own.freeAt {w : World} {e : TypeId} {B g n c : Nat} {l : List Int} (h : Own w e B (.slice (some ⟨g, 0, none⟩) n c) l) (j : Nat) : w.frozen? ⟨g, j, none⟩ = false := by
  obtain ⟨cur, hb, _⟩ := h.blk
  exact hb.free j
theorem Own.set {w : World} {e : TypeId} {B g n c : Nat} {l : List Int} (h : Own w e B (.slice (some ⟨g, 0, none⟩) n c) l) (j : Nat) (v : Int) (h0 : 0 ≤ v) (h1 : v < 256) : Own (w.setCell ⟨g, j, none⟩ (.int .u8 v)) e B (.slice (some ⟨g, 0, none⟩) n c) (l.set j v) := by
  obtain ⟨cur, hb, hB, rfl, hnc, hc, hsz, ht⟩ := h.blk
  refine ⟨⟨by simp [nums], .inr ⟨g, c, cur.setIfInBounds j (.int .u8 v), by simp, hB, hb.set j _, by simpa using hnc, by simp only [maxLen]; omega, by simpa using hsz, ?_⟩⟩, fun x hx => ?_⟩
  · simp only [List.length_set, Nat.mul_one, Array.toList_setIfInBounds, List.take_set]
    rw [ht]
    simp [nums, List.map_set]
  · rcases List.mem_or_eq_of_mem_set hx with hx | rfl
    · exact h.byt x hx
    · exact ⟨h0, h1⟩
theorem set_last (N M : List Int) (r : Nat) (hr : r < N.length) (v : Int) : (N.take (r + 1) ++ M).set r v = N.take r ++ (v :: M) := by
  rw [List.take_succ_eq_append_getElem hr, List.append_assoc, List.set_append_right _ _ (by simp; omega)]
  simp [Nat.min_eq_left (Nat.le_of_lt hr)]
theorem mul58_next (c : Int) (N : List Int) (r : Nat) (hr : r < N.length) : mul58 c (N.drop r) = (((mul58 c (N.drop (r + 1))).1 + N.getD r 0 * 256) / 58, ((mul58 c (N.drop (r + 1))).1 + N.getD r 0 * 256) % 58 :: (mul58 c (N.drop (r + 1))).2) := by
  rw [List.drop_eq_getElem_cons hr]
  simp [mul58, List.getD_eq_getElem?_getD, List.getElem?_eq_getElem hr]

theorem Own.form {w : World} {e : TypeId} {B n c : Nat} {A : Option Addr} {l : List Int} (h : Own w e B (.slice A n c) l) (hp : 0 < n) : ∃ g, A = some ⟨g, 0, none⟩ := by
  rcases h.row.2 with ⟨hv, _⟩ | ⟨g', cap, cur, hv, _⟩
  · injection hv with h1 h2; omega
  · injection hv with h1; exact ⟨g', h1⟩
theorem getD_mid (N M : List Int) (r : Nat) (hr : r < N.length) : (N.take (r + 1) ++ M).getD r 0 = N.getD r 0 := by
  rw [List.getD_eq_getElem?_getD, List.getElem?_append_left (by simp; omega), List.getElem?_take, if_pos (by omega), ← List.getD_eq_getElem?_getD]
theorem pre58_step {k : Int} (h0 : 0 < k) (h1 : k ≤ 255) (M : List Int) : pre58 k M = pre58 (k / 58) (k % 58 :: M) := by
  unfold pre58
  rw [if_neg (by omega)]
  by_cases h : k < 58
  · rw [if_pos h, if_pos (by omega)]
    congr 1
    omega
  · rw [if_neg h, if_neg (by omega), if_pos (by omega)]
theorem mul58_len (c : Int) : ∀ N : List Int, (mul58 c N).2.length = N.length
  | [] => rfl
  | d :: N => by simp [mul58, mul58_len c N]
theorem dstep_len (N : List Int) (c : Int) : (dstep N c).length ≤ N.length + 2 := by
  have := mul58_len c N
  unfold dstep pre58
  split
  · omega
  · split <;> simp only [List.length_cons] <;> omega
theorem cat_one (xs : List Int) (d : Int) : strOfNums xs ++ ⟨#[UInt8.ofNat d.toNat]⟩ = strOfNums (xs ++ [d]) := by
  apply ByteArray.ext
  simp [strOfNums]
theorem sub58 (d : Int) (h0 : 0 ≤ d) (h1 : d < 58) : ∀ W : World, (Instr.slice 9 (.string ⟨#[49, 50, 51, 52, 53, 54, 55, 56, 57, 65, 66, 67, 68, 69, 70, 71, 72, 74, 75, 76, 77, 78, 80, 81, 82, 83, 84, 85, 86, 87, 88, 89, 90, 97, 98, 99, 100, 101, 102, 103, 104, 105, 106, 107, 109, 110, 111, 112, 113, 114, 115, 116, 117, 118, 119, 120, 121, 122]⟩) (some (.int .u8 d)) (some (.int .u8 (d + 1))) none).run Tryz.prog W = .ok (.string ⟨#[UInt8.ofNat (sign d).toNat]⟩) W := by
  intro W
  rw [run_slice_string W 9 _ .u8 .u8 d (d + 1) Tryz.underlying9 h0 (by omega) (by show d + 1 ≤ 58; omega)]
  have h : ∀ i : Nat, i < 58 → (⟨#[49, 50, 51, 52, 53, 54, 55, 56, 57, 65, 66, 67, 68, 69, 70, 71, 72, 74, 75, 76, 77, 78, 80, 81, 82, 83, 84, 85, 86, 87, 88, 89, 90, 97, 98, 99, 100, 101, 102, 103, 104, 105, 106, 107, 109, 110, 111, 112, 113, 114, 115, 116, 117, 118, 119, 120, 121, 122]⟩ : ByteArray).extract i (i + 1) = ⟨#[UInt8.ofNat (alpha.getD i 0).toNat]⟩ := by decide
  have := h d.toNat (by omega)
  rw [show (d + 1).toNat = d.toNat + 1 from by omega, this]
  rfl
/-- The number so far. -/
def NumAt (w : World) (N : List Int) (v : Value) (wx : World) : Prop := ∃ B1 c1, v = .slice B1 N.length c1 ∧ Own wx 5 w.heap.size (.slice B1 N.length c1) N ∧ Kp no w wx

set_option maxHeartbeats 8000000 in
theorem sBase58_calls {w : World} {A : Option Addr} {n c : Nat} {l : List Int} (h : Rd w A n c l) (hn : n ≤ 100) :
    Calls Tryz.prog 19 #[.slice A n c] w fun e w' => e = .returned (.string (strOfNums (text58 l))) ∧ Kp no w w' := by
  obtain rfl := h.len
  have hcap := h.cap
  have hmax := h.max
  have HB := Lib.hid h.byt
  go_enter Tryz.func19, Tryz.ntmps19
  go_wp2
  go_loopw [3, 14] (fun v iv wr => ∃ (i : Nat) (N : List Int), i ≤ l.length ∧ iv = .int .i64 i ∧ NumAt w N v wr ∧ Hid (N = dig58 (l.take i)) ∧ N.length ≤ 1 + 2 * i) (fun _ iv _ => l.length - (intOf iv).toNat)
  case atStart => exact ⟨0, [], Nat.zero_le _, rfl, ⟨none, 0, rfl, Own.nil _ _ _, Kp.refl _ _⟩, Lib.hid rfl, by simp⟩
  case round =>
    obtain ⟨i, N, hi0, rfl, ⟨B1, c1, rfl, O1, k1⟩, HN, hNl⟩ := hrel
    by_cases hlt : i < l.length
    · obtain ⟨g, o, rfl, hc⟩ := h.at_ (by omega)
      have hci := k1.cellN (hc i hlt)
      have hbi : 0 ≤ l.getD i 0 ∧ l.getD i 0 < 256 := by
        have := HB.out (l.getD i 0) (by rw [List.getD_eq_getElem?_getD, List.getElem?_eq_getElem hlt]; simp)
        omega
      have HT := Lib.hid (dig58_take l i hlt)
      have HD := Lib.hid (show Dg8 N from by rw [HN.out]; exact dig58_ok (HB.out.take i))
      generalize l.getD i 0 = y at *
      clear hc
      obtain ⟨wo, rfl⟩ : ∃ wo : World, wo = wr := ⟨_, rfl⟩
      go_upto_block 1 with (fail)
      go_cut [3] from 16 to 52 (fun v wx => ∃ F, NumAt w F v wx ∧ Hid (F = dstep N y))
      case first =>
        go_upto_block 2 with (fail)
        go_cut [6, 7] from 23 to 42 (fun kv jv wx => ∃ (k : Int) (M : List Int), kv = .int .i64 k ∧ 0 ≤ k ∧ k ≤ 255 ∧ Hid ((k, M) = mul58 y N) ∧ Own wx 5 w.heap.size (.slice B1 N.length c1) M ∧ M.length = N.length ∧ Kp no w wx)
        case first =>
          have HI : Hid ((y, ([] : List Int)) = mul58 y (N.drop N.length)) := Lib.hid (by simp [mul58])
          have OI : Own wo 5 w.heap.size (.slice B1 N.length c1) (N.take N.length ++ []) := by simpa using O1
          go_wp2
          go_loopw [6, 7] (fun kv jv wr => ∃ (r : Nat) (j k : Int) (M : List Int), r ≤ N.length ∧ jv = .int .i64 j ∧ j = r - 1 ∧ kv = .int .i64 k ∧ 0 ≤ k ∧ k ≤ 255 ∧ Hid ((k, M) = mul58 y (N.drop r)) ∧ Own wr 5 w.heap.size (.slice B1 N.length c1) (N.take r ++ M) ∧ Kp no w wr) (fun _ jv _ => (intOf jv + 1).toNat)
          case atStart => exact ⟨N.length, _, y, [], Nat.le_refl _, rfl, by omega, rfl, hbi.1, by omega, HI, OI, k1⟩
          case round =>
            obtain ⟨r, j, k, M, hr0, rfl, hj, rfl, hk0, hk1, HM, O2, k2⟩ := hrel
            cases r with
            | zero =>
              have hj2 : j < 0 := by omega
              clear hj
              have HM2 := Lib.hid (show (k, M) = mul58 y N from by simpa using HM.out)
              have O3 : Own wr 5 w.heap.size (.slice B1 N.length c1) M := by simpa using O2
              go_wp2
              go_meet
              case rel =>
                have hml : M.length = N.length := by
                  have := (mul58_ok hbi.1 (by omega) HD.out).2.2.2
                  rw [← HM2.out] at this; exact this
                exact ⟨k, M, rfl, hk0, hk1, HM2, O3, hml, k2⟩
            | succ r =>
              obtain rfl : j = (r : Int) := by omega
              obtain ⟨gB, hgB⟩ := O2.form (by omega)
              subst hgB
              have hc1 := O2.cellAt r (by simp; omega)
              rw [getD_mid N M r (by omega)] at hc1
              have hf1 := O2.freeAt r
              have hd := HD.out (N.getD r 0) (by rw [List.getD_eq_getElem?_getD, List.getElem?_eq_getElem (by omega)]; simp)
              have HNX := Lib.hid (mul58_next y N r (by omega))
              have HSL := Lib.hid (set_last N M r (by omega))
              generalize N.getD r 0 = d at *
              clear hj
              have hlr : r < N.length := by omega
              go_wp2
              go_roundw
              case rel =>
                have hO := O2.set r ((k + d * 256) % 58) (by omega) (by omega)
                rw [HSL.out] at hO
                exact ⟨r, _, _, (k + d * 256) % 58 :: M, by omega, rfl, rfl, rfl, by omega, by omega, Lib.hid (by rw [HNX.out, ← HM.out]), hO, k2.setCell (p := ⟨gB, r, none⟩) (fun hh => by have := (O2.base gB rfl).1; have hh : gB < w.heap.size := hh; omega) _⟩
              case measure => first | (simp [intOf]; done) | (simp [intOf]; omega)
        case rest =>
          obtain ⟨k, M, rfl, hk0, hk1, HM, O2, hml, k2⟩ := hcut
          obtain ⟨wp, rfl⟩ : ∃ wp : World, wp = wc := ⟨_, rfl⟩
          rw [← hml] at O2 hNl ⊢
          have HI : Hid (pre58 k M = dstep N y) := Lib.hid (by unfold dstep; rw [← HM.out])
          have HL := Lib.hid (show (dstep N y).length ≤ N.length + 2 from dstep_len N y)
          have hml' : M.length ≤ 1 + 2 * i := hNl
          go_wp2
          go_loopw [3, 6] (fun v kv wr => ∃ (k : Int) (M : List Int), kv = .int .i64 k ∧ 0 ≤ k ∧ k ≤ 255 ∧ NumAt w M v wr ∧ Hid (pre58 k M = dstep N y) ∧ M.length ≤ 400 + 255 - k) (fun _ kv _ => (intOf kv).toNat)
          case atStart => exact ⟨k, M, rfl, hk0, hk1, ⟨B1, c1, rfl, O2, k2⟩, HI, by omega⟩
          case round =>
            obtain ⟨k', M', rfl, hk0', hk1', ⟨B3, c3, rfl, O3, k3⟩, HP, hl3⟩ := hrel
            by_cases hkz : 0 < k'
            · have HS := Lib.hid (pre58_step hkz hk1' M')
              have ka : Kp no wr (wr.alloc (.cells (nums .u8 [k' % 58]).toArray 5)) := (Kp.refl _ _).alloc _
              have OL := Own.lit wr 5 w.heap.size [k' % 58] k3.size (Byt.one (by omega) (by omega)) (by simp)
              obtain ⟨A9, c9, h9, R9, _⟩ := O3.rd
              injection h9 with h9 _ h9'
              subst h9 h9'
              have R3 := R9.keepN ka
              go_wp2_with (first | (at_builtin; refine own_append w.heap.size rfl (.tmp 48) (.tmp 49) 23 5 rfl Tryz.und_bytes Tryz.info_byte (.slice (some ⟨wr.heap.size, 0, none⟩) 1 1) [k' % 58] M' B3 M'.length c3 rfl rfl OL R3 (by have := k3.size; simp; omega) (by simp; omega) ?_; intro v4 w4 O4 hk4 hw4 _; have k4 : Kp no w w4 := (k3.then ka).own OL (Nat.le_refl _) hk4))
              obtain ⟨A5, c5, rfl, _, _⟩ := O4.rd
              go_roundw
              case rel => exact ⟨by omega, by omega, k' % 58 :: M', ⟨A5, c5, rfl, O4, k4⟩, Lib.hid (by rw [← HS.out]; exact HP.out), by simp only [List.length_cons]; omega⟩
              case measure => first | (simp [intOf]; done) | (simp [intOf]; omega)
            · have HF := Lib.hid (show M' = dstep N y from by rw [← HP.out]; unfold pre58; rw [if_pos (by omega)])
              go_wp2
              go_meet
              case rel => exact ⟨M', ⟨B3, c3, rfl, O3, k3⟩, HF⟩
      case rest =>
        obtain ⟨F, hF, HF⟩ := hcut
        obtain ⟨B5, c5, rfl, O5, k5⟩ := hF
        go_wp2
        go_roundw
        case rel => exact ⟨i + 1, F, by omega, by go_num, ⟨B5, c5, rfl, O5, k5⟩, Lib.hid (by rw [HF.out, HT.out, HN.out]), by rw [HF.out]; have := dstep_len N y; omega⟩
        case measure => first | (simp [intOf]; done) | (simp [intOf]; omega)
    · obtain rfl : i = l.length := by omega
      have HN2 := Lib.hid (show N = dig58 l from by rw [HN.out, List.take_length])
      have HD := Lib.hid (show Dg8 N from by rw [HN2.out]; exact dig58_ok HB.out)
      have hzl := zs_le l
      have HZ0 := Lib.hid (zs_zero l)
      have HZS := Lib.hid (zs_stop l)
      have hl1 := h.keepN k1
      obtain ⟨wo, rfl⟩ : ∃ wo : World, wo = wr := ⟨_, rfl⟩
      go_upto_block 6 with (fail)
      go_cut [8] from 54 (fun sv wx => sv = .string (strOfNums (List.replicate (zs l) 49)) ∧ wx = wo)
      case first =>
        go_wp2
        go_loop [8, 9] (fun sv iv => ∃ (i : Nat) (s : ByteArray), iv = .int .i64 i ∧ i ≤ zs l ∧ sv = .string s ∧ s.size ≤ 200 ∧ Hid (s = strOfNums (List.replicate i 49))) (fun _ iv => l.length - (intOf iv).toNat)
        case atStart => exact ⟨0, _, rfl, Nat.zero_le _, rfl, by decide, Lib.hid rfl⟩
        case round =>
          obtain ⟨i, s, rfl, hi, rfl, hs, HS⟩ := hrel
          by_cases hiz : i < zs l
          · obtain ⟨g, o, hA0, hc⟩ := hl1.at_ (by omega)
            subst hA0
            have cz := hc i (by omega)
            rw [HZ0.out i hiz] at cz
            have hss : ¬ 9223372036854775807 < s.size + 1 := by omega
            have hil : (i : Int) < (l.length : Int) := by omega
            have hsi : s.size = i := by rw [HS.out, strOfNums_size, List.length_replicate]
            have HSI := Lib.hid hsi
            clear hc hsi
            go_wp2
            go_round
            case rel => exact ⟨i + 1, s ++ ⟨#[49]⟩, by go_num, by omega, rfl, by rw [ByteArray.size_append]; have := HSI.out; show s.size + 1 ≤ 200; omega, Lib.hid (by rw [HS.out, List.replicate_succ']; exact cat_one _ 49)⟩
            case measure => simp [intOf]; omega
          · obtain rfl : i = zs l := by omega
            have HR := Lib.hid (show s = strOfNums (List.replicate (zs l) 49) from HS.out)
            by_cases hil : zs l < l.length
            · obtain ⟨g, o, hA0, hc⟩ := hl1.at_ (by omega)
              subst hA0
              have cz := hc (zs l) (by omega)
              have hne := HZS.out hil
              have hne2 : (l.getD (zs l) 0 == 0) = false := beq_eq_false_iff_ne.2 hne
              generalize l.getD (zs l) 0 = y at *
              generalize zs l = z at *
              clear hc
              go_wp2
              go_meet
              case rel => exact ⟨by rw [HR.out], rfl⟩
            · have hge : ¬ (zs l : Int) < (l.length : Int) := by omega
              generalize zs l = z at *
              clear hil
              go_wp2
              go_meet
              case rel => exact ⟨by rw [HR.out], rfl⟩
      case rest =>
        obtain ⟨rfl, rfl⟩ := hcut
        have hsz : (strOfNums (List.replicate (zs l) 49)).size ≤ 200 := by rw [strOfNums_size, List.length_replicate]; omega
        have HI := Lib.hid (show strOfNums (List.replicate (zs l) 49) = strOfNums (List.replicate (zs l) (49 : Int) ++ (N.take 0).map sign) from by simp)
        have HTX := Lib.hid (show text58 l = List.replicate (zs l) 49 ++ N.map sign from by rw [HN2.out]; rfl)
        obtain ⟨s0, hs0⟩ : ∃ s, s = strOfNums (List.replicate (zs l) 49) := ⟨_, rfl⟩
        rw [← hs0] at hsz HI ⊢
        have HRL := Lib.hid (show (List.replicate (zs l) (49 : Int)).length ≤ 100 from by rw [List.length_replicate]; omega)
        generalize List.replicate (zs l) (49 : Int) = R at *
        clear hs0
        obtain ⟨A9, c9, h9, R9, _⟩ := O1.rd
        injection h9 with h9 _ h9'
        subst h9 h9'
        go_wp2
        go_loop [8, 71] (fun sv iv => ∃ (j : Nat) (s : ByteArray), iv = .int .i64 j ∧ j ≤ N.length ∧ sv = .string s ∧ s.size ≤ 1000 ∧ Hid (s = strOfNums (R ++ (N.take j).map sign))) (fun _ iv => N.length - (intOf iv).toNat)
        case atStart => exact ⟨0, s0, rfl, Nat.zero_le _, rfl, by omega, HI⟩
        case round =>
          obtain ⟨j, s, rfl, hj, rfl, hs, HS⟩ := hrel
          by_cases hjl : j < N.length
          · obtain ⟨g, o, hA0, hc⟩ := R9.at_ (by omega)
            subst hA0
            have cz := hc j hjl
            have hd := HD.out (N.getD j 0) (by rw [List.getD_eq_getElem?_getD, List.getElem?_eq_getElem hjl]; simp)
            have HT2 := Lib.hid (show (N.take (j + 1)).map sign = (N.take j).map sign ++ [sign (N.getD j 0)] from by
              rw [List.take_succ_eq_append_getElem hjl, List.map_append]
              simp [List.getD_eq_getElem?_getD, List.getElem?_eq_getElem hjl])
            have hss : s.size = (R ++ (N.take j).map sign).length := by rw [HS.out, strOfNums_size]
            have hsl2 : s.size ≤ 400 := by
              rw [hss, List.length_append, List.length_map, List.length_take]
              have := HRL.out
              omega
            clear hss hc
            generalize N.getD j 0 = d at *
            have hsub := sub58 d hd.1 hd.2
            obtain ⟨t, ht⟩ : ∃ t : ByteArray, t = ⟨#[UInt8.ofNat (sign d).toNat]⟩ := ⟨_, rfl⟩
            rw [← ht] at hsub
            have hts : t.size = 1 := by rw [ht]; rfl
            have hss2 : ¬ 9223372036854775807 < s.size + t.size := by omega
            have HT3 := Lib.hid ht
            clear ht
            go_wp2
            go_round
            case rel => exact ⟨j + 1, s ++ t, by go_num, by omega, rfl, by rw [ByteArray.size_append]; omega, Lib.hid (by rw [HT2.out, ← List.append_assoc, ← cat_one, HS.out, HT3.out])⟩
            case measure => simp [intOf]; omega
          · obtain rfl : j = N.length := by omega
            have HF := Lib.hid (show s = strOfNums (text58 l) from by rw [HS.out, List.take_length, HTX.out])
            go_wp2
            go_ret
            exact ⟨by rw [← HF.out]; rfl, k1⟩
end Go.Proofs.YtflafpklphgbpaaGreatDoor
