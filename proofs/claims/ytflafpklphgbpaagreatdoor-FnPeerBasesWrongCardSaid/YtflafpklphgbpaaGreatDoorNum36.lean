/- spec.peerNumber at the bases 58 and 36: digits of a number. -/
import Derived.Test.YtflafpklphgbpaaGreatDoorBiX
import Derived.Test.YtflafpklphgbpaaGreatDoorNuA
import Derived.Test.YtflafpklphgbpaaGreatDoorB58S
import Derived.LoopN
namespace Go.Proofs.YtflafpklphgbpaaGreatDoor
open Go Go.RowKit
set_option linter.unusedVariables false
set_option linter.unusedSimpArgs false
set_option maxRecDepth 100000

theorem subG8 (dl : List Int) (n : Nat) (hn : dl.length = n) (hm : n ≤ 100) : Hid (∀ d : Int, 0 ≤ d → d < (n : Int) → ∀ W : World, (Instr.slice 9 (.string (strOfNums dl)) (some (.int .u8 d)) (some (.int .u8 (d + 1))) none).run Tryz.prog W = .ok (.string ⟨#[UInt8.ofNat (ltr dl d).toNat]⟩) W) := by
  refine Lib.hid (fun d h0 h1 W => ?_)
  have hs := strOfNums_size dl
  rw [run_slice_string W 9 _ .u8 .u8 d (d + 1) Tryz.underlying9 h0 (by omega) (by omega)]
  have e : (strOfNums dl).extract d.toNat (d + 1).toNat = ⟨#[UInt8.ofNat (ltr dl d).toNat]⟩ := by
    apply ByteArray.ext
    apply Array.toList_inj.1
    rw [ByteArray.data_extract, Array.toList_extract, strOfNums_data, show (d + 1).toNat = d.toNat + 1 from by omega]
    simp only [List.extract, Nat.add_sub_cancel_left, ltr]
    rw [List.drop_eq_getElem_cons (by simp; omega)]
    simp [List.getD_eq_getElem?_getD, List.getElem?_eq_getElem (show d.toNat < dl.length by omega)]
  rw [e]
set_option maxHeartbeats 8000000 in
theorem num58_calls {w : World} {A : Option Addr} {n c : Nat} {l dl : List Int} {al : ByteArray} (h : Rd w A n c l) (hn : n ≤ 100) (hn0 : 0 < n) (hz : l.getD 0 0 ≠ 0) (hsz : (al.size : Int) = 58)
    (hsub0 : Hid (∀ d : Int, 0 ≤ d → d < 58 → ∀ W : World, (Instr.slice 9 (.string al) (some (.int .u8 d)) (some (.int .u8 (d + 1))) none).run Tryz.prog W = .ok (.string ⟨#[UInt8.ofNat (ltr dl d).toNat]⟩) W)) :
    Calls Tryz.prog 15 #[.slice A n c, .string al] w fun e w' => e = .returned (.string (strOfNums ((dig58 l).map (ltr dl)))) ∧ Kp no w w' := by
  obtain rfl := h.len
  have hcap := h.cap
  have hmax := h.max
  have HB := Lib.hid h.byt
  go_enter Tryz.func15, Tryz.ntmps15
  have HZ := Lib.hid hz
  clear hz
  go_wp2
  go_loopw [6, 19] (fun v iv wr => ∃ (i : Nat) (N : List Int), i ≤ l.length ∧ iv = .int .i64 i ∧ NumAt w N v wr ∧ Hid (N = dig58 (l.take i)) ∧ N.length ≤ 1 + 2 * i) (fun _ iv _ => l.length - (intOf iv).toNat)
  case atStart => exact ⟨0, [], Nat.zero_le _, rfl, ⟨none, 0, rfl, Own.nil _ _ _, Kp.refl _ _⟩, Lib.hid rfl, by simp⟩
  case round =>
    obtain ⟨i, N, hi0, rfl, ⟨B1, c1, rfl, O1, k1⟩, HN, hNl⟩ := hrel
    by_cases hlt : i < l.length
    · obtain ⟨g, o, rfl, hc⟩ := h.at_ (by omega)
      have hci := k1.cellN (hc i hlt)
      have hbi : 0 ≤ l.getD i 0 ∧ l.getD i 0 < 256 := by
        have := HB.out (l.getD i 0) (by rw [List.getD_eq_getElem?_getD, List.getElem?_eq_getElem hlt]; simp)
        omega
      have HT := Lib.hid (dig58_take l i hlt)
      have HD := Lib.hid (show Dg8 N from by rw [HN.out]; exact dig58_ok (HB.out.take i))
      generalize l.getD i 0 = y at *
      clear hc
      obtain ⟨wo, rfl⟩ : ∃ wo : World, wo = wr := ⟨_, rfl⟩
      go_upto_block 1 with (fail)
      go_cut [6] from 23 to 62 (fun v wx => ∃ F, NumAt w F v wx ∧ Hid (F = dstep N y))
      case first =>
        go_upto_block 2 with (fail)
        go_cut [9, 10] from 28 to 49 (fun kv jv wx => ∃ (k : Int) (M : List Int), kv = .int .i64 k ∧ 0 ≤ k ∧ k ≤ 255 ∧ Hid ((k, M) = mul58 y N) ∧ Own wx 5 w.heap.size (.slice B1 N.length c1) M ∧ M.length = N.length ∧ Kp no w wx)
        case first =>
          have HI : Hid ((y, ([] : List Int)) = mul58 y (N.drop N.length)) := Lib.hid (by simp [mul58])
          have OI : Own wo 5 w.heap.size (.slice B1 N.length c1) (N.take N.length ++ []) := by simpa using O1
          go_wp2
          go_loopw [9, 10] (fun kv jv wr => ∃ (r : Nat) (j k : Int) (M : List Int), r ≤ N.length ∧ jv = .int .i64 j ∧ j = r - 1 ∧ kv = .int .i64 k ∧ 0 ≤ k ∧ k ≤ 255 ∧ Hid ((k, M) = mul58 y (N.drop r)) ∧ Own wr 5 w.heap.size (.slice B1 N.length c1) (N.take r ++ M) ∧ Kp no w wr) (fun _ jv _ => (intOf jv + 1).toNat)
          case atStart => exact ⟨N.length, _, y, [], Nat.le_refl _, rfl, by omega, rfl, hbi.1, by omega, HI, OI, k1⟩
          case round =>
            obtain ⟨r, j, k, M, hr0, rfl, hj, rfl, hk0, hk1, HM, O2, k2⟩ := hrel
            cases r with
            | zero =>
              have hj2 : j < 0 := by omega
              clear hj
              have HM2 := Lib.hid (show (k, M) = mul58 y N from by simpa using HM.out)
              have O3 : Own wr 5 w.heap.size (.slice B1 N.length c1) M := by simpa using O2
              go_wp2
              go_meet
              case rel =>
                have hml : M.length = N.length := by
                  have := (mul58_ok hbi.1 (by omega) HD.out).2.2.2
                  rw [← HM2.out] at this; exact this
                exact ⟨k, M, rfl, hk0, hk1, HM2, O3, hml, k2⟩
            | succ r =>
              obtain rfl : j = (r : Int) := by omega
              obtain ⟨gB, hgB⟩ := O2.form (by omega)
              subst hgB
              have hc1 := O2.cellAt r (by simp; omega)
              rw [getD_mid N M r (by omega)] at hc1
              have hf1 := O2.freeAt r
              have hd := HD.out (N.getD r 0) (by rw [List.getD_eq_getElem?_getD, List.getElem?_eq_getElem (by omega)]; simp)
              have HNX := Lib.hid (mul58_next y N r (by omega))
              have HSL := Lib.hid (set_last N M r (by omega))
              generalize N.getD r 0 = d at *
              clear hj
              have hlr : r < N.length := by omega
              go_wp2
              go_roundw
              case rel =>
                have hO := O2.set r ((k + d * 256) % 58) (by omega) (by omega)
                rw [HSL.out] at hO
                exact ⟨r, _, _, (k + d * 256) % 58 :: M, by omega, rfl, rfl, rfl, by omega, by omega, Lib.hid (by rw [HNX.out, ← HM.out]), hO, k2.setCell (p := ⟨gB, r, none⟩) (fun hh => by have := (O2.base gB rfl).1; have hh : gB < w.heap.size := hh; omega) _⟩
              case measure => first | (simp [intOf]; done) | (simp [intOf]; omega)
        case rest =>
          obtain ⟨k, M, rfl, hk0, hk1, HM, O2, hml, k2⟩ := hcut
          obtain ⟨wp, rfl⟩ : ∃ wp : World, wp = wc := ⟨_, rfl⟩
          rw [← hml] at O2 hNl ⊢
          clear hml
          have HI : Hid (pre58 k M = dstep N y) := Lib.hid (by unfold dstep; rw [← HM.out])
          have HL := Lib.hid (show (dstep N y).length ≤ N.length + 2 from dstep_len N y)
          have hml' : M.length ≤ 1 + 2 * i := hNl
          go_wp2
          go_loopw [6, 9] (fun v kv wr => ∃ (k : Int) (M : List Int), kv = .int .i64 k ∧ 0 ≤ k ∧ k ≤ 255 ∧ NumAt w M v wr ∧ Hid (pre58 k M = dstep N y) ∧ M.length ≤ 400 + 255 - k) (fun _ kv _ => (intOf kv).toNat)
          case atStart => exact ⟨k, M, rfl, hk0, hk1, ⟨B1, c1, rfl, O2, k2⟩, HI, by omega⟩
          case round =>
            obtain ⟨k', M', rfl, hk0', hk1', ⟨B3, c3, rfl, O3, k3⟩, HP, hl3⟩ := hrel
            by_cases hkz : 0 < k'
            · have HS := Lib.hid (pre58_step hkz hk1' M')
              have ka : Kp no wr (wr.alloc (.cells (nums .u8 [k' % 58]).toArray 5)) := (Kp.refl _ _).alloc _
              obtain ⟨A9, c9, h9, R9, _⟩ := O3.rd
              injection h9 with h9 _ h9'
              subst h9 h9'
              have R3 := R9.keepN ka
              have RL := Rd.lit wr 5 [k' % 58] (Byt.one (by omega) (by omega)) (by simp)
              have D3 := Lib.hid (Concat_to (l := k' % 58 :: M') (RdS.lit (wr.alloc (.cells (nums .u8 [k' % 58]).toArray 5)) 23 [⟨_, _, _, [k' % 58]⟩, ⟨B3, M'.length, c3, M'⟩] (by
                intro s hs
                simp only [List.mem_cons, List.not_mem_nil, or_false] at hs
                rcases hs with rfl | rfl
                · exact RL
                · exact R3) (by simp)) (by simp; omega) (by simp))
              rw [show (wr.alloc (.cells (nums .u8 [k' % 58]).toArray 5)).heap.size = wr.heap.size + 1 from by simp] at D3
              have HK3 := Lib.hid (k3.then ka)
              have HKB := Lib.hid (show Kp no (wr.alloc (.cells (nums .u8 [k' % 58]).toArray 5)) ((wr.alloc (.cells (nums .u8 [k' % 58]).toArray 5)).alloc (.cells #[.slice (some ⟨wr.heap.size, 0, none⟩) 1 1, .slice B3 M'.length c3] 23)) from (Kp.refl _ _).alloc _)
              clear R9 R3 RL ka
              go_wp2_with (fail)
              refine D3.out.mono ?_
              rintro e w4 ⟨A5, c5, rfl, M4⟩
              have k4 : Kp no w w4 := (HK3.out.then HKB.out).then M4.kp
              have O4 : Own w4 5 w.heap.size (.slice A5 (k' % 58 :: M').length c5) (k' % 58 :: M') := (M4.up (HK3.out.then HKB.out)).own
              clear M4 D3
              go_wp2
              go_roundw
              case rel => exact ⟨k' / 58, k' % 58 :: M', rfl, by omega, by omega, ⟨A5, c5, rfl, O4, k4⟩, Lib.hid (by rw [← HS.out]; exact HP.out), by simp only [List.length_cons]; omega⟩
              case measure => first | (simp [intOf]; done) | (simp [intOf]; omega)
            · have HF := Lib.hid (show M' = dstep N y from by rw [← HP.out]; unfold pre58; rw [if_pos (by omega)])
              go_wp2
              go_meet
              case rel => exact ⟨M', ⟨B3, c3, rfl, O3, k3⟩, HF⟩
      case rest =>
        obtain ⟨F, hF, HF⟩ := hcut
        obtain ⟨B5, c5, rfl, O5, k5⟩ := hF
        go_wp2
        go_roundw
        case rel => exact ⟨i + 1, F, by omega, by go_num, ⟨B5, c5, rfl, O5, k5⟩, Lib.hid (by rw [HF.out, HT.out, HN.out]), by rw [HF.out]; have := dstep_len N y; omega⟩
        case measure => first | (simp [intOf]; done) | (simp [intOf]; omega)
    · obtain rfl : i = l.length := by omega
      have HN2 := Lib.hid (show N = dig58 l from by rw [HN.out, List.take_length])
      have HD := Lib.hid (show Dg8 N from by rw [HN2.out]; exact dig58_ok HB.out)
      obtain ⟨wo, rfl⟩ : ∃ wo : World, wo = wr := ⟨_, rfl⟩
      obtain ⟨A9, c9, h9, R9, _⟩ := O1.rd
      injection h9 with h9 _ h9'
      subst h9 h9'
      have hne := HZ.out
      have hne2 : (l.getD 0 0 == 0) = false := beq_eq_false_iff_ne.2 hne
      obtain ⟨g0, o0, hA0, hc0⟩ := (h.keepN k1).at_ hn0
      subst hA0
      have cz0 := hc0 0 hn0
      generalize l.getD 0 0 = y0 at *
      rw [Nat.add_zero] at cz0
      clear hc0 HZ
      have hli : (0 : Int) < (l.length : Int) := by omega
      have HI := Lib.hid (show (⟨#[]⟩ : ByteArray) = strOfNums ((N.take 0).map (ltr dl)) from by simp; rfl)
      go_wp2
      refine wp_loop_rounds 1 ?_
      rw [rounds_succ]
      go_wp2
      go_loop [11, 83] (fun sv iv => ∃ (j : Nat) (s : ByteArray), iv = .int .i64 j ∧ j ≤ N.length ∧ sv = .string s ∧ s.size ≤ 1000 ∧ Hid (s = strOfNums ((N.take j).map (ltr dl)))) (fun _ iv => N.length - (intOf iv).toNat)
      case atStart => exact ⟨0, _, rfl, Nat.zero_le _, rfl, by decide, HI⟩
      case round =>
        obtain ⟨j, s, rfl, hj, rfl, hs, HS⟩ := hrel
        by_cases hjl : j < N.length
        · obtain ⟨g, o, hA0, hc⟩ := R9.at_ (by omega)
          subst hA0
          have cz := hc j hjl
          have hd := HD.out (N.getD j 0) (by rw [List.getD_eq_getElem?_getD, List.getElem?_eq_getElem hjl]; simp)
          have HT2 := Lib.hid (show (N.take (j + 1)).map (ltr dl) = (N.take j).map (ltr dl) ++ [ltr dl (N.getD j 0)] from by
            rw [List.take_succ_eq_append_getElem hjl, List.map_append]
            simp [List.getD_eq_getElem?_getD, List.getElem?_eq_getElem hjl])
          have hss : s.size = ((N.take j).map (ltr dl)).length := by rw [HS.out, strOfNums_size]
          have hsl2 : s.size ≤ 400 := by
            rw [hss, List.length_map, List.length_take]
            omega
          clear hss hc
          generalize N.getD j 0 = d at *
          have hsub := hsub0.out d hd.1 hd.2
          obtain ⟨t, ht⟩ : ∃ t : ByteArray, t = ⟨#[UInt8.ofNat (ltr dl d).toNat]⟩ := ⟨_, rfl⟩
          rw [← ht] at hsub
          have hts : t.size = 1 := by rw [ht]; rfl
          have hss2 : ¬ 9223372036854775807 < s.size + t.size := by omega
          have HT3 := Lib.hid ht
          clear ht
          go_wp2
          go_round
          case rel => exact ⟨j + 1, s ++ t, by go_num, by omega, rfl, by rw [ByteArray.size_append]; omega, Lib.hid (by rw [HT2.out, ← cat_one, HS.out, HT3.out])⟩
          case measure => simp [intOf]; omega
        · obtain rfl : j = N.length := by omega
          have HF := Lib.hid (show s = strOfNums ((dig58 l).map (ltr dl)) from by rw [HS.out, List.take_length, HN2.out])
          go_wp2
          go_ret
          exact ⟨by rw [← HF.out]; rfl, k1⟩
namespace N36
/-- The digits times 256, and a byte more: what is carried out, the digits. -/
def mul36 (c : Int) : List Int → Int × List Int
  | [] => (c, [])
  | d :: N => (((mul36 c N).1 + d * 256) / 36, ((mul36 c N).1 + d * 256) % 36 :: (mul36 c N).2)
/-- What is carried, ahead of the digits. -/
def pre36 (k : Int) (M : List Int) : List Int := if k ≤ 0 then M else if k < 36 then k :: M else k / 36 :: k % 36 :: M
def dstep (N : List Int) (c : Int) : List Int := pre36 (mul36 c N).1 (mul36 c N).2
def dig36 (b : List Int) : List Int := b.foldl dstep []
def Dg8 (N : List Int) : Prop := ∀ d ∈ N, 0 ≤ d ∧ d < 36
theorem Dg8.nil : Dg8 [] := fun _ h => by cases h
theorem Dg8.cons {d : Int} {N : List Int} (h0 : 0 ≤ d) (h1 : d < 36) (h : Dg8 N) : Dg8 (d :: N) := fun x hx => by
  rcases List.mem_cons.1 hx with rfl | hx
  · exact ⟨h0, h1⟩
  · exact h x hx
theorem Dg8.tail {d : Int} {N : List Int} (h : Dg8 (d :: N)) : Dg8 N := fun x hx => h x (List.mem_cons_of_mem _ hx)
theorem Dg8.byt {N : List Int} (h : Dg8 N) : Byt N := fun x hx => by have := h x hx; omega
theorem mul36_ok {c : Int} (c0 : 0 ≤ c) (c1 : c ≤ 255) : ∀ {N : List Int}, Dg8 N → 0 ≤ (mul36 c N).1 ∧ (mul36 c N).1 ≤ 255 ∧ Dg8 (mul36 c N).2 ∧ (mul36 c N).2.length = N.length
  | [], _ => ⟨c0, c1, Dg8.nil, rfl⟩
  | d :: N, h => by
    obtain ⟨a, b, e, f⟩ := mul36_ok c0 c1 h.tail
    have hd := h d (by simp)
    refine ⟨?_, ?_, Dg8.cons ?_ ?_ e, by simp [mul36, f]⟩ <;> (try simp only [mul36]) <;> omega
theorem pre36_ok {k : Int} {M : List Int} (h0 : 0 ≤ k) (h1 : k ≤ 255) (h : Dg8 M) : Dg8 (pre36 k M) := by
  unfold pre36
  split
  · exact h
  · split
    · exact Dg8.cons (by omega) (by omega) h
    · exact Dg8.cons (by omega) (by omega) (Dg8.cons (by omega) (by omega) h)
theorem dstep_ok {N : List Int} {c : Int} (c0 : 0 ≤ c) (c1 : c ≤ 255) (h : Dg8 N) : Dg8 (dstep N c) := by
  obtain ⟨a, b, e, _⟩ := mul36_ok c0 c1 h
  exact pre36_ok a b e
theorem fold_ok : ∀ (b : List Int) {N : List Int}, Byt b → Dg8 N → Dg8 (b.foldl dstep N)
  | [], N, _, h => h
  | c :: b, N, hb, h => by
    have hc := hb c (by simp)
    exact fold_ok b (fun x hx => hb x (List.mem_cons_of_mem _ hx)) (dstep_ok hc.1 (by omega) h)
theorem dig36_ok {b : List Int} (hb : Byt b) : Dg8 (dig36 b) := fold_ok b hb Dg8.nil
theorem dig36_take (b : List Int) (i : Nat) (hi : i < b.length) : dig36 (b.take (i + 1)) = dstep (dig36 (b.take i)) (b.getD i 0) := by
  unfold dig36
  rw [List.take_succ_eq_append_getElem hi, List.foldl_append]
  simp [List.getD_eq_getElem?_getD, List.getElem?_eq_getElem hi]
/-- What they are worth. -/
def v36 : List Int → Int
  | [] => 0
  | d :: N => d * 36 ^ N.length + v36 N
theorem p36_pos (n : Nat) : (0 : Int) < 36 ^ n := Int.pow_pos (by omega)
theorem v36_nonneg : ∀ {N : List Int}, Dg8 N → 0 ≤ v36 N
  | [], _ => by simp [v36]
  | d :: N, h => by
    have hd := h d (by simp)
    have hp := p36_pos N.length
    have ih := v36_nonneg h.tail
    simp only [v36]
    have := Int.mul_nonneg hd.1 (Int.le_of_lt hp)
    omega
theorem v36_mul (c : Int) : ∀ (N : List Int), (mul36 c N).1 * 36 ^ (mul36 c N).2.length + v36 (mul36 c N).2 = v36 N * 256 + c
  | [] => by simp [mul36, v36]
  | d :: N => by
    have ih := v36_mul c N
    have hl : (mul36 c N).2.length = N.length := by
      clear ih
      induction N with
      | nil => rfl
      | cons d N ih => simp [mul36, ih]
    simp only [mul36, v36, List.length_cons, Int.pow_succ]
    rw [hl] at ih ⊢
    have h := Int.emod_add_mul_ediv ((mul36 c N).1 + d * 256) 36
    generalize (36 : Int) ^ N.length = p at *
    generalize (mul36 c N).1 = k at *
    generalize v36 (mul36 c N).2 = VM at *
    generalize (k + d * 256) / 36 = q at *
    generalize (k + d * 256) % 36 = r at *
    generalize v36 N = VN at *
    grind
theorem v36_pre {k : Int} {M : List Int} (h0 : 0 ≤ k) (h1 : k ≤ 255) : v36 (pre36 k M) = k * 36 ^ M.length + v36 M := by
  unfold pre36
  split
  · obtain rfl : k = 0 := by omega
    simp
  · split
    · simp [v36]
    · simp only [v36, List.length_cons, Int.pow_succ]
      have h := Int.emod_add_mul_ediv k 36
      generalize (36 : Int) ^ M.length = p at *
      generalize k / 36 = q at *
      generalize k % 36 = r at *
      grind
theorem v36_step {N : List Int} {c : Int} (c0 : 0 ≤ c) (c1 : c ≤ 255) (h : Dg8 N) : v36 (dstep N c) = v36 N * 256 + c := by
  obtain ⟨a, b, _, _⟩ := mul36_ok c0 c1 h
  unfold dstep
  rw [v36_pre a b, v36_mul]
/-- None of them is too many. -/
def Tip (N : List Int) : Prop := N = [] ∨ 1 ≤ N.headD 0
theorem v36_tip {d : Int} {N : List Int} (h : Dg8 (d :: N)) (h1 : 1 ≤ d) : (36 : Int) ^ N.length ≤ v36 (d :: N) := by
  have := v36_nonneg h.tail
  have hp := p36_pos N.length
  simp only [v36]
  have : (36 : Int) ^ N.length * 1 ≤ (36 : Int) ^ N.length * d := Int.mul_le_mul_of_nonneg_left h1 (Int.le_of_lt hp)
  rw [Int.mul_comm d]
  omega
theorem mul36_tip {c d : Int} {N : List Int} (c0 : 0 ≤ c) (c1 : c ≤ 255) (h : Dg8 (d :: N)) (h1 : 1 ≤ d) : 1 ≤ (mul36 c (d :: N)).1 := by
  obtain ⟨a, _, _, _⟩ := mul36_ok c0 c1 h.tail
  simp only [mul36]
  omega
theorem pre36_tip {k : Int} {M : List Int} (h : 1 ≤ k) : Tip (pre36 k M) := by
  unfold pre36 Tip
  right
  rw [if_neg (by omega)]
  split
  · simpa using h
  · simp; omega
theorem dstep_tip {N : List Int} {c : Int} (c0 : 0 ≤ c) (c1 : c ≤ 255) (h : Dg8 N) (ht : Tip N) : Tip (dstep N c) := by
  cases N with
  | nil =>
    unfold dstep
    simp only [mul36]
    by_cases hc : 1 ≤ c
    · exact pre36_tip hc
    · unfold pre36; rw [if_pos (by omega)]; exact .inl rfl
  | cons d N =>
    rcases ht with ht | ht
    · cases ht
    · exact pre36_tip (mul36_tip c0 c1 h (by simpa using ht))
theorem fold_tip : ∀ (b : List Int) {N : List Int}, Byt b → Dg8 N → Tip N → Tip (b.foldl dstep N)
  | [], N, _, _, h => h
  | c :: b, N, hb, h, ht => by
    have hc := hb c (by simp)
    exact fold_tip b (fun x hx => hb x (List.mem_cons_of_mem _ hx)) (dstep_ok hc.1 (by omega) h) (dstep_tip hc.1 (by omega) h ht)
theorem dig36_tip {b : List Int} (hb : Byt b) : Tip (dig36 b) := fold_tip b hb Dg8.nil (.inl rfl)
theorem fold_val : ∀ (b : List Int) {N : List Int} (m : Int), Byt b → Dg8 N → v36 N < m → 0 ≤ m → v36 (b.foldl dstep N) < m * 256 ^ b.length
  | [], N, m, _, _, h, _ => by simpa using h
  | c :: b, N, m, hb, h, hm, h0 => by
    have hc := hb c (by simp)
    have h2 := fold_val b (N := dstep N c) (m * 256) (fun x hx => hb x (List.mem_cons_of_mem _ hx)) (dstep_ok hc.1 (by omega) h) (by rw [v36_step hc.1 (by omega) h]; omega) (by omega)
    simp only [List.foldl_cons, List.length_cons, Int.pow_succ]
    have e : m * (256 ^ b.length * 256) = m * 256 * 256 ^ b.length := by rw [Int.mul_comm (256 ^ b.length) 256, Int.mul_assoc]
    rw [e]; exact h2
theorem dig36_val {b : List Int} (hb : Byt b) : v36 (dig36 b) < 256 ^ b.length := by
  have := fold_val b 1 hb Dg8.nil (by simp [v36]) (by omega)
  simpa [dig36] using this
theorem mul36_next (c : Int) (N : List Int) (r : Nat) (hr : r < N.length) : mul36 c (N.drop r) = (((mul36 c (N.drop (r + 1))).1 + N.getD r 0 * 256) / 36, ((mul36 c (N.drop (r + 1))).1 + N.getD r 0 * 256) % 36 :: (mul36 c (N.drop (r + 1))).2) := by
  rw [List.drop_eq_getElem_cons hr]
  simp [mul36, List.getD_eq_getElem?_getD, List.getElem?_eq_getElem hr]

theorem pre36_step {k : Int} (h0 : 0 < k) (h1 : k ≤ 255) (M : List Int) : pre36 k M = pre36 (k / 36) (k % 36 :: M) := by
  unfold pre36
  rw [if_neg (by omega)]
  by_cases h : k < 36
  · rw [if_pos h, if_pos (by omega)]
    congr 1
    omega
  · rw [if_neg h, if_neg (by omega), if_pos (by omega)]
theorem mul36_len (c : Int) : ∀ N : List Int, (mul36 c N).2.length = N.length
  | [] => rfl
  | d :: N => by simp [mul36, mul36_len c N]
theorem dstep_len (N : List Int) (c : Int) : (dstep N c).length ≤ N.length + 2 := by
  have := mul36_len c N
  unfold dstep pre36
  split
  · omega
  · split <;> simp only [List.length_cons] <;> omega
set_option maxHeartbeats 8000000 in
theorem num36_calls {w : World} {A : Option Addr} {n c : Nat} {l dl : List Int} {al : ByteArray} (h : Rd w A n c l) (hn : n ≤ 100) (hn0 : 0 < n) (hz : l.getD 0 0 ≠ 0) (hsz : (al.size : Int) = 36)
    (hsub0 : Hid (∀ d : Int, 0 ≤ d → d < 36 → ∀ W : World, (Instr.slice 9 (.string al) (some (.int .u8 d)) (some (.int .u8 (d + 1))) none).run Tryz.prog W = .ok (.string ⟨#[UInt8.ofNat (ltr dl d).toNat]⟩) W)) :
    Calls Tryz.prog 15 #[.slice A n c, .string al] w fun e w' => e = .returned (.string (strOfNums ((dig36 l).map (ltr dl)))) ∧ Kp no w w' := by
  obtain rfl := h.len
  have hcap := h.cap
  have hmax := h.max
  have HB := Lib.hid h.byt
  go_enter Tryz.func15, Tryz.ntmps15
  have HZ := Lib.hid hz
  clear hz
  go_wp2
  go_loopw [6, 19] (fun v iv wr => ∃ (i : Nat) (N : List Int), i ≤ l.length ∧ iv = .int .i64 i ∧ NumAt w N v wr ∧ Hid (N = dig36 (l.take i)) ∧ N.length ≤ 1 + 2 * i) (fun _ iv _ => l.length - (intOf iv).toNat)
  case atStart => exact ⟨0, [], Nat.zero_le _, rfl, ⟨none, 0, rfl, Own.nil _ _ _, Kp.refl _ _⟩, Lib.hid rfl, by simp⟩
  case round =>
    obtain ⟨i, N, hi0, rfl, ⟨B1, c1, rfl, O1, k1⟩, HN, hNl⟩ := hrel
    by_cases hlt : i < l.length
    · obtain ⟨g, o, rfl, hc⟩ := h.at_ (by omega)
      have hci := k1.cellN (hc i hlt)
      have hbi : 0 ≤ l.getD i 0 ∧ l.getD i 0 < 256 := by
        have := HB.out (l.getD i 0) (by rw [List.getD_eq_getElem?_getD, List.getElem?_eq_getElem hlt]; simp)
        omega
      have HT := Lib.hid (dig36_take l i hlt)
      have HD := Lib.hid (show Dg8 N from by rw [HN.out]; exact dig36_ok (HB.out.take i))
      generalize l.getD i 0 = y at *
      clear hc
      obtain ⟨wo, rfl⟩ : ∃ wo : World, wo = wr := ⟨_, rfl⟩
      go_upto_block 1 with (fail)
      go_cut [6] from 23 to 62 (fun v wx => ∃ F, NumAt w F v wx ∧ Hid (F = dstep N y))
      case first =>
        go_upto_block 2 with (fail)
        go_cut [9, 10] from 28 to 49 (fun kv jv wx => ∃ (k : Int) (M : List Int), kv = .int .i64 k ∧ 0 ≤ k ∧ k ≤ 255 ∧ Hid ((k, M) = mul36 y N) ∧ Own wx 5 w.heap.size (.slice B1 N.length c1) M ∧ M.length = N.length ∧ Kp no w wx)
        case first =>
          have HI : Hid ((y, ([] : List Int)) = mul36 y (N.drop N.length)) := Lib.hid (by simp [mul36])
          have OI : Own wo 5 w.heap.size (.slice B1 N.length c1) (N.take N.length ++ []) := by simpa using O1
          go_wp2
          go_loopw [9, 10] (fun kv jv wr => ∃ (r : Nat) (j k : Int) (M : List Int), r ≤ N.length ∧ jv = .int .i64 j ∧ j = r - 1 ∧ kv = .int .i64 k ∧ 0 ≤ k ∧ k ≤ 255 ∧ Hid ((k, M) = mul36 y (N.drop r)) ∧ Own wr 5 w.heap.size (.slice B1 N.length c1) (N.take r ++ M) ∧ Kp no w wr) (fun _ jv _ => (intOf jv + 1).toNat)
          case atStart => exact ⟨N.length, _, y, [], Nat.le_refl _, rfl, by omega, rfl, hbi.1, by omega, HI, OI, k1⟩
          case round =>
            obtain ⟨r, j, k, M, hr0, rfl, hj, rfl, hk0, hk1, HM, O2, k2⟩ := hrel
            cases r with
            | zero =>
              have hj2 : j < 0 := by omega
              clear hj
              have HM2 := Lib.hid (show (k, M) = mul36 y N from by simpa using HM.out)
              have O3 : Own wr 5 w.heap.size (.slice B1 N.length c1) M := by simpa using O2
              go_wp2
              go_meet
              case rel =>
                have hml : M.length = N.length := by
                  have := (mul36_ok hbi.1 (by omega) HD.out).2.2.2
                  rw [← HM2.out] at this; exact this
                exact ⟨k, M, rfl, hk0, hk1, HM2, O3, hml, k2⟩
            | succ r =>
              obtain rfl : j = (r : Int) := by omega
              obtain ⟨gB, hgB⟩ := O2.form (by omega)
              subst hgB
              have hc1 := O2.cellAt r (by simp; omega)
              rw [getD_mid N M r (by omega)] at hc1
              have hf1 := O2.freeAt r
              have hd := HD.out (N.getD r 0) (by rw [List.getD_eq_getElem?_getD, List.getElem?_eq_getElem (by omega)]; simp)
              have HNX := Lib.hid (mul36_next y N r (by omega))
              have HSL := Lib.hid (set_last N M r (by omega))
              generalize N.getD r 0 = d at *
              clear hj
              have hlr : r < N.length := by omega
              go_wp2
              go_roundw
              case rel =>
                have hO := O2.set r ((k + d * 256) % 36) (by omega) (by omega)
                rw [HSL.out] at hO
                exact ⟨r, _, _, (k + d * 256) % 36 :: M, by omega, rfl, rfl, rfl, by omega, by omega, Lib.hid (by rw [HNX.out, ← HM.out]), hO, k2.setCell (p := ⟨gB, r, none⟩) (fun hh => by have := (O2.base gB rfl).1; have hh : gB < w.heap.size := hh; omega) _⟩
              case measure => first | (simp [intOf]; done) | (simp [intOf]; omega)
        case rest =>
          obtain ⟨k, M, rfl, hk0, hk1, HM, O2, hml, k2⟩ := hcut
          obtain ⟨wp, rfl⟩ : ∃ wp : World, wp = wc := ⟨_, rfl⟩
          rw [← hml] at O2 hNl ⊢
          clear hml
          have HI : Hid (pre36 k M = dstep N y) := Lib.hid (by unfold dstep; rw [← HM.out])
          have HL := Lib.hid (show (dstep N y).length ≤ N.length + 2 from dstep_len N y)
          have hml' : M.length ≤ 1 + 2 * i := hNl
          go_wp2
          go_loopw [6, 9] (fun v kv wr => ∃ (k : Int) (M : List Int), kv = .int .i64 k ∧ 0 ≤ k ∧ k ≤ 255 ∧ NumAt w M v wr ∧ Hid (pre36 k M = dstep N y) ∧ M.length ≤ 400 + 255 - k) (fun _ kv _ => (intOf kv).toNat)
          case atStart => exact ⟨k, M, rfl, hk0, hk1, ⟨B1, c1, rfl, O2, k2⟩, HI, by omega⟩
          case round =>
            obtain ⟨k', M', rfl, hk0', hk1', ⟨B3, c3, rfl, O3, k3⟩, HP, hl3⟩ := hrel
            by_cases hkz : 0 < k'
            · have HS := Lib.hid (pre36_step hkz hk1' M')
              have ka : Kp no wr (wr.alloc (.cells (nums .u8 [k' % 36]).toArray 5)) := (Kp.refl _ _).alloc _
              obtain ⟨A9, c9, h9, R9, _⟩ := O3.rd
              injection h9 with h9 _ h9'
              subst h9 h9'
              have R3 := R9.keepN ka
              have RL := Rd.lit wr 5 [k' % 36] (Byt.one (by omega) (by omega)) (by simp)
              have D3 := Lib.hid (Concat_to (l := k' % 36 :: M') (RdS.lit (wr.alloc (.cells (nums .u8 [k' % 36]).toArray 5)) 23 [⟨_, _, _, [k' % 36]⟩, ⟨B3, M'.length, c3, M'⟩] (by
                intro s hs
                simp only [List.mem_cons, List.not_mem_nil, or_false] at hs
                rcases hs with rfl | rfl
                · exact RL
                · exact R3) (by simp)) (by simp; omega) (by simp))
              rw [show (wr.alloc (.cells (nums .u8 [k' % 36]).toArray 5)).heap.size = wr.heap.size + 1 from by simp] at D3
              have HK3 := Lib.hid (k3.then ka)
              have HKB := Lib.hid (show Kp no (wr.alloc (.cells (nums .u8 [k' % 36]).toArray 5)) ((wr.alloc (.cells (nums .u8 [k' % 36]).toArray 5)).alloc (.cells #[.slice (some ⟨wr.heap.size, 0, none⟩) 1 1, .slice B3 M'.length c3] 23)) from (Kp.refl _ _).alloc _)
              clear R9 R3 RL ka
              go_wp2_with (fail)
              refine D3.out.mono ?_
              rintro e w4 ⟨A5, c5, rfl, M4⟩
              have k4 : Kp no w w4 := (HK3.out.then HKB.out).then M4.kp
              have O4 : Own w4 5 w.heap.size (.slice A5 (k' % 36 :: M').length c5) (k' % 36 :: M') := (M4.up (HK3.out.then HKB.out)).own
              clear M4 D3
              go_wp2
              go_roundw
              case rel => exact ⟨k' / 36, k' % 36 :: M', rfl, by omega, by omega, ⟨A5, c5, rfl, O4, k4⟩, Lib.hid (by rw [← HS.out]; exact HP.out), by simp only [List.length_cons]; omega⟩
              case measure => first | (simp [intOf]; done) | (simp [intOf]; omega)
            · have HF := Lib.hid (show M' = dstep N y from by rw [← HP.out]; unfold pre36; rw [if_pos (by omega)])
              go_wp2
              go_meet
              case rel => exact ⟨M', ⟨B3, c3, rfl, O3, k3⟩, HF⟩
      case rest =>
        obtain ⟨F, hF, HF⟩ := hcut
        obtain ⟨B5, c5, rfl, O5, k5⟩ := hF
        go_wp2
        go_roundw
        case rel => exact ⟨i + 1, F, by omega, by go_num, ⟨B5, c5, rfl, O5, k5⟩, Lib.hid (by rw [HF.out, HT.out, HN.out]), by rw [HF.out]; have := dstep_len N y; omega⟩
        case measure => first | (simp [intOf]; done) | (simp [intOf]; omega)
    · obtain rfl : i = l.length := by omega
      have HN2 := Lib.hid (show N = dig36 l from by rw [HN.out, List.take_length])
      have HD := Lib.hid (show Dg8 N from by rw [HN2.out]; exact dig36_ok HB.out)
      obtain ⟨wo, rfl⟩ : ∃ wo : World, wo = wr := ⟨_, rfl⟩
      obtain ⟨A9, c9, h9, R9, _⟩ := O1.rd
      injection h9 with h9 _ h9'
      subst h9 h9'
      have hne := HZ.out
      have hne2 : (l.getD 0 0 == 0) = false := beq_eq_false_iff_ne.2 hne
      obtain ⟨g0, o0, hA0, hc0⟩ := (h.keepN k1).at_ hn0
      subst hA0
      have cz0 := hc0 0 hn0
      generalize l.getD 0 0 = y0 at *
      rw [Nat.add_zero] at cz0
      clear hc0 HZ
      have hli : (0 : Int) < (l.length : Int) := by omega
      have HI := Lib.hid (show (⟨#[]⟩ : ByteArray) = strOfNums ((N.take 0).map (ltr dl)) from by simp; rfl)
      go_wp2
      refine wp_loop_rounds 1 ?_
      rw [rounds_succ]
      go_wp2
      go_loop [11, 83] (fun sv iv => ∃ (j : Nat) (s : ByteArray), iv = .int .i64 j ∧ j ≤ N.length ∧ sv = .string s ∧ s.size ≤ 1000 ∧ Hid (s = strOfNums ((N.take j).map (ltr dl)))) (fun _ iv => N.length - (intOf iv).toNat)
      case atStart => exact ⟨0, _, rfl, Nat.zero_le _, rfl, by decide, HI⟩
      case round =>
        obtain ⟨j, s, rfl, hj, rfl, hs, HS⟩ := hrel
        by_cases hjl : j < N.length
        · obtain ⟨g, o, hA0, hc⟩ := R9.at_ (by omega)
          subst hA0
          have cz := hc j hjl
          have hd := HD.out (N.getD j 0) (by rw [List.getD_eq_getElem?_getD, List.getElem?_eq_getElem hjl]; simp)
          have HT2 := Lib.hid (show (N.take (j + 1)).map (ltr dl) = (N.take j).map (ltr dl) ++ [ltr dl (N.getD j 0)] from by
            rw [List.take_succ_eq_append_getElem hjl, List.map_append]
            simp [List.getD_eq_getElem?_getD, List.getElem?_eq_getElem hjl])
          have hss : s.size = ((N.take j).map (ltr dl)).length := by rw [HS.out, strOfNums_size]
          have hsl2 : s.size ≤ 400 := by
            rw [hss, List.length_map, List.length_take]
            omega
          clear hss hc
          generalize N.getD j 0 = d at *
          have hsub := hsub0.out d hd.1 hd.2
          obtain ⟨t, ht⟩ : ∃ t : ByteArray, t = ⟨#[UInt8.ofNat (ltr dl d).toNat]⟩ := ⟨_, rfl⟩
          rw [← ht] at hsub
          have hts : t.size = 1 := by rw [ht]; rfl
          have hss2 : ¬ 9223372036854773607 < s.size + t.size := by omega
          have HT3 := Lib.hid ht
          clear ht
          go_wp2
          go_round
          case rel => exact ⟨j + 1, s ++ t, by go_num, by omega, rfl, by rw [ByteArray.size_append]; omega, Lib.hid (by rw [HT2.out, ← cat_one, HS.out, HT3.out])⟩
          case measure => simp [intOf]; omega
        · obtain rfl : j = N.length := by omega
          have HF := Lib.hid (show s = strOfNums ((dig36 l).map (ltr dl)) from by rw [HS.out, List.take_length, HN2.out])
          go_wp2
          go_ret
          exact ⟨by rw [← HF.out]; rfl, k1⟩
end N36
end Go.Proofs.YtflafpklphgbpaaGreatDoor
