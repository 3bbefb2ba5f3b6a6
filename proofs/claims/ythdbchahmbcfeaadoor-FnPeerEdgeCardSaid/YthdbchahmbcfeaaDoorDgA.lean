/- Digest.Write of Go's library. byteorder's BEPutUint32 and BEPutUint64; a new digest. checkSum and Sum of Go's library's digest; crypto/sha256's New and Sum256: over whatever keys. Sum of a digest, crypto/sha256's New and Sum256: over whatever keys. Toy keys: made, asked, signing, over whatever keys the library's SHA2-256 has. -/
import Derived.Test.YthdbchahmbcfeaaDoorShiA
import Derived.Test.YthdbchahmbcfeaaDoorShP2
import Derived.Laws.BitsAllLaws
import Derived.Deep.Cut
import Derived.Deep.CutRange
import Derived.BigQuiet
import Derived.Test.YthdbchahmbcfeaaDoorShaC
import Derived.Laws.Externs
import Derived.ArgAppend
import Derived.Deep.RegionWith
namespace Go.Proofs.YthdbchahmbcfeaaDoor
open Go Go.RowKit
set_option linter.unusedVariables false
set_option linter.unusedSimpArgs false
set_option maxRecDepth 100000

theorem block_calls {w : World} {g c m : Nat} {A : Option Addr} {l K : List Int} {s : DS} (hD : Dg w g s) (hK : Keys w K) (hg : 11 ≠ g) (hp : Rd w A (64 * m) c l) (hlo : Lo w.heap.size A) (hm : m ≤ 1000000) :
    Calls Tryd.prog 100 #[.pointer (some ⟨g, 0, none⟩), .slice A (64 * m) c] w
      fun e w' => e = .returned (.tuple #[]) ∧ Dg w' g ⟨iblks K s.H l m, s.X, s.nx, s.len⟩ ∧ Kp (· = g) w w' := by
  have D1 := Lib.hid (blockG_calls (rest := dgT s.X s.nx s.len) hD.ok.h hD.blk hK hg hp hlo hm)
  have HO := Lib.hid hD.ok
  obtain ⟨n, hn⟩ : ∃ n, n = 64 * m := ⟨_, rfl⟩
  rw [← hn] at D1 ⊢
  clear hn hD hK hp hlo hm
  go_enter Tryd.func100, Tryd.ntmps100
  go_wp2_with (fail)
  refine D1.out.mono ?_
  rintro e w1 ⟨rfl, hb, k1⟩
  go_wp2
  go_end0
  exact ⟨rfl, ⟨hb, ⟨iblks_length _ _ HO.out.h, HO.out.x, HO.out.b, HO.out.n⟩⟩, k1⟩
/-- In the midst of Write. -/
structure MidW (w : World) (g : Nat) (s : DS) (l : List Int) (v : Value) (wx : World) : Prop where
  dg : Dg wx g s
  kp : Kp (· = g) w wx
  rd : ∃ A n c, v = .slice A n c ∧ Rd wx A n c l ∧ Out (· = g) A ∧ Lo w.heap.size A
theorem and_not63 (n : Nat) (h : n ≤ 1000000) : bits .andNot .i64 (n : Int) 63 = ((64 * (n / 64) : Nat) : Int) := by
  have key : n &&& 18446744073709551552 = 64 * (n / 64) := by
    apply Nat.eq_of_testBit_eq
    intro i
    rw [Nat.testBit_and, show 18446744073709551552 = 2 ^ 6 * (2 ^ 58 - 1) from by decide, show 64 * (n / 64) = 2 ^ 6 * (n / 2 ^ 6) from rfl, Nat.testBit_two_pow_mul, Nat.testBit_two_pow_mul, Nat.testBit_two_pow_sub_one, Nat.testBit_div_two_pow]
    by_cases hi : 6 ≤ i
    · by_cases hj : i < 64
      · have e1 : decide (i ≥ 6) = true := by simp; omega
        have e2 : decide (i - 6 < 58) = true := by simp; omega
        rw [e1, e2, show i - 6 + 6 = i from by omega]; simp
      · have : n.testBit i = false := Nat.testBit_lt_two_pow (Nat.lt_of_lt_of_le (show n < 2 ^ 64 by omega) (Nat.pow_le_pow_right (by omega) (by omega)))
        rw [show i - 6 + 6 = i from by omega, this]; simp
    · have e1 : decide (i ≥ 6) = false := by simp; omega
      rw [e1]; simp
  show IntKind.i64.wrap ((BitVec.ofInt 64 (n : Int) &&& ~~~BitVec.ofInt 64 (63 : Int)).toNat : Int) = _
  rw [BitVec.toNat_and, BitVec.toNat_not, ofInt_u64 n (by omega), show (BitVec.ofInt 64 (63 : Int)).toNat = 63 from by decide, show 2 ^ 64 - 1 - 63 = 18446744073709551552 from by decide, key, IntKind.wrap_i64]
  omega
theorem byt_size : (Tryd.prog.info? 5).map (·.size) = some 1 := by kernel_rfl

set_option maxHeartbeats 8000000 in
theorem dwrite_calls {w : World} {g c n : Nat} {A : Option Addr} {l K : List Int} {s : DS} (hD : Dg w g s) (hK : Keys w K) (hg : 11 ≠ g) (hp : Rd w A n c l) (hlo : Lo w.heap.size A) (hot : Out (· = g) A) (hn : n ≤ 60000) (hs : s.len ≤ 1000000) (hnx : s.nx < 64) :
    Calls Tryd.prog 97 #[.pointer (some ⟨g, 0, none⟩), .slice A n c] w
      fun e w' => e = .returned (.tuple #[.int .i64 n, .nilIface]) ∧ Dg w' g (wrF K s l) ∧ Kp (· = g) w w' := by
  obtain rfl := hp.len
  have hD1 := hD.setLn (s.len + l.length) (v := .int .u64 ((s.len : Int) + l.length)) (by rw [Int.natCast_add])
  have k1 : Kp (· = g) w (w.setCell ⟨g, 73, none⟩ (.int .u64 ((s.len : Int) + l.length))) := Kp.setCell (S := (· = g)) (Kp.refl _ w) (p := ⟨g, 73, none⟩) (fun _ => rfl) _
  have hR1 := hp.keep k1 hot
  have hcap := hp.cap
  have hmax := hp.max
  have HLO := Lib.hid hlo
  have HOT := Lib.hid hot
  have HK := Lib.hid hK
  have HF := Lib.hid (show wrF K s l = wr3 (wr2 K (wr1 K ⟨s.H, s.X, s.nx, s.len + l.length⟩ l) (l.drop (cutN ⟨s.H, s.X, s.nx, s.len + l.length⟩ l))) ((l.drop (cutN ⟨s.H, s.X, s.nx, s.len + l.length⟩ l)).drop (64 * ((l.drop (cutN ⟨s.H, s.X, s.nx, s.len + l.length⟩ l)).length / 64))) from rfl)
  have c73 := hD.ln
  have f73 := hD.free 73
  have hw1 : IntKind.u64.wrap (l.length : Int) = (l.length : Int) := by simp [IntKind.wrap, IntKind.bits, IntKind.signed]; omega
  generalize hs1 : (⟨s.H, s.X, s.nx, s.len + l.length⟩ : DS) = s1 at *
  have HS1 := Lib.hid (show s1.nx = s.nx from by rw [← hs1])
  clear hp hlo hot hK hD hs1
  generalize wrF K s l = sF at *
  generalize hln : l.length = n at *
  have HLN := Lib.hid hln
  clear hln
  go_enter Tryd.func97, Tryd.ntmps97
  go_upto_region 3 with (fail)
  generalize w.setCell ⟨g, 73, none⟩ (.int .u64 ((s.len : Int) + (n : Int))) = W1 at *
  clear c73 f73 hw1
  have c72 := hD1.nx
  have HD1 := Lib.hid hD1
  have HR1 := Lib.hid hR1
  have HK1 := Lib.hid k1
  clear hD1 hR1 k1
  rw [← HS1.out] at hnx
  go_upto_if 23 with (fail)
  go_cut [6, 1, 23] from 24 to 58 (fun kv pv tv wx => Hid (MidW w g (wr1 K s1 l) (l.drop (cutN s1 l)) pv wx))
  case first =>
    by_cases h0 : s1.nx = 0
    · have hdec : decide (0 < s1.nx) = false := decide_eq_false (by omega)
      rw [hdec]
      clear hdec
      have HW := Lib.hid (show wr1 K s1 l = s1 from by unfold wr1; rw [if_pos h0]; cases s1; cases h0; rfl)
      have HC := Lib.hid (show cutN s1 l = 0 from by unfold cutN; rw [if_pos h0])
      clear h0
      go_wp2
      go_meet
      case rel => exact Lib.hid (by rw [HW.out, HC.out, List.drop_zero]; exact ⟨HD1.out, HK1.out, A, n, c, rfl, HR1.out, HOT.out, HLO.out⟩)
    · have hdec : decide (0 < s1.nx) = true := decide_eq_true (by omega)
      rw [hdec]
      clear hdec
      have h01 : (0 : Int) ≤ (s1.nx : Int) := by omega
      have h02 : (s1.nx : Int) ≤ 64 := by omega
      have h03 : s1.nx ≤ 64 := by omega
      have h04 : ¬ 64 = s1.nx := by omega
      go_upto_region 4 with (fail)
      refine wp_region_quiet_tail 9 (by kernel_rfl) (by kernel_rfl) ?_
      simp only [List.take_succ_cons, List.take_zero, List.drop_succ_cons, List.drop_zero]
      repeat (go_big_quiet_step (fail))
      refine wpQuiet_nil ?_
      rintro _ ⟨nq, rfl⟩
      have hRd := HR1.out.keepN (Kp.byDraws W1 nq)
      have hDd := HD1.out.keepN (Kp.byDraws W1 nq)
      have hKd := HK1.out.then (Kp.byDraws W1 nq)
      have HRd := Lib.hid hRd
      have HDd := Lib.hid hDd
      have HKd := Lib.hid hKd
      clear hRd hDd hKd
      generalize W1.drewN nq = W2 at *
      obtain ⟨k, hk⟩ : ∃ k, k = min n (64 - s1.nx) := ⟨_, rfl⟩
      have HKK := Lib.hid hk
      have hk1 : k ≤ n := by omega
      have hk2 : s1.nx + k ≤ 64 := by omega
      clear hk
      obtain ⟨X2, hX2⟩ : ∃ X2, X2 = s1.X.take s1.nx ++ l.take k ++ s1.X.drop (s1.nx + k) := ⟨_, rfl⟩
      have HX2 := Lib.hid hX2
      clear hX2
      have HSP := Lib.hid (show splice (dgC s1) (8 + s1.nx) (nums .u8 (l.take k)) = dgC ⟨s1.H, X2, s1.nx, s1.len⟩ from by
        have hlt : (l.take k).length = k := by rw [List.length_take, HLN.out]; omega
        rw [dg_splice HD1.out.ok s1.nx (l.take k) (by rw [hlt]; omega), hlt, HX2.out]; rfl)
      have HOK := Lib.hid (show (⟨s1.H, X2, s1.nx, s1.len⟩ : DS).Ok from by
        have hlt : (l.take k).length = k := by rw [List.length_take, HLN.out]; omega
        have h0 := HD1.out.ok
        have hx := h0.x
        rw [HX2.out]
        exact ⟨h0.h, by show (s1.X.take s1.nx ++ l.take k ++ s1.X.drop (s1.nx + k)).length = 64; rw [List.length_append, List.length_append, List.length_take, hlt, List.length_drop, hx]; omega, ((h0.b.take _).app (HRd.out.byt.take _)).app (h0.b.drop _), h0.n⟩)
      refine copy_blk rfl (.tmp 31) (.tmp 32) 22 22 rfl 5 Tryd.und_bytes byt_size g (8 + s1.nx) (64 - s1.nx) (64 - s1.nx) rfl A n c rfl l HRd.out (dgC s1) 124 HDd.out.blk (by rw [dgC_len HDd.out.ok]; omega) k HKK.out ?_
      intro w2 HB2 k2; have hD2 : Dg w2 g ⟨s1.H, X2, s1.nx, s1.len⟩ := ⟨by have := HB2.out; rw [HSP.out] at this; exact this, HOK.out⟩; clear HB2; have c72b := hD2.nx; have f72b := hD2.free 72; have HD2 := Lib.hid hD2; clear hD2
      obtain ⟨A2, R2, ho2, hl2, hs2⟩ := HRd.out.cutFrom Tryd.und_bytes Tryd.size_byte .i64 (k : Int) (by omega) (by omega)
      rw [Int.toNat_natCast] at R2 hs2
      have HR2 := Lib.hid (R2.keep k2 (ho2 _ HOT.out))
      have HO2 := Lib.hid (ho2 _ HOT.out)
      have HL2 := Lib.hid (hl2 _ HLO.out)
      have HK2 := Lib.hid (HKd.out.trans k2 (fun _ _ h => h))
      have HS := Lib.hid (wr1_some (K := K) (s := s1) (p := l) (k := k) (X2 := X2) (by omega) (by rw [HLN.out]; exact HKK.out) HX2.out)
      clear R2 ho2 hl2 k2
      by_cases hf : s1.nx + k = 64
      · have e64 : (((s1.nx : Int) + (k : Int)) == 64) = true := by rw [show (s1.nx : Int) + (k : Int) = 64 from by omega]; rfl
        have hD3 := HD2.out.setNxTo (s1.nx + k) (by omega) (v := .int .i64 ((s1.nx : Int) + (k : Int))) (by rw [Int.natCast_add])
        have HK3 := Lib.hid (HK2.out.setCell (p := ⟨g, 72, none⟩) (fun _ => rfl) (.int .i64 ((s1.nx : Int) + (k : Int))))
        have HR3 := Lib.hid (HR2.out.keep (Kp.setCell (S := (· = g)) (Kp.refl _ w2) (p := ⟨g, 72, none⟩) (fun _ => rfl) (.int .i64 ((s1.nx : Int) + (k : Int)))) HO2.out)
        have HF2 := Lib.hid hf
        have hlt3 := hD3.lt
        have D3 := Lib.hid (block_calls (m := 1) hD3 (HK.out.keep HK3.out hg) hg hD3.rd (fun a e => by cases e; exact hlt3) (by omega))
        go_upto_region 7 with (fail)
        generalize w2.setCell ⟨g, 72, none⟩ (.int .i64 ((s1.nx : Int) + (k : Int))) = W3 at *
        clear c72b f72b hD3 e64 hf hlt3
        go_wp2_with (fail)
        refine D3.out.mono ?_
        rintro e w4 ⟨rfl, hD4, k4⟩
        have c4 := hD4.nx
        have f4 := hD4.free 72
        have HX5 := Lib.hid (hD4.setNxTo 0 (by omega) (v := .int .i64 0) rfl)
        have HK5 := Lib.hid ((HK3.out.trans k4 (fun _ _ h => h)).setCell (p := ⟨g, 72, none⟩) (fun _ => rfl) (.int .i64 0))
        have HR5 := Lib.hid ((HR3.out.keep k4 HO2.out).keep (Kp.setCell (S := (· = g)) (Kp.refl _ w4) (p := ⟨g, 72, none⟩) (fun _ => rfl) (.int .i64 0)) HO2.out)
        clear hD4 k4
        go_wp2
        go_meet
        case rel =>
          refine Lib.hid ⟨?_, HK5.out, A2, n - k, c - k, rfl, ?_, HO2.out, HL2.out⟩
          · rw [HS.out.2.1 HF2.out, ← iblks_one HOK.out.x]; exact HX5.out
          · rw [HS.out.1]; exact HR5.out
      · have e64 : (((s1.nx : Int) + (k : Int)) == 64) = false := beq_eq_false_iff_ne.2 (by omega)
        have HF2 := Lib.hid hf
        clear hf
        go_wp2
        go_meet
        case rel =>
          refine Lib.hid ⟨?_, HK2.out.setCell (p := ⟨g, 72, none⟩) (fun _ => rfl) _, A2, n - k, c - k, rfl, ?_, HO2.out, HL2.out⟩
          · rw [HS.out.2.2 HF2.out]; exact HD2.out.setNxTo (s1.nx + k) (by omega) (by rw [Int.natCast_add])
          · rw [HS.out.1]; exact HR2.out.keep (Kp.setCell (S := (· = g)) (Kp.refl _ w2) (p := ⟨g, 72, none⟩) (fun _ => rfl) _) HO2.out
  case rest =>
    have HLL := Lib.hid (show (l.drop (cutN s1 l)).length ≤ n from by rw [List.length_drop, HLN.out]; omega)
    generalize wr1 K s1 l = s2 at *
    generalize l.drop (cutN s1 l) = l2 at *
    obtain ⟨A2, n2, c2, rfl, hR2, ho2, hl2⟩ := hcut.out.rd
    obtain ⟨W2, rfl⟩ : ∃ x : World, x = wc := ⟨_, rfl⟩
    have HD2 := Lib.hid hcut.out.dg
    have HK2 := Lib.hid hcut.out.kp
    have HR2 := Lib.hid hR2
    have HO2 := Lib.hid ho2
    have HL2 := Lib.hid hl2
    have hcap2 := hR2.cap
    have hmax2 := hR2.max
    have HN2 := Lib.hid hR2.len
    have hn2 : n2 ≤ 60000 := by have := HLL.out; rw [HN2.out] at this; omega
    clear hcut hR2 ho2 hl2 HR1 HD1 HK1 hcap hmax hnx c72 HOT HLO
    go_upto_if 61 with (fail)
    go_cut [1, 7, 61] from 62 to 82 (fun pv nv tv wx => Hid (MidW w g (wr2 K s2 l2) (l2.drop (64 * (l2.length / 64))) pv wx))
    case first =>
      by_cases h64 : 64 ≤ n2
      · have hand := and_not63 n2 (by omega)
        obtain ⟨m, hm⟩ : ∃ m, m = n2 / 64 := ⟨_, rfl⟩
        have hm1 : 64 * m ≤ n2 := by omega
        rw [← hm] at hand
        have HM := Lib.hid hm
        have hct := cutTo (P := Tryd.prog) Tryd.und_bytes Tryd.size_byte A2 n2 c2 .i64 ((64 * m : Nat) : Int) (by omega) (by omega) hcap2
        rw [Int.toNat_natCast] at hct
        obtain ⟨A3, R3, ho3, hl3, hs3⟩ := HR2.out.cutFrom Tryd.und_bytes Tryd.size_byte .i64 ((64 * m : Nat) : Int) (by omega) (by omega)
        rw [Int.toNat_natCast] at R3 hs3
        have HR3 := Lib.hid R3
        have HO3 := Lib.hid (ho3 _ HO2.out)
        have HL3 := Lib.hid (hl3 _ HL2.out)
        have D4 := Lib.hid (block_calls (m := m) HD2.out (HK.out.keep HK2.out hg) hg (HR2.out.take (64 * m) hm1) (HL2.out.mono HK2.out.size) (by omega))
        have hm2 : ¬ (65536 : Int) < ((64 * m : Nat) : Int) := by omega
        have hm3 : 64 * m ≤ 60000 := by omega
        have HQ := Lib.hid (show 64 * (l2.length / 64) = 64 * m from by rw [HN2.out, HM.out])
        have HQ2 := Lib.hid (show l2.length / 64 = m from by rw [HN2.out, HM.out])
        have HTK := Lib.hid (show iblks K s2.H (l2.take (64 * m)) m = iblks K s2.H l2 m from iblks_take K m s2.H l2)
        clear R3 ho3 hl3 hm
        obtain ⟨q, hq⟩ : ∃ q, q = 64 * m := ⟨_, rfl⟩
        rw [← hq] at hand hct hs3 hm1 hm2 hm3 D4 HR3 HQ HTK
        clear hq
        go_wp2
        go_loopw [7, 1] (fun nv pv wr => nv = .int .i64 (q : Int) ∧ pv = .slice A2 n2 c2 ∧ wr = W2) (fun _ _ _ => 0)
        case atStart => exact ⟨rfl, rfl, rfl⟩
        case round =>
          obtain ⟨rfl, rfl, hwr⟩ := hrel
          obtain rfl : W2 = wr := hwr.symm
          go_wp2_with (fail)
          refine D4.out.mono ?_
          rintro e w4 ⟨rfl, hD4, k4⟩
          have HD4 := Lib.hid hD4
          clear hD4
          go_wp2
          go_meet
          case rel =>
            refine Lib.hid ⟨?_, HK2.out.trans k4 (fun _ _ h => h), A3, n2 - q, c2 - q, rfl, ?_, HO3.out, HL3.out⟩
            · unfold wr2; rw [HQ2.out]; have := HD4.out; rw [HTK.out] at this; exact this
            · rw [HQ.out]; exact HR3.out.keep k4 HO3.out
      · have HQ := Lib.hid (show 64 * (l2.length / 64) = 0 from by rw [HN2.out]; omega)
        have HQ2 := Lib.hid (show l2.length / 64 = 0 from by rw [HN2.out]; omega)
        go_wp2
        go_meet
        case rel =>
          refine Lib.hid ⟨?_, HK2.out, A2, n2, c2, rfl, ?_, HO2.out, HL2.out⟩
          · unfold wr2; rw [HQ2.out]; exact HD2.out
          · rw [HQ.out, List.drop_zero]; exact HR2.out
    case rest =>
      have HL3 := Lib.hid (show (l2.drop (64 * (l2.length / 64))).length < 64 from by rw [List.length_drop]; omega)
      generalize wr2 K s2 l2 = s3 at *
      generalize l2.drop (64 * (l2.length / 64)) = l3 at *
      obtain ⟨A3, n3, c3, rfl, hR3, ho3, hl3⟩ := hcut.out.rd
      obtain ⟨W3, rfl⟩ : ∃ x : World, x = wc := ⟨_, rfl⟩
      have HD3 := Lib.hid hcut.out.dg
      have HK3 := Lib.hid hcut.out.kp
      have HR3 := Lib.hid hR3
      have HN3 := Lib.hid hR3.len
      have hn3 : n3 < 64 := by have := HL3.out; rw [HN3.out] at this; exact this
      have hcap3 := hR3.cap
      have hmax3 := hR3.max
      clear hcut hR3 ho3 hl3 hcap2 hmax2 hn2
      by_cases h0 : 0 < n3
      · have HW := Lib.hid (show wr3 s3 l3 = ⟨s3.H, l3 ++ s3.X.drop n3, n3, s3.len⟩ from by unfold wr3; rw [HN3.out, if_neg (by omega)])
        have HSP := Lib.hid (show splice (dgC s3) (8 + 0) (nums .u8 (l3.take n3)) = dgC ⟨s3.H, l3 ++ s3.X.drop n3, s3.nx, s3.len⟩ from by
          have e : l3.take n3 = l3 := List.take_of_length_le (by rw [HN3.out]; omega)
          rw [e, dg_splice HD3.out.ok 0 l3 (by rw [HN3.out]; omega), HN3.out, Nat.zero_add]; rfl)
        have HOK := Lib.hid (show (⟨s3.H, l3 ++ s3.X.drop n3, s3.nx, s3.len⟩ : DS).Ok from by
          have h0 := HD3.out.ok
          have hx := h0.x
          exact ⟨h0.h, by show (l3 ++ s3.X.drop n3).length = 64; rw [List.length_append, List.length_drop, HN3.out, hx]; omega, HR3.out.byt.app (h0.b.drop _), h0.n⟩)
        go_wp2_with (refine copy_blk rfl (.tmp 90) (.tmp 91) 22 22 rfl 5 Tryd.und_bytes byt_size g 8 64 64 rfl A3 n3 c3 rfl l3 HR3.out (dgC s3) 124 HD3.out.blk (by rw [dgC_len HD3.out.ok]; omega) n3 (by omega) ?_; intro w5 HB5 k5; have hD5 : Dg w5 g ⟨s3.H, l3 ++ s3.X.drop n3, s3.nx, s3.len⟩ := ⟨by have := HB5.out; rw [HSP.out] at this; exact this, HOK.out⟩; clear HB5; have c72c := hD5.nx; have f72c := hD5.free 72; have HD5 := Lib.hid hD5; clear hD5; have HK5 := Lib.hid (HK3.out.trans k5 (fun _ _ h => h)); clear k5)
        go_ret2
        refine ⟨rfl, ?_, HK5.out.setCell (p := ⟨g, 72, none⟩) (fun _ => rfl) _⟩
        rw [HF.out, HW.out]
        exact HD5.out.setNxTo n3 (by omega) rfl
      · have HW := Lib.hid (show wr3 s3 l3 = s3 from by unfold wr3; rw [HN3.out, if_pos (by omega)])
        go_wp2
        go_ret2
        exact ⟨rfl, by rw [HF.out, HW.out]; exact HD3.out, HK3.out⟩
end Go.Proofs.YthdbchahmbcfeaaDoor
namespace Go.Proofs.YthdbchahmbcfeaaDoor
open Go Go.RowKit
set_option linter.unusedVariables false
set_option linter.unusedSimpArgs false
set_option maxRecDepth 100000

def put4 (L : List Int) (o : Nat) (x : Int) : List Int := (((L.set o (x / 16777216 % 256)).set (o + 1) (x / 65536 % 256)).set (o + 2) (x / 256 % 256)).set (o + 3) (x % 256)
theorem put4_length (L : List Int) (o : Nat) (x : Int) : (put4 L o x).length = L.length := by simp [put4]
set_option maxHeartbeats 4000000 in
theorem bep32_calls {w : World} {g o n c : Nat} {L : List Int} {t : TypeId} (h : Nw .u8 w g t L) (x : Int) (ho : o + 4 ≤ L.length) (hn : 4 ≤ n) :
    Calls Tryd.prog 107 #[.slice (some ⟨g, o, none⟩) n c, .int .u32 x] w fun e w' => e = .returned (.tuple #[]) ∧ Nw .u8 w' g t (put4 L o x) ∧ Kp (· = g) w w' := by
  have c0 := h.cell o (by omega)
  have c1 := h.cell (o + 1) (by omega)
  have c2 := h.cell (o + 2) (by omega)
  have c3 := h.cell (o + 3) (by omega)
  have f0 := h.free o
  have f1 := h.free (o + 1)
  have f2 := h.free (o + 2)
  have f3 := h.free (o + 3)
  have HX := Lib.hid ((((h.set o (x / 16777216 % 256)).set (o + 1) (x / 65536 % 256)).set (o + 2) (x / 256 % 256)).set (o + 3) (x % 256))
  have HKK := Lib.hid (kput (kput (kput (kput (Kp.refl (· = g) w) o (.int .u8 (x / 16777216 % 256))) (o + 1) (.int .u8 (x / 65536 % 256))) (o + 2) (.int .u8 (x / 256 % 256))) (o + 3) (.int .u8 (x % 256)))
  generalize L.getD o 0 = z0 at *
  generalize L.getD (o + 1) 0 = z1 at *
  generalize L.getD (o + 2) 0 = z2 at *
  generalize L.getD (o + 3) 0 = z3 at *
  clear h ho
  go_enter Tryd.func107, Tryd.ntmps107
  go_wp2
  go_end0
  exact ⟨rfl, HX.out, HKK.out⟩
def put8b (L : List Int) (o : Nat) (x : Int) : List Int :=
  (((((((L.set o (x / 72057594037927936 % 256)).set (o + 1) (x / 281474976710656 % 256)).set (o + 2) (x / 1099511627776 % 256)).set (o + 3) (x / 4294967296 % 256)).set (o + 4) (x / 16777216 % 256)).set (o + 5) (x / 65536 % 256)).set (o + 6) (x / 256 % 256)).set (o + 7) (x % 256)
theorem put8b_length (L : List Int) (o : Nat) (x : Int) : (put8b L o x).length = L.length := by simp [put8b]
set_option maxHeartbeats 8000000 in
theorem bep64i_calls {w : World} {g o n c : Nat} {L : List Int} {t : TypeId} (h : Nw .u8 w g t L) (x : Int) (ho : o + 8 ≤ L.length) (hn : 8 ≤ n) :
    Calls Tryd.prog 106 #[.slice (some ⟨g, o, none⟩) n c, .int .u64 x] w fun e w' => e = .returned (.tuple #[]) ∧ Nw .u8 w' g t (put8b L o x) ∧ Kp (· = g) w w' := by
  have c0 := h.cell o (by omega)
  have c1 := h.cell (o + 1) (by omega)
  have c2 := h.cell (o + 2) (by omega)
  have c3 := h.cell (o + 3) (by omega)
  have c4 := h.cell (o + 4) (by omega)
  have c5 := h.cell (o + 5) (by omega)
  have c6 := h.cell (o + 6) (by omega)
  have c7 := h.cell (o + 7) (by omega)
  have f0 := h.free o
  have f1 := h.free (o + 1)
  have f2 := h.free (o + 2)
  have f3 := h.free (o + 3)
  have f4 := h.free (o + 4)
  have f5 := h.free (o + 5)
  have f6 := h.free (o + 6)
  have f7 := h.free (o + 7)
  have HX := Lib.hid ((((((((h.set o (x / 72057594037927936 % 256)).set (o + 1) (x / 281474976710656 % 256)).set (o + 2) (x / 1099511627776 % 256)).set (o + 3) (x / 4294967296 % 256)).set (o + 4) (x / 16777216 % 256)).set (o + 5) (x / 65536 % 256)).set (o + 6) (x / 256 % 256)).set (o + 7) (x % 256))
  have HKK := Lib.hid (kput (kput (kput (kput (kput (kput (kput (kput (Kp.refl (· = g) w) o (.int .u8 (x / 72057594037927936 % 256))) (o + 1) (.int .u8 (x / 281474976710656 % 256))) (o + 2) (.int .u8 (x / 1099511627776 % 256))) (o + 3) (.int .u8 (x / 4294967296 % 256))) (o + 4) (.int .u8 (x / 16777216 % 256))) (o + 5) (.int .u8 (x / 65536 % 256))) (o + 6) (.int .u8 (x / 256 % 256))) (o + 7) (.int .u8 (x % 256)))
  generalize L.getD o 0 = z0 at *
  generalize L.getD (o + 1) 0 = z1 at *
  generalize L.getD (o + 2) 0 = z2 at *
  generalize L.getD (o + 3) 0 = z3 at *
  generalize L.getD (o + 4) 0 = z4 at *
  generalize L.getD (o + 5) 0 = z5 at *
  generalize L.getD (o + 6) 0 = z6 at *
  generalize L.getD (o + 7) 0 = z7 at *
  clear h ho
  go_enter Tryd.func106, Tryd.ntmps106
  go_wp2
  go_end0
  exact ⟨rfl, HX.out, HKK.out⟩
theorem bepd_calls {w : World} {g o n c : Nat} {L : List Int} {t : TypeId} (h : Nw .u8 w g t L) (x : Int) (ho : o + 4 ≤ L.length) (hn : 4 ≤ n) :
    Calls Tryd.prog 104 #[.slice (some ⟨g, o, none⟩) n c, .int .u32 x] w fun e w' => e = .returned (.tuple #[]) ∧ Nw .u8 w' g t (put4 L o x) ∧ Kp (· = g) w w' := by
  have D1 := Lib.hid (bep32_calls (c := c) h x ho hn)
  clear h ho
  go_enter Tryd.func104, Tryd.ntmps104
  go_wp2_with (fail)
  refine D1.out.mono ?_
  rintro e w1 ⟨rfl, h1, k1⟩
  go_wp2
  go_end0
  exact ⟨rfl, h1, k1⟩
theorem bep64_calls {w : World} {g o n c : Nat} {L : List Int} {t : TypeId} (h : Nw .u8 w g t L) (x : Int) (ho : o + 8 ≤ L.length) (hn : 8 ≤ n) :
    Calls Tryd.prog 103 #[.slice (some ⟨g, o, none⟩) n c, .int .u64 x] w fun e w' => e = .returned (.tuple #[]) ∧ Nw .u8 w' g t (put8b L o x) ∧ Kp (· = g) w w' := by
  have D1 := Lib.hid (bep64i_calls (c := c) h x ho hn)
  clear h ho
  go_enter Tryd.func103, Tryd.ntmps103
  go_wp2_with (fail)
  refine D1.out.mono ?_
  rintro e w1 ⟨rfl, h1, k1⟩
  go_wp2
  go_end0
  exact ⟨rfl, h1, k1⟩

/-! ### A new digest -/
theorem zeroDig : Tryd.zeroCells124 = (dgC ⟨List.replicate 8 0, List.replicate 64 0, 0, 0⟩).toArray := by kernel_rfl
set_option maxHeartbeats 4000000 in
theorem dreset_calls {w : World} {g : Nat} {s : DS} (h : Dg w g s) :
    Calls Tryd.prog 47 #[.pointer (some ⟨g, 0, none⟩)] w fun e w' => e = .returned (.tuple #[]) ∧ Dg w' g ⟨shaH, s.X, 0, 0⟩ ∧ Kp (· = g) w w' := by
  have c0 := h.h 0 (by omega)
  have c1 := h.h 1 (by omega)
  have c2 := h.h 2 (by omega)
  have c3 := h.h 3 (by omega)
  have c4 := h.h 4 (by omega)
  have c5 := h.h 5 (by omega)
  have c6 := h.h 6 (by omega)
  have c7 := h.h 7 (by omega)
  have c72 := h.nx
  have c73 := h.ln
  have c74 := h.is
  have f0 := h.free 0
  have f1 := h.free 1
  have f2 := h.free 2
  have f3 := h.free 3
  have f4 := h.free 4
  have f5 := h.free 5
  have f6 := h.free 6
  have f7 := h.free 7
  have f72 := h.free 72
  have f73 := h.free 73
  have h8 := set8 h.ok.h (rest := dgT s.X s.nx s.len) ⟨h.blk, Kp.refl (· = g) w⟩ 1779033703 3144134277 1013904242 2773480762 1359893119 2600822924 528734635 1541459225
  have hd8 : Dg _ g ⟨[1779033703, 3144134277, 1013904242, 2773480762, 1359893119, 2600822924, 528734635, 1541459225], s.X, s.nx, s.len⟩ := ⟨h8.blk, ⟨rfl, h.ok.x, h.ok.b, h.ok.n⟩⟩
  have HD := Lib.hid ((hd8.setNxTo 0 (by omega) (v := .int .i64 0) rfl).setLn 0 (v := .int .u64 0) rfl)
  have HKK := Lib.hid (kput (kput h8.kp 72 (.int .i64 0)) 73 (.int .u64 0))
  generalize s.H.getD 0 0 = z0 at *
  generalize s.H.getD 1 0 = z1 at *
  generalize s.H.getD 2 0 = z2 at *
  generalize s.H.getD 3 0 = z3 at *
  generalize s.H.getD 4 0 = z4 at *
  generalize s.H.getD 5 0 = z5 at *
  generalize s.H.getD 6 0 = z6 at *
  generalize s.H.getD 7 0 = z7 at *
  clear h h8 hd8
  go_enter Tryd.func47, Tryd.ntmps47
  go_wp2
  go_end0
  exact ⟨rfl, HD.out, HKK.out⟩
theorem dnew_calls {w : World} :
    Calls Tryd.prog 39 #[] w fun e w' => e = .returned (.pointer (some ⟨w.heap.size, 0, none⟩)) ∧ Dg w' w.heap.size ds0 ∧ Kp no w w' := by
  have hz := zeroDig
  have hD0 : Dg (w.alloc (.cells Tryd.zeroCells124 124)) w.heap.size ⟨List.replicate 8 0, List.replicate 64 0, 0, 0⟩ := ⟨by rw [hz]; exact Blk.new w _ _, ⟨rfl, rfl, fun x hx => by have := List.eq_of_mem_replicate hx; omega, by decide⟩⟩
  have D1 := Lib.hid (dreset_calls hD0)
  have k0 : Kp no w (w.alloc (.cells Tryd.zeroCells124 124)) := (Kp.refl _ _).alloc _
  clear hD0 hz
  go_enter Tryd.func39, Tryd.ntmps39
  go_wp2_with (fail)
  refine D1.out.mono ?_
  rintro e w1 ⟨rfl, h1, k1⟩
  have H1 := Lib.hid h1
  clear h1
  go_wp2
  go_ret
  exact ⟨rfl, H1.out, k0.trans k1 (fun i hi h => by have h : i = w.heap.size := h; omega)⟩
end Go.Proofs.YthdbchahmbcfeaaDoor
namespace Go.Proofs.YthdbchahmbcfeaaDoor
open Go Go.RowKit
set_option linter.unusedVariables false
set_option linter.unusedSimpArgs false
set_option maxRecDepth 100000

theorem wrF_len (K : List Int) (s : DS) (p : List Int) : (wrF K s p).len = s.len + p.length := by
  unfold wrF wr3 wr2 wr1
  repeat' split
  all_goals rfl
theorem wrF_nx {K : List Int} {s : DS} {p : List Int} (h : s.nx = s.len % 64) : (wrF K s p).nx = (s.len + p.length) % 64 := by
  unfold wrF wr3 wr2 wr1 cutN
  by_cases h0 : s.nx = 0
  · simp only [h0, if_true, List.drop_zero, List.length_drop]
    split
    · show 0 = _; omega
    · show p.length - 64 * (p.length / 64) = _; omega
  · simp only [h0, if_false, List.length_drop]
    by_cases h1 : s.nx + min (64 - s.nx) p.length = 64
    · simp only [h1, if_true]
      split
      · show 0 = _; omega
      · show p.length - min (64 - s.nx) p.length - 64 * ((p.length - min (64 - s.nx) p.length) / 64) = _; omega
    · simp only [h1, if_false]
      split
      · show s.nx + min (64 - s.nx) p.length = _; omega
      · omega
theorem set_app' (A C : List Int) (i : Nat) (v : Int) : (A ++ C).set (A.length + i) v = A ++ C.set i v := by
  rw [List.set_append_right _ _ (by omega), Nat.add_sub_cancel_left]
theorem set_app0 (A C : List Int) (v : Int) : (A ++ C).set A.length v = A ++ C.set 0 v := set_app' A C 0 v
theorem padT_rng (n : Nat) : 1 ≤ padT n ∧ padT n ≤ 64 ∧ (n + padT n + 8) % 64 = 0 := by unfold padT; split <;> omega
theorem padI_length (n : Nat) : (padI n).length = padT n + 8 := by
  have := padT_rng n
  simp [padI, be8]; omega
theorem pad_put (n : Nat) : (put8b ((List.replicate 72 (0 : Int)).set 0 128) (padT n) ((n : Int) * 8)).take (padT n + 8) = padI n := by
  have ht := padT_rng n
  obtain ⟨t, hT⟩ : ∃ t, padT n = t + 1 := ⟨padT n - 1, by omega⟩
  unfold padI
  rw [hT] at ht ⊢
  obtain ⟨A, hA⟩ : ∃ A : List Int, A = 128 :: List.replicate t 0 := ⟨_, rfl⟩
  have hAl : A.length = t + 1 := by rw [hA]; simp
  have e0 : (List.replicate 72 (0 : Int)).set 0 128 = A ++ ([0, 0, 0, 0, 0, 0, 0, 0] ++ List.replicate (63 - t) 0) := by
    rw [hA, show (72 : Nat) = (t + (8 + (63 - t))) + 1 from by omega, List.replicate_succ, List.set_cons_zero, ← List.replicate_append_replicate, ← List.replicate_append_replicate]
    rfl
  rw [e0, ← hAl]
  have e1 : put8b (A ++ ([0, 0, 0, 0, 0, 0, 0, 0] ++ List.replicate (63 - t) 0)) A.length ((n : Int) * 8) = A ++ (be8 ((n : Int) * 8) ++ List.replicate (63 - t) 0) := by
    unfold put8b
    rw [set_app0, set_app', set_app', set_app', set_app', set_app', set_app', set_app']
    generalize (n : Int) * 8 = x
    simp [be8, List.range_succ]
  rw [e1, show A.length + 8 = (A ++ be8 ((n : Int) * 8)).length from by simp [be8], ← List.append_assoc, List.take_left]
  rw [hA]; simp
theorem out_put {H : List Int} (h : H.length = 8) :
    put4 (put4 (put4 (put4 (put4 (put4 (put4 (put4 (List.replicate 32 0) 0 (H.getD 0 0)) 4 (H.getD 1 0)) 8 (H.getD 2 0)) 12 (H.getD 3 0)) 16 (H.getD 4 0)) 20 (H.getD 5 0)) 24 (H.getD 6 0)) 28 (H.getD 7 0) = outF H := by
  match H, h with
  | [a, b, c, d, e, f, g, i], _ =>
    simp [outF, put4, List.range_succ]
theorem put8b_byt {L : List Int} (h : Byt L) (o : Nat) (x : Int) : Byt (put8b L o x) := by
  unfold put8b
  exact (((((((h.set _ (by omega) (by omega)).set _ (by omega) (by omega)).set _ (by omega) (by omega)).set _ (by omega) (by omega)).set _ (by omega) (by omega)).set _ (by omega) (by omega)).set _ (by omega) (by omega)).set _ (by omega) (by omega)
theorem tmp72 : Tryd.zeroCells168 = (nums .u8 (List.replicate 72 0)).toArray := by kernel_rfl
/-- While the words are written out: the digest, the row, the result's row. -/
structure Vch (w : World) (g : Nat) (s : DS) (gd : Nat) (L : List Int) (wx : World) : Prop where
  dg : Dg wx g s
  nw : Nw .u8 wx gd 163 L
  bz : Blk wx w.heap.size (nums .u8 (List.replicate 32 0)).toArray 163
  kp : Kp (· = g) w wx
  ge : w.heap.size < gd
  lt : g < w.heap.size
  len : L.length = 32
theorem Vch.next {w wx wy : World} {g gd : Nat} {s : DS} {L M : List Int} (h : Vch w g s gd L wx) (nq : Nat) (n : Nw .u8 wy gd 163 M) (k : Kp (· = gd) (wx.drewN nq) wy) (hl : M.length = 32) : Vch w g s gd M wy := by
  have h1 := h.ge; have h2 := h.lt
  exact ⟨(h.dg.keepN (Kp.byDraws _ nq)).keep k (by show ¬ g = gd; omega), n, (h.bz.keepN (Kp.byDraws _ nq)).keep k (by show ¬ w.heap.size = gd; omega), (h.kp.then (Kp.byDraws _ nq)).trans k (fun i hi e => by have e : i = gd := e; omega), h1, h2, hl⟩
set_option maxHeartbeats 16000000 in
theorem dcheck_calls {w : World} {g : Nat} {K : List Int} {s : DS} (hD : Dg w g s) (hK : Keys w K) (hg : 11 ≠ g) (hn : s.len ≤ 60000) (hx : s.nx = s.len % 64) :
    Calls Tryd.prog 99 #[.pointer (some ⟨g, 0, none⟩)] w fun e w' => e = .returned (.agg (nums .u8 (sumF K s)).toArray) ∧ (∃ s', Dg w' g s') ∧ Kp (· = g) w w' := by
  have c73 := hD.ln
  have HD := Lib.hid hD
  have HK := Lib.hid hK
  have HX := Lib.hid hx
  have ht := padT_rng s.len
  have HT := Lib.hid (show padT s.len = if s.len % 64 < 56 then 56 - s.len % 64 else 120 - s.len % 64 from rfl)
  have hglt := hD.lt
  have hsz : (w.alloc (.cells (nums .u8 (List.replicate 32 0)).toArray 163)).heap.size = w.heap.size + 1 := by simp
  have BZ : Blk ((w.alloc (.cells (nums .u8 (List.replicate 32 0)).toArray 163)).alloc (.cells (Tryd.zeroCells168.setIfInBounds 0 (.int .u8 128)) 168)) w.heap.size (nums .u8 (List.replicate 32 0)).toArray 163 := (Blk.new w _ _).alloc _
  have NT : Nw .u8 ((w.alloc (.cells (nums .u8 (List.replicate 32 0)).toArray 163)).alloc (.cells (Tryd.zeroCells168.setIfInBounds 0 (.int .u8 128)) 168)) (w.heap.size + 1) 168 ((List.replicate 72 0).set 0 128) := by
    have := Blk.new (w.alloc (.cells (nums .u8 (List.replicate 32 0)).toArray 163)) (Tryd.zeroCells168.setIfInBounds 0 (.int .u8 128)) 168
    rw [hsz, tmp72, show (nums .u8 (List.replicate 72 (0 : Int))).toArray.setIfInBounds 0 (.int .u8 128) = (nums .u8 ((List.replicate 72 0).set 0 128)).toArray from by rfl] at this
    rw [tmp72]
    exact this
  have k1 : Kp no w ((w.alloc (.cells (nums .u8 (List.replicate 32 0)).toArray 163)).alloc (.cells (Tryd.zeroCells168.setIfInBounds 0 (.int .u8 128)) 168)) := ((Kp.refl _ _).alloc _).alloc _
  clear hD hK hx hsz
  go_enter Tryd.func99, Tryd.ntmps99
  go_upto_if 15 with (fail)
  show Code.wp _ _ _ _ ((w.alloc (.cells (nums .u8 (List.replicate 32 0)).toArray 163)).alloc (.cells (Tryd.zeroCells168.setIfInBounds 0 (.int .u8 128)) 168))
  generalize (w.alloc (.cells (nums .u8 (List.replicate 32 0)).toArray 163)).alloc (.cells (Tryd.zeroCells168.setIfInBounds 0 (.int .u8 128)) 168) = W1 at *
  go_cut [5, 15] from 16 to 21 (fun tv bv wx => tv = .int .u64 (padT s.len : Nat) ∧ wx = W1)
  case first =>
    by_cases h56 : s.len % 64 < 56
    · have h56' : (s.len : Int) % 64 < 56 := by omega
      have hv : (56 : Int) - (s.len : Int) % 64 = (padT s.len : Nat) := by have := HT.out; rw [if_pos h56] at this; omega
      have HV := Lib.hid hv
      clear hv
      go_wp2
      go_meet
      case rel => exact ⟨by first | rw [HV.out] | rw [← HV.out], rfl⟩
    · have h56' : ¬ (s.len : Int) % 64 < 56 := by omega
      have hv : (120 : Int) - (s.len : Int) % 64 = (padT s.len : Nat) := by have := HT.out; rw [if_neg h56] at this; omega
      have HV := Lib.hid hv
      clear hv
      go_wp2
      go_meet
      case rel => exact ⟨by first | rw [HV.out] | rw [← HV.out], rfl⟩
  case rest =>
    obtain ⟨rfl, hwc⟩ := hcut
    obtain rfl : W1 = wc := hwc.symm
    have HPP := Lib.hid (pad_put s.len)
    have HPL := Lib.hid (padI_length s.len)
    have ht3 := ht.2.2
    obtain ⟨t, htt⟩ : ∃ t, t = padT s.len := ⟨_, rfl⟩
    rw [← htt] at ht HPP HPL ht3 ⊢
    have HTT := Lib.hid htt
    have ht1 := ht.1
    have ht2 := ht.2.1
    clear htt HT ht
    have hw8 : IntKind.u64.wrap ((s.len : Int) * 8) = (s.len : Int) * 8 := by simp [IntKind.wrap, IntKind.bits, IntKind.signed]; omega
    have ht4 : ¬ 72 = t := by omega
    have ht5 : (0 : Int) ≤ (t : Int) + 8 := by omega
    have ht6 : (t : Int) + 8 ≤ 72 := by omega
    have ht7 : (t : Int) ≤ 64 := by omega
    have ht8 : (0 : Int) ≤ (t : Int) := by omega
    have ht9 : (t : Int) ≤ (t : Int) + 8 := by omega
    have hta : ((t : Int) + 8).toNat = t + 8 := by omega
    have D2 := Lib.hid (bep64_calls (n := 8) (c := 72 - t) (o := t) NT ((s.len : Int) * 8) (by simp; omega) (by omega))
    have HLT := Lib.hid (And.intro BZ.lt NT.lt)
    go_wp2_with (fail)
    refine D2.out.mono ?_
    rintro e w2 ⟨rfl, N2, k2⟩
    have R2 := (N2.rd (n := 72) (by rw [put8b_length]; simp) (put8b_byt (Byt.set (fun x hx => by have := List.eq_of_mem_replicate hx; omega) 0 (by omega) (by omega)) _ _) (by omega)).take (t + 8) (by omega)
    rw [HPP.out] at R2
    have hne : g ≠ w.heap.size + 1 := by omega
    have hD2 := ((HD.out.keepN k1).keep k2 hne)
    have kw2 : Kp no w w2 := k1.trans k2 (fun i hi h => by have h : i = w.heap.size + 1 := h; omega)
    have hlt2 : w.heap.size + 1 < w2.heap.size := N2.lt
    have D3 := Lib.hid (dwrite_calls hD2 (HK.out.keepN kw2) hg R2 (fun a e => by cases e; exact hlt2) (fun a e => by cases e; exact fun h => hne h.symm) (by omega) (by omega) (by have := HX.out; omega))
    have BZ2 := BZ.keep k2 (show ¬ w.heap.size = w.heap.size + 1 by omega)
    clear N2 R2 hD2 k2 D2 NT BZ k1
    go_wp2_with (fail)
    refine D3.out.mono ?_
    rintro e w3 ⟨rfl, hD3, k3⟩
    have hnx0 : (wrF K s (padI s.len)).nx = 0 := by rw [wrF_nx HX.out, HPL.out]; omega
    have HSF := Lib.hid (show sumF K s = outF (wrF K s (padI s.len)).H from rfl)
    have kw3 : Kp (· = g) w w3 := (kw2.mono (fun _ _ h => h.elim)).trans k3 (fun _ _ h => h)
    have BZ3 := BZ2.keep k3 (show ¬ w.heap.size = g by omega)
    have c72 := hD3.nx
    rw [hnx0] at c72
    have c74 := hD3.is
    generalize wrF K s (padI s.len) = sF at *
    have HD3 := Lib.hid hD3
    have hlt3 := BZ3.lt
    clear hnx0 D3 kw2 k3 BZ2 hD3 HPP hw8
    have NZ : Nw .u8 (w3.alloc (.cells (nums .u8 (List.replicate 32 0)).toArray 163)) w3.heap.size 163 (List.replicate 32 0) := Blk.new _ _ _
    have ka : Kp no w3 (w3.alloc (.cells (nums .u8 (List.replicate 32 0)).toArray 163)) := (Kp.refl _ _).alloc _
    have V0 : Vch w g sF w3.heap.size (List.replicate 32 0) (w3.alloc (.cells (nums .u8 (List.replicate 32 0)).toArray 163)) := ⟨HD3.out.keepN ka, NZ, BZ3.keepN ka, kw3.then ka, by rw [← Nat.not_le]; omega, by omega, by simp⟩
    have HV0 := Lib.hid V0
    clear NZ ka V0 BZ3 kw3
    go_upto_region 15 with (fail)
    show Code.wp _ _ _ _ (w3.alloc (.cells (nums .u8 (List.replicate 32 0)).toArray 163))
    generalize w3.alloc (.cells (nums .u8 (List.replicate 32 0)).toArray 163) = x0 at *
    obtain ⟨gd, hgd⟩ : ∃ gd, gd = w3.heap.size := ⟨_, rfl⟩
    rw [← hgd] at HV0 ⊢
    clear hgd
    clear c72 c74
    have e0 := HV0.out.dg.h 0 (by omega)
    go_upto_region 15 with (fail)
    refine wp_region_quiet_tail 6 (by kernel_rfl) (by kernel_rfl) ?_
    simp only [List.take_succ_cons, List.take_zero, List.drop_succ_cons, List.drop_zero]
    repeat (go_big_quiet_step (fail))
    refine wpQuiet_nil ?_
    rintro _ ⟨nq, rfl⟩
    have C0 := Lib.hid (bepd_calls (n := 32) (c := 32) (o := 0) (HV0.out.nw.keepN (Kp.byDraws x0 nq)) (sF.H.getD 0 0) (by rw [HV0.out.len]; omega) (by omega))
    go_wp2_with (fail)
    refine C0.out.mono ?_
    rintro e x1 ⟨rfl, n1, k1⟩
    have HV1 := Lib.hid (HV0.out.next nq n1 k1 (by rw [put4_length]; exact HV0.out.len))
    clear n1 k1 C0 e0 HV0
    have e1 := HV1.out.dg.h 1 (by omega)
    go_upto_region 16 with (fail)
    refine wp_region_quiet_tail 6 (by kernel_rfl) (by kernel_rfl) ?_
    simp only [List.take_succ_cons, List.take_zero, List.drop_succ_cons, List.drop_zero]
    repeat (go_big_quiet_step (fail))
    refine wpQuiet_nil ?_
    rintro _ ⟨nq, rfl⟩
    have C1 := Lib.hid (bepd_calls (n := 28) (c := 28) (o := 4) (HV1.out.nw.keepN (Kp.byDraws x1 nq)) (sF.H.getD 1 0) (by rw [HV1.out.len]; omega) (by omega))
    go_wp2_with (fail)
    refine C1.out.mono ?_
    rintro e x2 ⟨rfl, n2, k2⟩
    have HV2 := Lib.hid (HV1.out.next nq n2 k2 (by rw [put4_length]; exact HV1.out.len))
    clear n2 k2 C1 e1 HV1
    have e2 := HV2.out.dg.h 2 (by omega)
    go_upto_region 17 with (fail)
    refine wp_region_quiet_tail 6 (by kernel_rfl) (by kernel_rfl) ?_
    simp only [List.take_succ_cons, List.take_zero, List.drop_succ_cons, List.drop_zero]
    repeat (go_big_quiet_step (fail))
    refine wpQuiet_nil ?_
    rintro _ ⟨nq, rfl⟩
    have C2 := Lib.hid (bepd_calls (n := 24) (c := 24) (o := 8) (HV2.out.nw.keepN (Kp.byDraws x2 nq)) (sF.H.getD 2 0) (by rw [HV2.out.len]; omega) (by omega))
    go_wp2_with (fail)
    refine C2.out.mono ?_
    rintro e x3 ⟨rfl, n3, k3⟩
    have HV3 := Lib.hid (HV2.out.next nq n3 k3 (by rw [put4_length]; exact HV2.out.len))
    clear n3 k3 C2 e2 HV2
    have e3 := HV3.out.dg.h 3 (by omega)
    go_upto_region 18 with (fail)
    refine wp_region_quiet_tail 6 (by kernel_rfl) (by kernel_rfl) ?_
    simp only [List.take_succ_cons, List.take_zero, List.drop_succ_cons, List.drop_zero]
    repeat (go_big_quiet_step (fail))
    refine wpQuiet_nil ?_
    rintro _ ⟨nq, rfl⟩
    have C3 := Lib.hid (bepd_calls (n := 20) (c := 20) (o := 12) (HV3.out.nw.keepN (Kp.byDraws x3 nq)) (sF.H.getD 3 0) (by rw [HV3.out.len]; omega) (by omega))
    go_wp2_with (fail)
    refine C3.out.mono ?_
    rintro e x4 ⟨rfl, n4, k4⟩
    have HV4 := Lib.hid (HV3.out.next nq n4 k4 (by rw [put4_length]; exact HV3.out.len))
    clear n4 k4 C3 e3 HV3
    have e4 := HV4.out.dg.h 4 (by omega)
    go_upto_region 19 with (fail)
    refine wp_region_quiet_tail 6 (by kernel_rfl) (by kernel_rfl) ?_
    simp only [List.take_succ_cons, List.take_zero, List.drop_succ_cons, List.drop_zero]
    repeat (go_big_quiet_step (fail))
    refine wpQuiet_nil ?_
    rintro _ ⟨nq, rfl⟩
    have C4 := Lib.hid (bepd_calls (n := 16) (c := 16) (o := 16) (HV4.out.nw.keepN (Kp.byDraws x4 nq)) (sF.H.getD 4 0) (by rw [HV4.out.len]; omega) (by omega))
    go_wp2_with (fail)
    refine C4.out.mono ?_
    rintro e x5 ⟨rfl, n5, k5⟩
    have HV5 := Lib.hid (HV4.out.next nq n5 k5 (by rw [put4_length]; exact HV4.out.len))
    clear n5 k5 C4 e4 HV4
    have e5 := HV5.out.dg.h 5 (by omega)
    go_upto_region 20 with (fail)
    refine wp_region_quiet_tail 6 (by kernel_rfl) (by kernel_rfl) ?_
    simp only [List.take_succ_cons, List.take_zero, List.drop_succ_cons, List.drop_zero]
    repeat (go_big_quiet_step (fail))
    refine wpQuiet_nil ?_
    rintro _ ⟨nq, rfl⟩
    have C5 := Lib.hid (bepd_calls (n := 12) (c := 12) (o := 20) (HV5.out.nw.keepN (Kp.byDraws x5 nq)) (sF.H.getD 5 0) (by rw [HV5.out.len]; omega) (by omega))
    go_wp2_with (fail)
    refine C5.out.mono ?_
    rintro e x6 ⟨rfl, n6, k6⟩
    have HV6 := Lib.hid (HV5.out.next nq n6 k6 (by rw [put4_length]; exact HV5.out.len))
    clear n6 k6 C5 e5 HV5
    have e6 := HV6.out.dg.h 6 (by omega)
    go_upto_region 21 with (fail)
    refine wp_region_quiet_tail 6 (by kernel_rfl) (by kernel_rfl) ?_
    simp only [List.take_succ_cons, List.take_zero, List.drop_succ_cons, List.drop_zero]
    repeat (go_big_quiet_step (fail))
    refine wpQuiet_nil ?_
    rintro _ ⟨nq, rfl⟩
    have C6 := Lib.hid (bepd_calls (n := 8) (c := 8) (o := 24) (HV6.out.nw.keepN (Kp.byDraws x6 nq)) (sF.H.getD 6 0) (by rw [HV6.out.len]; omega) (by omega))
    go_wp2_with (fail)
    refine C6.out.mono ?_
    rintro e x7 ⟨rfl, n7, k7⟩
    have HV7 := Lib.hid (HV6.out.next nq n7 k7 (by rw [put4_length]; exact HV6.out.len))
    clear n7 k7 C6 e6 HV6
    have e7 := HV7.out.dg.h 7 (by omega)
    have c74 := HV7.out.dg.is
    go_upto_region 23 with (fail)
    refine wp_region_quiet_tail 6 (by kernel_rfl) (by kernel_rfl) ?_
    simp only [List.take_succ_cons, List.take_zero, List.drop_succ_cons, List.drop_zero]
    repeat (go_big_quiet_step (fail))
    refine wpQuiet_nil ?_
    rintro _ ⟨nq, rfl⟩
    have C7 := Lib.hid (bepd_calls (n := 4) (c := 4) (o := 28) (HV7.out.nw.keepN (Kp.byDraws x7 nq)) (sF.H.getD 7 0) (by rw [HV7.out.len]; omega) (by omega))
    go_wp2_with (fail)
    refine C7.out.mono ?_
    rintro e x8 ⟨rfl, n8, k8⟩
    have HV8 := Lib.hid (HV7.out.next nq n8 k8 (by rw [put4_length]; exact HV7.out.len))
    clear n8 k8 C7 e7 HV7
    have HO := Lib.hid (out_put HD3.out.ok.h)
    have HVF := Lib.hid (show Vch w g sF gd (outF sF.H) x8 from by rw [← HO.out]; exact HV8.out)
    generalize outF sF.H = S at *
    clear HV8 HO
    have BS := HVF.out.nw
    have BZ9 := HVF.out.bz
    have HLS := Lib.hid HVF.out.len
    go_wp2_with (first
      | (refine wpList_load_mid rfl 163 (.tmp 7) rfl gd 0 rfl (nums .u8 S) (.array 32 5) (Blk.range BS) Tryd.underlying163 rfl (by rw [nums_length, HLS.out]; exact infoB32) ?_)
      | (refine wpList_store_row rfl 163 (.tmp 2) (.tmp 103) rfl w.heap.size (nums .u8 S) rfl rfl BZ9 (by simp [nums]; have := HLS.out; omega) (by rw [nums_length, HLS.out]; exact infoB32) (nums_one _ _) ?_; intro w11 B11 k11 hsz11))
    (try simp only [Exit.inBlock, Exit.then]); refine bodyPost_ret (results_cellrow_tmp0 rfl _ _ w.heap.size 163 (nums .u8 S).toArray _ rfl B11 Tryd.underlying163 rfl (by rw [show (nums .u8 S).toArray.size = 32 from by simp [nums]; exact HLS.out]; exact infoB32)) rfl ?_
    exact ⟨by rw [HSF.out], ⟨sF, HVF.out.dg.keep k11 (by have := HVF.out.lt; show ¬ g = w.heap.size; omega)⟩, HVF.out.kp.trans k11 (fun i hi h => by have h : i = w.heap.size := h; omega)⟩
end Go.Proofs.YthdbchahmbcfeaaDoor
namespace Go.Proofs.YthdbchahmbcfeaaDoor
open Go Go.RowKit
set_option linter.unusedVariables false
set_option linter.unusedSimpArgs false
set_option maxRecDepth 100000

theorem getInd (w : World) : (callFunc 101 #[]).run Tryd.prog w = .ok (.value (.int .u8 0)) w := by
  rw [run_callFunc_extern (e := fun _ => pure (.int .u8 0)) Tryd.func101 (by kernel_rfl) (by kernel_rfl) (by kernel_rfl) (by kernel_rfl)]
  rfl
theorem setInd (w : World) (v : Value) : (callFunc 102 #[v]).run Tryd.prog w = .ok (.value (.tuple #[])) w := by
  rw [run_callFunc_extern (e := Extern.CryptoHooks.nothing) Tryd.func102 (by kernel_rfl) (by kernel_rfl) (by kernel_rfl) (by kernel_rfl)]
  rfl
theorem approved_calls {w : World} : Calls Tryd.prog 98 #[] w fun e w' => e = .returned (.tuple #[]) ∧ w' = w := by
  have h1 := getInd
  have h2 := setInd
  go_enter Tryd.func98, Tryd.ntmps98
  go_wp2
  go_end0
  exact ⟨rfl, rfl⟩
theorem nw_setCells {K : IntKind} {g : Nat} {t : TypeId} : ∀ (C B A : List Int) (w : World), C.length = B.length → Nw K w g t (A ++ B) → Nw K (w.setCells g A.length (nums K C)) g t (A ++ C) ∧ Kp (· = g) w (w.setCells g A.length (nums K C))
  | [], [], A, w, _, h => ⟨h, Kp.refl _ _⟩
  | [], b :: B, A, w, hl, h => by simp at hl
  | c :: C, [], A, w, hl, h => by simp at hl
  | c :: C, b :: B, A, w, hl, h => by
    have h1 := h.set A.length c
    rw [set_app0, List.set_cons_zero, show A ++ c :: B = (A ++ [c]) ++ B from by simp] at h1
    have ih := nw_setCells C B (A ++ [c]) (w.setCell ⟨g, A.length, none⟩ (.int K c)) (by simpa using hl) h1
    rw [show (A ++ [c]).length = A.length + 1 from by simp] at ih
    have e : w.setCells g A.length (nums K (c :: C)) = (w.setCell ⟨g, A.length, none⟩ (.int K c)).setCells g (A.length + 1) (nums K C) := rfl
    rw [e]
    refine ⟨by simpa using ih.1, (kput (Kp.refl (· = g) w) A.length (.int K c)).trans ih.2 (fun _ _ h => h)⟩
section
variable {P : Program} {ops : Array Oper} {rest : List Oper} {o : Oper} {a : Act} {Q : Exit → Act → World → Prop}
/-- 'append(sum[:0], hash[:]...)': the row is filled. -/
theorem append_fill {W : World} (hgd : o.guard = none) (s x : Operand) (t e : TypeId)
    (ho : o.op = .call { callee := .builtin .append, args := #[s, x], argTypes := #[t, t] })
    (ht : P.underlying t = some (.slice e)) (hinfo : (P.info? e).map (·.size) = some 1)
    (gs g2 n : Nat) (T T2 : TypeId) (Z S : List Int) (hs : a.eval s = .slice (some ⟨gs, 0, none⟩) 0 n) (hx : a.eval x = .slice (some ⟨g2, 0, none⟩) n n)
    (hZ : Nw .u8 W gs T Z) (hzl : Z.length = n) (hS : Nw .u8 W g2 T2 S) (hsl : S.length = n)
    (h : ∀ w1, Nw .u8 w1 gs T S → Kp (· = gs) W w1 → wpList P ops Q rest (a.put o.dst (.slice (some ⟨gs, 0, none⟩) n n)) w1) :
    wpList P ops Q (o :: rest) a W := by
  obtain ⟨i, hi, hsz⟩ := Option.map_eq_some_iff.1 hinfo
  have hnl : (nums .u8 S).length = n := by rw [nums_length, hsl]
  have hrun := run_append_room_cells (P := P) W t o.type e i ht hi gs 0 0 n ⟨g2, 0, none⟩ n n (nums .u8 S) (by rw [hnl, hsz]; omega)
    (by
      intro j u hu
      have hj : j < n := by
        rcases Nat.lt_or_ge j n with h | h
        · exact h
        · rw [List.getElem?_eq_none (by omega)] at hu; cases hu
      have ha : (⟨g2, 0, none⟩ : Addr).add j = ⟨g2, j, none⟩ := by unfold Addr.add; split <;> simp_all
      rw [ha, hS.cell j (by omega), ← hu]
      simp [nums, List.getD_eq_getElem?_getD, List.getElem?_eq_getElem (show j < S.length by omega)])
    (by intro u hu; simp only [nums, List.mem_map] at hu; obtain ⟨q, _, rfl⟩ := hu; rfl) (by omega)
    (by intro j hj; simp only [Nat.zero_mul, Nat.zero_add]; rw [hZ.cell j (by omega)]; rfl)
    (by intro j hj; exact hZ.free _)
  simp only [Nat.zero_mul, Nat.zero_add] at hrun
  obtain ⟨h1, h2⟩ := nw_setCells S Z [] W (by omega) hZ
  refine wpList_plain hgd fun K hK => ?_
  unfold Oper.wp execOp
  simp only [ho, resolve, invoke, builtin, Sem.run_bind, Sem.run_pure, Result.andThen_ok, List.map_toArray, List.map_cons, List.map_nil, hs, hx, hrun]
  exact hK _ _ (h _ h1 h2)
end
theorem infoDig : (Tryd.prog.info? 124).map (·.size) = some 75 := by kernel_rfl
theorem dgC_one (s : DS) : (dgC s).toArray.all (·.oneCell') = true := all_oneCell_toArray fun v hv => by
  unfold dgC dgT nums at hv
  simp only [List.mem_append, List.mem_map, List.mem_cons, List.not_mem_nil, or_false] at hv
  rcases hv with ⟨x, _, rfl⟩ | ⟨x, _, rfl⟩ | rfl | rfl | rfl <;> rfl
theorem zeroDig_size : Tryd.zeroCells124.size = 75 := by kernel_rfl
theorem Keys.ne {w : World} {K : List Int} (h : Keys w K) {g : Nat} (hg : w.heap.size ≤ g) : 11 ≠ g := by
  have := World.block_lt_of_cell? _ _ (h.at_ 0 (by omega))
  intro e
  rw [e] at this
  exact absurd (Nat.lt_of_lt_of_le this hg) (Nat.lt_irrefl _)
set_option maxHeartbeats 8000000 in
/-- Sum onto a row of 32 bytes. -/
theorem dsum_calls {w : World} {g gs : Nat} {K Z : List Int} {s : DS} (hD : Dg w g s) (hK : Keys w K) (hn : s.len ≤ 60000) (hx : s.nx = s.len % 64) (hZ : Nw .u8 w gs 163 Z) (hzl : Z.length = 32) :
    Calls Tryd.prog 96 #[.pointer (some ⟨g, 0, none⟩), .slice (some ⟨gs, 0, none⟩) 0 32] w fun e w' => e = .returned (.slice (some ⟨gs, 0, none⟩) 32 32) ∧ Nw .u8 w' gs 163 (sumF K s) ∧ Kp (· = gs) w w' := by
  have HD := Lib.hid hD
  have HZL := Lib.hid hzl
  have B0 := Blk.new w Tryd.zeroCells124 124
  have C1 := Lib.hid (fun (w1 : World) (b : Blk w1 w.heap.size (dgC s).toArray 124) (k : Kp no w w1) => dcheck_calls (s := s) ⟨b, hD.ok⟩ (hK.keepN k) (hK.ne (Nat.le_refl _)) hn hx)
  have HS := Lib.hid (show (sumF K s).length = 32 from outF_length _)
  have hzlt := hZ.lt
  have HZ := Lib.hid hZ
  have k0 : Kp no w (w.alloc (.cells Tryd.zeroCells124 124)) := (Kp.refl _ _).alloc _
  clear hD hK hx hzl hZ
  generalize sumF K s = S at *
  go_enter Tryd.func96, Tryd.ntmps96
  go_wp2_with (first
    | (go_at_call 98; refine approved_calls.mono ?_; rintro e wz ⟨rfl, hz⟩; obtain rfl := hz.symm)
    | (refine wpList_load_mid rfl 124 (.tmp 9) rfl g 0 rfl (dgC s) _ (Blk.range HD.out.blk) Tryd.underlying124 rfl (by rw [dgC_len HD.out.ok]; exact infoDig) ?_)
    | (refine wpList_store_row rfl 124 (.tmp 5) (.tmp 10) rfl w.heap.size (dgC s) rfl rfl B0 (by rw [dgC_len HD.out.ok]; exact zeroDig_size) (by rw [dgC_len HD.out.ok]; exact infoDig) (dgC_one s) ?_; intro w1 B1 k1 hsz1; have K1 : Kp no w w1 := k0.trans k1 (fun i hi h => by have h : i = w.heap.size := h; omega); have Z1 := HZ.out.keepN K1; clear hsz1 k1 B0 k0)
    | (go_at_call 99; refine (C1.out w1 B1 K1).mono ?_; rintro e w2 ⟨rfl, ⟨s2, D2⟩, k2⟩; have Z2 := Z1.keep k2 (by show ¬ gs = w.heap.size; omega); have K2 : Kp no w w2 := K1.trans k2 (fun i hi h => by have h : i = w.heap.size := h; omega); have c74 := D2.is; have BN := Blk.new w2 (nums .u8 (List.replicate 32 0)).toArray 163; have hd2 := D2.lt; have Z3 := Z2.alloc (.cells (nums .u8 (List.replicate 32 0)).toArray 163); have K3 := K2.alloc (.cells (nums .u8 (List.replicate 32 0)).toArray 163); have HD2 := Lib.hid (D2.keepN ((Kp.refl _ _).alloc (.cells (nums .u8 (List.replicate 32 0)).toArray 163))); clear D2 k2 c74)
    | (refine wpList_store_row rfl 163 (.tmp 6) (.tmp 11) rfl w2.heap.size (nums .u8 S) rfl rfl BN (by simp [nums]; have := HS.out; omega) (by rw [nums_length, HS.out]; exact infoB32) (nums_one _ _) ?_; intro w4 B4 k4 hsz4; have D4 := HD2.out.keep k4 (by show ¬ w.heap.size = w2.heap.size; omega); have c74 := D4.is; have Z4 := Z3.keep k4 (by show ¬ gs = w2.heap.size; have := Z2.lt; omega); have K4 : Kp no w w4 := K3.trans k4 (fun i hi h => by have h : i = w2.heap.size := h; have := K2.size; omega); clear D4 hsz4 k4 BN)
    | (at_builtin; refine append_fill rfl (.tmp 17) (.tmp 18) 22 5 rfl Tryd.und_bytes byt_size gs w2.heap.size 32 163 163 Z S rfl rfl Z4 HZL.out B4 HS.out ?_; intro w5 N5 k5))
  go_ret
  exact ⟨rfl, N5, (K4.mono (fun _ _ h => h.elim)).trans k5 (fun _ _ h => h)⟩
theorem shaNew_calls {w : World} :
    Calls Tryd.prog 30 #[] w fun e w' => e = .returned (.iface 106 (.pointer (some ⟨w.heap.size, 0, none⟩))) ∧ Dg w' w.heap.size ds0 ∧ Kp no w w' := by
  have D1 := Lib.hid (dnew_calls (w := w))
  go_enter Tryd.func30, Tryd.ntmps30
  go_wp2_with (fail)
  refine D1.out.mono ?_
  rintro e w1 ⟨rfl, h1, k1⟩
  have H1 := Lib.hid h1
  clear h1
  go_wp2
  go_ret
  exact ⟨rfl, H1.out, k1⟩
theorem ahead_sum (a : Addr) (w : World) : (nilAhead 279 106 (.pointer (some a)) "Sum").run Tryd.prog w = .ok (some false) w := by kernel_rfl
end Go.Proofs.YthdbchahmbcfeaaDoor
namespace Go.Proofs.YthdbchahmbcfeaaDoor
open Go Go.RowKit
set_option linter.unusedVariables false
set_option linter.unusedSimpArgs false
set_option maxRecDepth 100000

/-- A toy key lies at g. -/
def ToyAt (w : World) (g : Nat) (k : Int) (d : List Int) : Prop := ∃ A n c, Blk w g #[.int .i32 k, .slice A n c] 64 ∧ Rd w A n c d ∧ Lo w.heap.size A ∧ n ≤ 100000
theorem ToyAt.keepN {w w' : World} {g : Nat} {k : Int} {d : List Int} (h : ToyAt w g k d) (kk : Kp no w w') : ToyAt w' g k d := by
  obtain ⟨A, n, c, hb, hR, hl, hn⟩ := h
  exact ⟨A, n, c, hb.keepN kk, hR.keepN kk, hl.mono kk.size, hn⟩
def NewToyP (w : World) (k : Int) (d : List Int) (e : Ending) (w' : World) : Prop := ∃ g, e = .returned (.tuple #[.pointer (some ⟨g, 0, none⟩), .nilIface]) ∧ w.heap.size ≤ g ∧ ToyAt w' g k d ∧ Kp no w w'
theorem newToy_yes {w : World} {A : Option Addr} {n c : Nat} {d : List Int} (k : Int) (h0 : 0 ≤ k) (h1 : k ≤ 3) (hR : Rd w A n c d) (hlo : Lo w.heap.size A) (hn : 0 < n) (hn2 : n ≤ 100000) :
    Calls Tryd.prog 14 #[.int .i32 k, .slice A n c] w (NewToyP w k d) := by
  have B := Blk.new w #[.int .i32 k, .slice A n c] 64
  have ka : Kp no w (w.alloc (.cells #[.int .i32 k, .slice A n c] 64)) := (Kp.refl _ _).alloc _
  have HT : Hid (NewToyP w k d (.returned (.tuple #[.pointer (some ⟨w.heap.size, 0, none⟩), .nilIface])) (w.alloc (.cells #[.int .i32 k, .slice A n c] 64))) :=
    Lib.hid ⟨w.heap.size, rfl, Nat.le_refl _, ⟨A, n, c, B, hR.keepN ka, hlo.mono ka.size, hn2⟩, ka⟩
  have e0 : ((n : Int) == 0) = false := beq_eq_false_iff_ne.2 (by omega)
  have d0 : decide (k < 0) = false := decide_eq_false (by omega)
  have d1 : decide (3 < k) = false := decide_eq_false (by omega)
  clear B ka hR hlo
  go_enter Tryd.func14, Tryd.ntmps14
  go_wp2
  go_ret2
  exact HT.out
def NewToyN (w : World) (e : Ending) (w' : World) : Prop := ∃ t v, e = .returned (.tuple #[.pointer none, .iface t v]) ∧ Kp no w w'
theorem newToy_no {w : World} {A : Option Addr} {n c : Nat} (k : Int) (h : k < 0 ∨ 3 < k ∨ n = 0) (hE : IsErr w 0) :
    Calls Tryd.prog 14 #[.int .i32 k, .slice A n c] w (NewToyN w) := by
  obtain ⟨t, v, hc⟩ := hE
  by_cases h0 : k < 0
  · clear h
    go_enter Tryd.func14, Tryd.ntmps14
    go_wp2
    go_quiet (fail)
    go_wp2
    go_ret2
    exact ⟨t, v, rfl, Kp.byDraws _ _⟩
  · have d0 : decide (k < 0) = false := decide_eq_false (by omega)
    by_cases h1 : 3 < k
    · clear h
      go_enter Tryd.func14, Tryd.ntmps14
      go_wp2
      go_quiet (fail)
      go_wp2
      go_ret2
      exact ⟨t, v, rfl, Kp.byDraws _ _⟩
    · have d1 : decide (3 < k) = false := decide_eq_false (by omega)
      obtain rfl : n = 0 := by omega
      clear h
      go_enter Tryd.func14, Tryd.ntmps14
      go_wp2
      go_quiet (fail)
      go_wp2
      go_ret2
      exact ⟨t, v, rfl, Kp.byDraws _ _⟩

/-- What is signed by a key. -/
def sgn (K d l : List Int) : List Int := sha256F K (d ++ 0 :: l)
theorem sgn_length (K d l : List Int) : (sgn K d l).length = 32 := sha256F_length _ _
theorem sgn_byt (K d l : List Int) : Byt (sgn K d l) := sha256F_byt _ _
def SignP (w : World) (S : List Int) (e : Ending) (w' : World) : Prop := ∃ g, e = .returned (.tuple #[.slice (some ⟨g, 0, none⟩) 32 32, .nilIface]) ∧ w.heap.size ≤ g ∧ Nw .u8 w' g 163 S ∧ Kp no w w'
theorem toyRaw_calls {w : World} {g : Nat} {k : Int} {A : Option Addr} {n c : Nat} (hb : Blk w g #[.int .i32 k, .slice A n c] 64) :
    Calls Tryd.prog 71 #[.pointer (some ⟨g, 0, none⟩)] w fun e w' => e = .returned (.tuple #[.slice A n c, .nilIface]) ∧ ∃ m, w' = w.drewN m := by
  have c1 : w.cell? ⟨g, 1, none⟩ = some (.slice A n c) := hb.cell 1
  clear hb
  go_enter Tryd.func71, Tryd.ntmps71
  go_wp2
  first
    | (go_ret2; exact ⟨rfl, 0, rfl⟩)
    | (go_quiet (fail); go_wp2; go_ret2; exact ⟨rfl, nq, rfl⟩)
theorem toyType_calls {w : World} {g : Nat} {k : Int} {A : Option Addr} {n c : Nat} (hb : Blk w g #[.int .i32 k, .slice A n c] 64) :
    Calls Tryd.prog 72 #[.pointer (some ⟨g, 0, none⟩)] w fun e w' => e = .returned (.int .i32 k) ∧ w = w' := by
  have c1 : w.cell? ⟨g, 0, none⟩ = some (.int .i32 k) := hb.cell 0
  clear hb
  go_enter Tryd.func72, Tryd.ntmps72
  go_wp2
  go_ret
  exact ⟨rfl, rfl⟩
end Go.Proofs.YthdbchahmbcfeaaDoor
