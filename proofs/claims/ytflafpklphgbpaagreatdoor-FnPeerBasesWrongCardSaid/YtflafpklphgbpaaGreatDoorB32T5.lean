/- (*base32.Encoding).decode where the letters' number is 0 or 5 modulo 8. -/
import Derived.Test.YtflafpklphgbpaaGreatDoorB32Q
namespace Go.Proofs.YtflafpklphgbpaaGreatDoor
open Go Go.RowKit
set_option linter.unusedVariables false
set_option linter.unusedSimpArgs false
set_option maxRecDepth 100000

set_option maxHeartbeats 16000000 in
theorem b32decode_5 {w : World} {g gE c c2 : Nat} {D LT T : List Int} {s : ByteArray} {C : Array Value} (hL : Let32 T D LT) (hb : Blk w gE C 151) (hC : EncC C s T (-1)) (hgE : gE ≠ g) (hr : RowM w g LT)
    (h1 : 1 ≤ D.length) (hn : D.length ≤ 1000) (hT : D.length % 8 = 0 ∨ D.length % 8 = 5) (hc : D.length ≤ c) (hc2 : D.length ≤ c2) (hcm : c ≤ 9223372036854775807) (hcm2 : c2 ≤ 9223372036854775807) :
    Calls Tryz.prog 95 #[.pointer (some ⟨gE, 0, none⟩), .slice (some ⟨g, 0, none⟩) D.length c, .slice (some ⟨g, 0, none⟩) D.length c2] w
      fun e w' => e = .returned (.tuple #[.int .i64 ((d32 D).length : Nat), .bool false, Value.nilIface]) ∧ (∃ L, L.length = LT.length ∧ L.take (d32 D).length = d32 D ∧ RowM w' g L) ∧ Kp (· = g) w w' := by
  obtain ⟨n, hnn⟩ : ∃ n, n = D.length := ⟨_, rfl⟩
  rw [← hnn] at h1 hn hT hc hc2 ⊢
  have HN := Lib.hid hnn
  have HLT := Lib.hid hL
  have HBE := Lib.hid hb
  have HCE := Lib.hid hC
  have HTL := Lib.hid hT
  have HRL := Lib.hid (show LT.length = n from by rw [hL.len, hnn])
  have S0 : Hid (St32 n g c D LT (.slice (some ⟨g, 0, none⟩) n c) (some ⟨g, 0, none⟩) n c2 0 LT) := Lib.hid (.inl ⟨0, by omega, rfl, Row32.start D LT, hc2, fun _ => ⟨rfl, rfl⟩⟩)
  have hglt := hr.lt
  clear hnn hL hb hC hT
  go_enter Tryz.func95, Tryz.ntmps95
  go_wp2
  go_loopw [1, 2, 6, 7] (fun d1 sv nv ev wr => ∃ (k o c2 : Nat) (A2 : Option Addr) (L : List Int), sv = .slice A2 k c2 ∧ nv = .int .i64 o ∧ ev = .bool false ∧ k ≤ n ∧ o ≤ n ∧ Hid (St32 n g c D LT d1 A2 k c2 o L) ∧ RowM wr g L ∧ Kp (· = g) w wr) (fun _ sv _ _ _ => match sv with | .slice _ n _ => n | _ => 0)
  case atStart => exact ⟨n, 0, c2, _, LT, rfl, rfl, rfl, Nat.le_refl _, Nat.zero_le _, S0, hr, Kp.refl _ _⟩
  case round =>
    obtain ⟨k, o, c2, A2, L, rfl, rfl, rfl, hk, ho, HS, hR, kr⟩ := hrel
    by_cases hk0 : 0 < k
    · obtain ⟨q, hq, rfl, hRow, hkc, hkA⟩ : ∃ q, k + 8 * q = n ∧ o = 5 * q ∧ Row32 D LT (5 * q) (8 * q) L ∧ k ≤ c2 ∧ (0 < k → A2 = some ⟨g, 8 * q, none⟩ ∧ u1 = .slice (some ⟨g, 5 * q, none⟩) (n - 5 * q) (c - 5 * q)) := by
        rcases HS.out with h | h
        · exact h
        · omega
      obtain ⟨rfl, hu1⟩ := hkA hk0
      subst hu1
      obtain ⟨p, hp⟩ : ∃ p, p = 8 * q := ⟨_, rfl⟩
      obtain ⟨o, hoo⟩ : ∃ o, o = 5 * q := ⟨_, rfl⟩
      rw [← hp] at hRow hq ⊢
      rw [← hoo] at hRow ho ⊢
      obtain ⟨nd, hnd⟩ : ∃ nd, nd = n - o := ⟨_, rfl⟩
      obtain ⟨cd, hcd⟩ : ∃ cd, cd = c - o := ⟨_, rfl⟩
      rw [← hnd, ← hcd]
      have HP := Lib.hid hp
      have HO := Lib.hid hoo
      have HND := Lib.hid hnd
      have HCD := Lib.hid hcd
      have HQ := Lib.hid hq
      have hndk : k ≤ nd := by omega
      have hndc : nd ≤ cd := by omega
      have HROW := Lib.hid hRow
      have hLl : L.length = n := by rw [hRow.len, HRL.out]
      have HLL := Lib.hid hLl
      clear hp hoo hnd hcd hq hRow hkA HS hLl
      obtain ⟨wo, rfl⟩ : ∃ x : World, x = wr := ⟨_, rfl⟩
      have hDk : k + p = D.length := by rw [← HN.out, ← HQ.out]
      have HDK := Lib.hid hDk
      have hgo := hR.lt
      clear hDk
      have cE : ∀ wx : World, Kp (· = g) w wx → Blk wx gE C 151 := fun wx k => HBE.out.keep k (by show ¬ gE = g; exact hgE)
      have HCEE := Lib.hid cE
      clear cE
      obtain ⟨dl, hdl⟩ : ∃ dl, dl = min 8 k := ⟨_, rfl⟩
      have hdl8 : dl ≤ 8 := by omega
      have hdlk : dl ≤ k := by omega
      have HDL2 := Lib.hid hdl
      clear hdl
      have BQ := Blk.new wo (nums .u8 (List.replicate 8 0)).toArray 180
      have kaq : Kp no wo (wo.alloc (.cells (nums .u8 (List.replicate 8 0)).toArray 180)) := (Kp.refl _ _).alloc _
      have hR1 := hR.keepN kaq
      have kr1 := kr.then kaq
      go_upto_region 4 with (fail)
      show Code.wp _ _ _ _ (wo.alloc (.cells (nums .u8 (List.replicate 8 0)).toArray 180))
      generalize wo.alloc (.cells (nums .u8 (List.replicate 8 0)).toArray 180) = w1 at *
      have hgq : g < wo.heap.size := hgo
      have hgEd : gE < wo.heap.size := Nat.lt_of_lt_of_le HBE.out.lt kr.size
      have hgwd : w.heap.size ≤ wo.heap.size := kr.size
      generalize wo.heap.size = gd at *
      have BE1 := HCEE.out _ kr1
      have HBE1 := Lib.hid BE1
      have HGD := Lib.hid (And.intro hgq hgEd)
      have HGW := Lib.hid hgwd
      clear BE1 hR hgo hgq hgEd hgwd
      go_upto_block 2 with (fail)
      go_cut [2, 6, 7, 11, 12, 13] from 24 to 149 (fun sv ov ev lv jv nv wx => ∃ (A' : Option Addr) (c' : Nat), sv = .slice A' (k - dl) c' ∧ ov = .int .i64 o ∧ ev = .bool false ∧ lv = .int .i64 (dl : Nat) ∧ k - dl ≤ c' ∧ Hid (0 < k - dl → A' = some ⟨g, p + dl, none⟩) ∧ Nw .u8 wx gd 180 (Dq D p dl) ∧ Kp (· = gd) w1 wx)
      case first =>
        go_wp2
        go_loopw [2, 6, 7, 11, 12] (fun sv ov ev lv jv wr => ∃ (j r c' : Nat) (A' : Option Addr), j ≤ dl ∧ Hid (r + j = k) ∧ ov = .int .i64 o ∧ ev = .bool false ∧ jv = .int .i64 j ∧ lv = .int .i64 8 ∧ sv = .slice A' r c' ∧ r ≤ c' ∧ r ≤ k ∧ Hid (0 < r → A' = some ⟨g, p + j, none⟩) ∧ Nw .u8 wr gd 180 (Dq D p j) ∧ Kp (· = gd) w1 wr) (fun _ _ _ _ jv _ => 8 - (intOf jv).toNat)
        case atStart => exact ⟨0, k, c2, _, by omega, Lib.hid rfl, rfl, rfl, rfl, rfl, rfl, hkc, Nat.le_refl _, Lib.hid (fun _ => rfl), by simpa [Dq, Nw] using BQ, Kp.refl _ _⟩
        case round =>
          obtain ⟨j, r, c', A', hj, HRJ, rfl, rfl, rfl, rfl, rfl, hrc, hrk, HA, BD, kd⟩ := hrel
          have HE2 := Lib.hid (HBE1.out.keep kd (by show ¬ gE = gd; have := HGD.out; omega))
          have cp : wr.cell? ⟨gE, 257, none⟩ = some (.int .i32 (-1)) := by rw [HE2.out.cell 257]; exact HCE.out.pad
          by_cases hj8 : j < 8
          · by_cases hr0 : 0 < r
            · have hA' := HA.out hr0
              subst hA'
              have hpj : p + j < D.length := by have := HDK.out; have := HRJ.out; omega
              obtain ⟨b, hb1, hb2, hb3, hd0, hd1, hb4, hb5⟩ := HLT.out.at_ (p + j) hpj
              have cb := (hR1.keep kd (by show ¬ g = gd; have := HGD.out; omega)).cell (p + j) (by rw [HLL.out]; have := HN.out; omega)
              rw [HROW.out.rest (p + j) (by omega) (by rw [HLT.out.len]; exact hpj), ← hb1] at cb
              have ct : wr.cell? ⟨gE, 1 + b, none⟩ = some (.int .u8 (D.getD (p + j) 0)) := by rw [HE2.out.cell (1 + b), HCE.out.tab b (by omega), hb3]
              have HST := Lib.hid (Dq.set (D := D) (p := p) hpj hj8)
              have cd0 := BD.cell j (by rw [Dq.len (by omega) (by omega)]; exact hj8)
              have fd0 := BD.free j
              generalize (Dq D p j).getD j 0 = z0 at *
              generalize D.getD (p + j) 0 = d at *
              have hbn : ((b : Int) == 255) = false := beq_eq_false_iff_ne.2 (by omega)
              have hdn : (d == 255) = false := beq_eq_false_iff_ne.2 (by omega)
              have hrz : ((r : Int) == 0) = false := beq_eq_false_iff_ne.2 (by omega)
              have hj8i : (j : Int) < 8 := by omega
              have HJD := Lib.hid (show j + 1 ≤ dl from by rw [HDL2.out]; have := HRJ.out; omega)
              clear hb1 hb3 hb4 hb5 hpj
              go_wp2
              go_roundw
              case rel =>
                exact ⟨j + 1, r - 1, c' - 1, _, HJD.out, Lib.hid (by have := HRJ.out; omega), rfl, rfl, by go_num, rfl, rfl, by omega, by omega, Lib.hid (fun h => by rw [if_neg (by omega)]; rfl), BD.setTo j rfl HST.out, kd.setCell (p := ⟨gd, j, none⟩) (fun _ => rfl) _⟩
              case measure => simp [intOf]; omega
            · obtain rfl : r = 0 := by omega
              have hjd : j = dl := by rw [HDL2.out]; have := HRJ.out; omega
              have HKD := Lib.hid (show k - dl = 0 from by have := HRJ.out; omega)
              subst hjd
              clear hr0
              go_wp2
              go_meet
              case rel => exact ⟨A', c', by rw [HKD.out], rfl, rfl, rfl, by rw [HKD.out]; omega, Lib.hid (fun h => by rw [HKD.out] at h; omega), BD, kd⟩
          · obtain rfl : j = 8 := by omega
            obtain rfl : dl = 8 := by omega
            have HKD := Lib.hid (show r = k - 8 from by have := HRJ.out; omega)
            clear hj8
            go_wp2
            go_meet
            case rel => exact ⟨A', c', by rw [HKD.out], rfl, rfl, rfl, by rw [← HKD.out]; exact hrc, Lib.hid (by rw [← HKD.out]; exact HA.out), BD, kd⟩
      case rest =>
        obtain ⟨A3, c3, rfl, rfl, rfl, rfl, hkc3, HA3, BD, kd⟩ := hcut
        obtain ⟨wd, rfl⟩ : ∃ x : World, x = wc := ⟨_, rfl⟩
        have hRd := hR1.keep kd (by show ¬ g = gd; have := HGD.out; omega)
        have kw : Kp (· = g) w wd := kr1.trans kd (fun i hi h => by have h : i = gd := h; have := HGW.out; omega)
        have hgd1 : ¬ gd = g := by have := HGD.out; omega
        have hgd2 : ¬ g = gd := by have := HGD.out; omega
        have hDp : p + dl ≤ D.length := by have := HDK.out; omega
        have cDq : ∀ i : Nat, i < dl → wd.cell? ⟨gd, i, none⟩ = some (.int .u8 (D.getD (p + i) 0)) := fun i hi => by
          rw [BD.cell i (by rw [Dq.len hDp hdl8]; omega), Dq.get hDp hi]
        have rD : ∀ i : Nat, i < dl → 0 ≤ D.getD (p + i) 0 ∧ D.getD (p + i) 0 < 32 := fun i hi => by
          obtain ⟨b, _, _, _, h0, h1, _⟩ := HLT.out.at_ (p + i) (by omega)
          exact ⟨h0, h1⟩
        by_cases hk8 : 8 ≤ k
        · obtain rfl : dl = 8 := by rw [HDL2.out]; omega
          have e0 := cDq 0 (by omega)
          have e1 := cDq 1 (by omega)
          have e2 := cDq 2 (by omega)
          have e3 := cDq 3 (by omega)
          have e4 := cDq 4 (by omega)
          have e5 := cDq 5 (by omega)
          have e6 := cDq 6 (by omega)
          have e7 := cDq 7 (by omega)
          have r0 := rD 0 (by omega)
          have r1 := rD 1 (by omega)
          have r2 := rD 2 (by omega)
          have r3 := rD 3 (by omega)
          have r4 := rD 4 (by omega)
          have r5 := rD 5 (by omega)
          have r6 := rD 6 (by omega)
          have r7 := rD 7 (by omega)
          have hrw : ∀ v0 v1 v2 v3 v4 : Int, v0 = q0 (D.getD p 0) (D.getD (p + 1) 0) → v1 = q1 (D.getD (p + 1) 0) (D.getD (p + 2) 0) (D.getD (p + 3) 0) → v2 = q2 (D.getD (p + 3) 0) (D.getD (p + 4) 0) → v3 = q3 (D.getD (p + 4) 0) (D.getD (p + 5) 0) (D.getD (p + 6) 0) → v4 = q4 (D.getD (p + 6) 0) (D.getD (p + 7) 0) →
              Row32 D LT (5 * (q + 1)) (8 * (q + 1)) (((((L.set (o + 4) v4).set (o + 3) v3).set (o + 2) v2).set (o + 1) v1).set o v0) := by
            have h := HROW.out
            rw [HO.out, HP.out] at h
            rw [HO.out, HP.out]
            intro v0 v1 v2 v3 v4 g0 g1 g2 g3 g4
            exact h.five HLT.out.len.symm (by rw [HLT.out.len, ← HP.out]; omega) g0 g1 g2 g3 g4
          rw [Nat.add_zero] at e0 r0
          generalize D.getD p 0 = x0 at *
          generalize D.getD (p + 1) 0 = x1 at *
          generalize D.getD (p + 2) 0 = x2 at *
          generalize D.getD (p + 3) 0 = x3 at *
          generalize D.getD (p + 4) 0 = x4 at *
          generalize D.getD (p + 5) 0 = x5 at *
          generalize D.getD (p + 6) 0 = x6 at *
          generalize D.getD (p + 7) 0 = x7 at *
          have HRW := Lib.hid hrw
          clear hrw
          have hnd8 : 8 ≤ nd := by omega
          have hon : o + nd = n := by have := HND.out; omega
          have s0 := hRd.cell o (by rw [HLL.out]; omega)
          have s1 := hRd.cell (o + 1) (by rw [HLL.out]; omega)
          have s2 := hRd.cell (o + 2) (by rw [HLL.out]; omega)
          have s3 := hRd.cell (o + 3) (by rw [HLL.out]; omega)
          have s4 := hRd.cell (o + 4) (by rw [HLL.out]; omega)
          have f0 := hRd.free o (by rw [HLL.out]; omega)
          have f1 := hRd.free (o + 1) (by rw [HLL.out]; omega)
          have f2 := hRd.free (o + 2) (by rw [HLL.out]; omega)
          have f3 := hRd.free (o + 3) (by rw [HLL.out]; omega)
          have f4 := hRd.free (o + 4) (by rw [HLL.out]; omega)
          have a4 : bits .or .u8 (x6 * 32 % 256) x7 = x6 * 32 % 256 + x7 := u8_join 5 (by omega) _ _ (by omega) (by omega) (by omega) (by omega) (by omega) (by omega)
          have a3 : bits .or .u8 (x4 * 128 % 256) (x5 * 4) = x4 * 128 % 256 + x5 * 4 := u8_join 7 (by omega) _ _ (by omega) (by omega) (by omega) (by omega) (by omega) (by omega)
          have a3' : bits .or .u8 (x4 * 128 % 256 + x5 * 4) (x6 / 8) = x4 * 128 % 256 + x5 * 4 + x6 / 8 := u8_join 2 (by omega) _ _ (by omega) (by omega) (by omega) (by omega) (by omega) (by omega)
          have a2 : bits .or .u8 (x3 * 16 % 256) (x4 / 2) = x3 * 16 % 256 + x4 / 2 := u8_join 4 (by omega) _ _ (by omega) (by omega) (by omega) (by omega) (by omega) (by omega)
          have a1 : bits .or .u8 (x1 * 64 % 256) (x2 * 2) = x1 * 64 % 256 + x2 * 2 := u8_join 6 (by omega) _ _ (by omega) (by omega) (by omega) (by omega) (by omega) (by omega)
          have a1' : bits .or .u8 (x1 * 64 % 256 + x2 * 2) (x3 / 16) = x1 * 64 % 256 + x2 * 2 + x3 / 16 := u8_join 1 (by omega) _ _ (by omega) (by omega) (by omega) (by omega) (by omega) (by omega)
          have a0 : bits .or .u8 (x0 * 8) (x1 / 4) = x0 * 8 + x1 / 4 := u8_join 3 (by omega) _ _ (by omega) (by omega) (by omega) (by omega) (by omega) (by omega)
          have HCQ := Lib.hid cDq
          have HRD2 := Lib.hid rD
          have h5 : (5 : Int) < (nd : Int) := by omega
          clear cDq rD hDp
          have R0 := hRd.set (o + 4) (x6 * 32 % 256 + x7)
          have K0 := kw.setCell (p := ⟨g, o + 4, none⟩) (fun _ => rfl) (.int .u8 (x6 * 32 % 256 + x7))
          have R1 := R0.set (o + 3) (x4 * 128 % 256 + x5 * 4 + x6 / 8)
          have K1 := K0.setCell (p := ⟨g, o + 3, none⟩) (fun _ => rfl) (.int .u8 (x4 * 128 % 256 + x5 * 4 + x6 / 8))
          have R2 := R1.set (o + 2) (x3 * 16 % 256 + x4 / 2)
          have K2 := K1.setCell (p := ⟨g, o + 2, none⟩) (fun _ => rfl) (.int .u8 (x3 * 16 % 256 + x4 / 2))
          have R3 := R2.set (o + 1) (x1 * 64 % 256 + x2 * 2 + x3 / 16)
          have K3 := K2.setCell (p := ⟨g, o + 1, none⟩) (fun _ => rfl) (.int .u8 (x1 * 64 % 256 + x2 * 2 + x3 / 16))
          have R4 := R3.set (o) (x0 * 8 + x1 / 4)
          have K4 := K3.setCell (p := ⟨g, o, none⟩) (fun _ => rfl) (.int .u8 (x0 * 8 + x1 / 4))
          have hR5 := Lib.hid R4
          have hK5 := Lib.hid K4
          clear R0 R1 R2 R3 R4 K0 K1 K2 K3 K4
          have HR5 := Lib.hid (HRW.out (x0 * 8 + x1 / 4) (x1 * 64 % 256 + x2 * 2 + x3 / 16) (x3 * 16 % 256 + x4 / 2) (x4 * 128 % 256 + x5 * 4 + x6 / 8) (x6 * 32 % 256 + x7) (by unfold q0; omega) (by unfold q1; omega) (by unfold q2; omega) (by unfold q3; omega) (by unfold q4; omega))
          clear kw
          go_wp2
          go_roundw
          case rel =>
            refine ⟨k - 8, o + 5, c3, A3, _, rfl, by go_num, rfl, by omega, by omega, Lib.hid (.inl ⟨q + 1, by have := HQ.out; have := HP.out; omega, by rw [HO.out]; omega, HR5.out, hkc3, fun h => ⟨by rw [HA3.out h, HP.out]; rfl, ?_⟩⟩), hR5.out, hK5.out⟩
            rw [show 5 * (q + 1) = o + 5 from by rw [HO.out]; omega, HND.out, HCD.out, Nat.sub_sub, Nat.sub_sub]
          case measure => first | (simp [intOf]; done) | (simp [intOf]; omega) | omega
        · obtain rfl : k = 5 := by
            have h1 := HTL.out
            have h2 := HQ.out
            have h3 := HP.out
            omega
          have hdk : dl = 5 := by rw [HDL2.out]; omega
          obtain rfl : dl = 5 := by omega
          have e0 := cDq 0 (by omega)
          have e1 := cDq 1 (by omega)
          have e2 := cDq 2 (by omega)
          have e3 := cDq 3 (by omega)
          have e4 := cDq 4 (by omega)
          have r0 := rD 0 (by omega)
          have r1 := rD 1 (by omega)
          have r2 := rD 2 (by omega)
          have r3 := rD 3 (by omega)
          have r4 := rD 4 (by omega)
          have hrw : ∀ v0 v1 v2 : Int, v0 = q0 (D.getD p 0) (D.getD (p + 1) 0) → v1 = q1 (D.getD (p + 1) 0) (D.getD (p + 2) 0) (D.getD (p + 3) 0) → v2 = q2 (D.getD (p + 3) 0) (D.getD (p + 4) 0) → Row32 D LT (o + 3) n (((L.set (o + 2) v2).set (o + 1) v1).set (o) v0) ∧ (d32 D).length = o + 3 := by
            have h := HROW.out
            rw [HO.out, HP.out] at h
            have hn8 : n = 8 * q + 5 := by have := HQ.out; have := HP.out; omega
            rw [HO.out, HP.out, hn8]
            intro v0 v1 v2 g0 g1 g2
            exact h.t5 HLT.out.len.symm (by rw [HRL.out]; exact hn8) g0 g1 g2
          rw [Nat.add_zero] at e0 r0
          generalize D.getD p 0 = x0 at *
          generalize D.getD (p + 1) 0 = x1 at *
          generalize D.getD (p + 2) 0 = x2 at *
          generalize D.getD (p + 3) 0 = x3 at *
          generalize D.getD (p + 4) 0 = x4 at *
          have HRW := Lib.hid hrw
          clear hrw
          have hnd8 : 5 ≤ nd := by omega
          have hon : o + nd = n := by have := HND.out; omega
          have s0 := hRd.cell (o + 0) (by rw [HLL.out]; omega)
          have s1 := hRd.cell (o + 1) (by rw [HLL.out]; omega)
          have s2 := hRd.cell (o + 2) (by rw [HLL.out]; omega)
          have f0 := hRd.free (o + 0) (by rw [HLL.out]; omega)
          have f1 := hRd.free (o + 1) (by rw [HLL.out]; omega)
          have f2 := hRd.free (o + 2) (by rw [HLL.out]; omega)
          rw [Nat.add_zero] at s0 f0
          have a2 : bits .or .u8 (x3 * 16 % 256) (x4 / 2) = x3 * 16 % 256 + x4 / 2 := u8_join 4 (by omega) _ _ (by omega) (by omega) (by omega) (by omega) (by omega) (by omega)
          have a1 : bits .or .u8 (x1 * 64 % 256) (x2 * 2) = x1 * 64 % 256 + x2 * 2 := u8_join 6 (by omega) _ _ (by omega) (by omega) (by omega) (by omega) (by omega) (by omega)
          have a1' : bits .or .u8 (x1 * 64 % 256 + x2 * 2) (x3 / 16) = x1 * 64 % 256 + x2 * 2 + x3 / 16 := u8_join 1 (by omega) _ _ (by omega) (by omega) (by omega) (by omega) (by omega) (by omega)
          have a0 : bits .or .u8 (x0 * 8) (x1 / 4) = x0 * 8 + x1 / 4 := u8_join 3 (by omega) _ _ (by omega) (by omega) (by omega) (by omega) (by omega) (by omega)
          have R2 := hRd.set (o + 2) (x3 * 16 % 256 + x4 / 2)
          have K2 := kw.setCell (p := ⟨g, o + 2, none⟩) (fun _ => rfl) (.int .u8 (x3 * 16 % 256 + x4 / 2))
          have R1 := R2.set (o + 1) (x1 * 64 % 256 + x2 * 2 + x3 / 16)
          have K1 := K2.setCell (p := ⟨g, o + 1, none⟩) (fun _ => rfl) (.int .u8 (x1 * 64 % 256 + x2 * 2 + x3 / 16))
          have R0 := R1.set (o) (x0 * 8 + x1 / 4)
          have K0 := K1.setCell (p := ⟨g, o, none⟩) (fun _ => rfl) (.int .u8 (x0 * 8 + x1 / 4))
          have hR5 := Lib.hid R0
          have hK5 := Lib.hid K0
          clear R0 K0 R1 K1 R2 K2
          have HR5 := Lib.hid (HRW.out (x0 * 8 + x1 / 4) (x1 * 64 % 256 + x2 * 2 + x3 / 16) (x3 * 16 % 256 + x4 / 2) (by unfold q0; omega) (by unfold q1; omega) (by unfold q2; omega))
          have HCQ := Lib.hid cDq
          have HRD2 := Lib.hid rD
          clear kw cDq rD hDp
          by_cases h5 : (5 : Int) < (nd : Int)
          · go_wp2
            go_roundw
            case rel => exact ⟨0, o + 3, c3, A3, _, rfl, by go_num, rfl, by omega, by omega, Lib.hid (.inr ⟨rfl, HR5.out.2.symm, HR5.out.1⟩), hR5.out, hK5.out⟩
            case measure => first | (simp [intOf]; done) | (simp [intOf]; omega) | omega
          · go_wp2
            go_roundw
            case rel => exact ⟨0, o + 3, c3, A3, _, rfl, by go_num, rfl, by omega, by omega, Lib.hid (.inr ⟨rfl, HR5.out.2.symm, HR5.out.1⟩), hR5.out, hK5.out⟩
            case measure => first | (simp [intOf]; done) | (simp [intOf]; omega) | omega
    · obtain rfl : k = 0 := by omega
      have HF := Lib.hid (show o = (d32 D).length ∧ L.take (d32 D).length = d32 D ∧ L.length = LT.length from by
        rcases HS.out with ⟨q, hq, hoo, hRow, _⟩ | ⟨_, hoo, hRow⟩
        · have hd := d32_drop q D (by rw [← HN.out]; omega)
          have hlen : (d32 D).length = 5 * q := by
            have := congrArg List.length hd.1
            rw [List.length_drop, List.drop_of_length_le (by rw [← HN.out]; omega)] at this
            simp [d32] at this
            omega
          rw [← hlen] at hRow hoo
          exact ⟨hoo, hRow.done (by rw [HRL.out]; omega), hRow.len⟩
        · rw [hoo] at hRow
          exact ⟨hoo, hRow.done (by rw [HRL.out]; omega), hRow.len⟩)
      clear hk0
      go_wp2
      go_ret3
      exact ⟨by rw [← HF.out.1]; rfl, ⟨L, HF.out.2.2, HF.out.2.1, hR⟩, kr⟩
end Go.Proofs.YtflafpklphgbpaaGreatDoor
