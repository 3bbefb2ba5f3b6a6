/- (*base64.Encoding).decodeQuantum: up to four digits, turned to up to three bytes. (*base64.Encoding).Decode: letters without padding, turned to bytes. base64: DecodedLen and DecodeString on letters alone; multibase.Decode of texts in base 64. -/
import Derived.Test.YtflafpklphgbpaaGreatDoorBbX
import Derived.Test.YtflafpklphgbpaaGreatDoorB32Q
import Derived.BigQuiet
import Derived.Test.YtflafpklphgbpaaGreatDoorMbA
namespace Go.Proofs.YtflafpklphgbpaaGreatDoor
open Go Go.RowKit
set_option linter.unusedVariables false
set_option linter.unusedSimpArgs false
set_option maxRecDepth 100000

/-- Letters, and the digits behind them. -/
structure Let64 (T D S : List Int) : Prop where
  len : S.length = D.length
  at_ : ∀ i : Nat, i < D.length → ∃ b : Nat, S.getD i 0 = (b : Int) ∧ b < 256 ∧ T.getD b 0 = D.getD i 0 ∧ 0 ≤ D.getD i 0 ∧ D.getD i 0 < 64
def Dq4 (D : List Int) (p j : Nat) : List Int := (D.drop p).take j ++ List.replicate (4 - j) 0
theorem Dq4.len {D : List Int} {p j : Nat} (h : p + j ≤ D.length) (hj : j ≤ 4) : (Dq4 D p j).length = 4 := by
  simp [Dq4]; omega
theorem Dq4.set {D : List Int} {p j : Nat} (h : p + j < D.length) (hj : j < 4) : (Dq4 D p j).set j (D.getD (p + j) 0) = Dq4 D p (j + 1) := by
  unfold Dq4
  rw [List.set_append_right _ _ (by simp; omega), List.take_succ_eq_append_getElem (by rw [List.length_drop]; omega), List.append_assoc]
  congr 1
  rw [show j - ((D.drop p).take j).length = 0 from by simp; omega, show 4 - j = (4 - (j + 1)) + 1 from by omega, List.replicate_succ, List.set_cons_zero]
  simp [List.getD_eq_getElem?_getD, List.getElem?_eq_getElem h]
theorem Dq4.get {D : List Int} {p j i : Nat} (h : p + j ≤ D.length) (hi : i < j) : (Dq4 D p j).getD i 0 = D.getD (p + i) 0 := by
  unfold Dq4
  rw [List.getD_eq_getElem?_getD, List.getElem?_append_left (by simp; omega), List.getElem?_take, if_pos hi, List.getElem?_drop, List.getD_eq_getElem?_getD]
theorem Dq4.rest {D : List Int} {p j i : Nat} (h : p + j ≤ D.length) (hi : j ≤ i) : (Dq4 D p j).getD i 0 = 0 := by
  unfold Dq4
  rw [List.getD_eq_getElem?_getD, List.getElem?_append_right (by simp; omega), List.getElem?_replicate]
  split <;> rfl
/-- The quantum's digits, one by one. -/
theorem Dq4.four {T D S : List Int} (hL : Let64 T D S) {p m : Nat} (h : p + m ≤ D.length) (hm : m ≤ 4) (h2 : 2 ≤ m) :
    ∃ x2 x3 : Int, Dq4 D p m = [D.getD p 0, D.getD (p + 1) 0, x2, x3] ∧ (0 ≤ x2 ∧ x2 < 64) ∧ (0 ≤ x3 ∧ x3 < 64) ∧ (3 ≤ m → x2 = D.getD (p + 2) 0) ∧ (4 ≤ m → x3 = D.getD (p + 3) 0) := by
  have hl := Dq4.len h hm
  have hg : ∀ i : Nat, 0 ≤ (Dq4 D p m).getD i 0 ∧ (Dq4 D p m).getD i 0 < 64 := fun i => by
    by_cases hi : i < m
    · rw [Dq4.get h hi]
      obtain ⟨b, _, _, _, h0, h1⟩ := hL.at_ (p + i) (by omega)
      exact ⟨h0, h1⟩
    · rw [Dq4.rest h (by omega)]; omega
  refine ⟨(Dq4 D p m).getD 2 0, (Dq4 D p m).getD 3 0, ?_, hg 2, hg 3, fun h3 => Dq4.get h h3, fun h3 => Dq4.get h h3⟩
  have e0 := Dq4.get (i := 0) h (by omega)
  have e1 := Dq4.get (i := 1) h (by omega)
  rw [Nat.add_zero] at e0
  rw [← e0, ← e1]
  generalize Dq4 D p m = M at *
  match M, hl with
  | [a, b, c, d], _ => rfl
/-- The row behind a quantum. -/
structure Put64 (D : List Int) (p m o : Nat) (L L' : List Int) : Prop where
  len : L'.length = L.length
  keep : ∀ i : Nat, i < o → L'.getD i 0 = L.getD i 0
  one : L'.getD o 0 = D.getD p 0 * 4 + D.getD (p + 1) 0 / 16
  two : 3 ≤ m → L'.getD (o + 1) 0 = D.getD (p + 1) 0 % 16 * 16 + D.getD (p + 2) 0 / 4
  thr : 4 ≤ m → L'.getD (o + 2) 0 = D.getD (p + 2) 0 % 4 * 64 + D.getD (p + 3) 0
theorem info256 : (Tryz.prog.info? 136).map (·.size) = some 256 := by kernel_rfl
set_option maxHeartbeats 16000000 in
theorem quant_calls {w : World} {g gE gS o p n m dl dc c : Nat} {t : TypeId} {D T S L : List Int} {C : Array Value} (hL : Let64 T D S) (hb : Blk w gE C 156) (hC : EncD C T (-1)) (hS : RowM w gS S) (hr : Nw .u8 w g t L)
    (hgE : gE ≠ g) (hn : D.length = n) (hn2 : n ≤ 100000) (hm : m = min 4 (n - p)) (h2 : 2 ≤ m) (hdl : m - 1 ≤ dl) (ho : o + dl ≤ L.length) :
    Calls Tryz.prog 99 #[.pointer (some ⟨gE, 0, none⟩), .slice (some ⟨g, o, none⟩) dl dc, .slice (some ⟨gS, 0, none⟩) n c, .int .i64 p] w
      fun e w' => e = .returned (.tuple #[.int .i64 ((p + m : Nat) : Int), .int .i64 ((m - 1 : Nat) : Int), Value.nilIface]) ∧ (∃ L', Nw .u8 w' g t L' ∧ Put64 D p m o L L') ∧ Kp (· = g) w w' := by
  have HL := Lib.hid hL
  have HBE := Lib.hid hb
  have HC := Lib.hid hC
  have HS := Lib.hid hS
  have HR := Lib.hid hr
  have HN := Lib.hid hn
  have HM := Lib.hid hm
  have HO := Lib.hid ho
  have hm4 : m ≤ 4 := by omega
  have hpm : p + m ≤ n := by omega
  have HT : Hid (w.rangeAt gE 64 (nums .u8 T)) := Lib.hid (fun j v hv => by
    have hj : j < 256 := by
      have := (List.getElem?_eq_some_iff.1 hv).1
      rw [nums_length, hC.len] at this; exact this
    have e := hb.cell (64 + j)
    rw [hC.tab j hj] at e
    rw [e]
    rw [← hv, nums, List.getElem?_map, List.getElem?_eq_getElem (by rw [hC.len]; exact hj), List.getD_eq_getElem?_getD, List.getElem?_eq_getElem (by rw [hC.len]; exact hj)]
    rfl)
  have hTl : (nums .u8 T).length = 256 := by rw [nums_length, hC.len]
  have HTL := Lib.hid hTl
  have hgw := hr.lt
  have hgEw := hb.lt
  have hgSw := hS.lt
  have k0 : Kp no w (w.alloc (.cells (nums .u8 (List.replicate 4 0)).toArray 182)) := (Kp.refl _ _).alloc _
  have BQ := Blk.new w (nums .u8 (List.replicate 4 0)).toArray 182
  have HTA := Lib.hid (show (w.alloc (.cells (nums .u8 (List.replicate 4 0)).toArray 182)).rangeAt gE 64 (nums .u8 T) from fun j v hv => k0.cellN (HT.out j v hv))
  clear hL hb hC hS hr hn hm ho HT hTl
  go_enter Tryz.func99, Tryz.ntmps99
  go_upto_region 3 with (fail)
  go_upto_region 4 with (refine wpList_load_mid rfl 136 (.tmp 19) rfl gE 64 rfl (nums .u8 T) _ HTA.out Tryz.underlying136 rfl (by rw [HTL.out]; exact info256) ?_)
  generalize (nums .u8 T).toArray = TA at *
  show Code.wp _ _ _ _ (w.alloc (.cells (nums .u8 (List.replicate 4 0)).toArray 182))
  clear HTA HTL
  generalize w.alloc (.cells (nums .u8 (List.replicate 4 0)).toArray 182) = w1 at *
  have HGD := Lib.hid (And.intro hgw (And.intro hgEw hgSw))
  generalize hgd : w.heap.size = gd at *
  have HGW := Lib.hid hgd
  clear hgd hgw hgEw hgSw
  go_upto_block 0 with (fail)
  go_cut [3, 8, 9, 10, 12, 13] from 21 to 163 (fun sv r8 r9 r10 lv jv wx => sv = .int .i64 ((p + m : Nat) : Int) ∧ r10 = .nilIface ∧ lv = .int .i64 m ∧ Nw .u8 wx gd 182 (Dq4 D p m) ∧ Kp (· = gd) w1 wx)
  case first =>
    go_wp2
    go_loopw [3, 8, 9, 10, 12, 13] (fun sv r8 r9 r10 lv jv wr => ∃ j : Nat, j ≤ m ∧ sv = .int .i64 ((p + j : Nat) : Int) ∧ r10 = .nilIface ∧ lv = .int .i64 4 ∧ jv = .int .i64 j ∧ Nw .u8 wr gd 182 (Dq4 D p j) ∧ Kp (· = gd) w1 wr) (fun _ _ _ _ _ jv _ => 4 - (intOf jv).toNat)
    case atStart => exact ⟨0, by omega, by simp, rfl, rfl, rfl, by simpa [Dq4, Nw] using BQ, Kp.refl _ _⟩
    case round =>
      obtain ⟨j, hj, rfl, rfl, rfl, rfl, BD, kd⟩ := hrel
      have HE2 := Lib.hid ((HBE.out.keepN k0).keep kd (by show ¬ gE = gd; have := HGD.out; omega))
      have cp : wr.cell? ⟨gE, 320, none⟩ = some (.int .i32 (-1)) := by rw [HE2.out.cell 320]; exact HC.out.pad
      by_cases hj4 : j < 4
      · by_cases hpn : p + j < n
        · have hpj : p + j < D.length := by rw [HN.out]; exact hpn
          obtain ⟨b, hb1, hb2, hb3, hd0, hd1⟩ := HL.out.at_ (p + j) hpj
          have cb := ((HS.out.keepN k0).keep kd (by show ¬ gS = gd; have := HGD.out; omega)).cell (p + j) (by rw [HL.out.len]; exact hpj)
          rw [hb1] at cb
          have ct : wr.cell? ⟨gE, 64 + b, none⟩ = some (.int .u8 (D.getD (p + j) 0)) := by rw [HE2.out.cell (64 + b), HC.out.tab b hb2, hb3]
          have HST := Lib.hid (Dq4.set (D := D) (p := p) hpj hj4)
          have cd0 := BD.cell j (by rw [Dq4.len (by omega) (by omega)]; exact hj4)
          have fd0 := BD.free j
          generalize (Dq4 D p j).getD j 0 = z0 at *
          generalize D.getD (p + j) 0 = d at *
          have hdn : (d == 255) = false := beq_eq_false_iff_ne.2 (by omega)
          have hnz : ((n : Int) == ((p + j : Nat) : Int)) = false := beq_eq_false_iff_ne.2 (by omega)
          have hj4i : (j : Int) < 4 := by omega
          have HJD := Lib.hid (show j + 1 ≤ m from by rw [HM.out]; omega)
          have HPN := Lib.hid hpn
          have hpj1 : p + j + 1 = p + (j + 1) := by omega
          generalize hq : p + j = q at *
          clear hb1 hb3 hpj
          go_wp2
          go_roundw
          case rel =>
            exact ⟨j + 1, HJD.out, by rw [← hpj1]; go_num, rfl, rfl, by go_num, BD.setTo j rfl HST.out, kd.setCell (p := ⟨gd, j, none⟩) (fun _ => rfl) _⟩
          case measure => simp [intOf]; omega
        · have hjm : j = m := by rw [HM.out]; omega
          have hq : n = p + j := by omega
          have hnz : ((n : Int) == ((p + j : Nat) : Int)) = true := by rw [hq]; simp
          have hj0 : ((j : Int) == 0) = false := beq_eq_false_iff_ne.2 (by omega)
          have hj1 : ((j : Int) == 1) = false := beq_eq_false_iff_ne.2 (by omega)
          have hj4i : (j : Int) < 4 := by omega
          subst hjm
          clear hpn
          go_wp2
          go_meet
          case rel => exact ⟨rfl, rfl, rfl, BD, kd⟩
      · obtain rfl : j = 4 := by omega
        obtain rfl : m = 4 := by omega
        clear hj4
        go_wp2
        go_meet
        case rel => exact ⟨rfl, rfl, rfl, BD, kd⟩
  case rest =>
    obtain ⟨rfl, rfl, rfl, BD, kd⟩ := hcut
    obtain ⟨wd, rfl⟩ : ∃ x : World, x = wc := ⟨_, rfl⟩
    obtain ⟨x2, x3, hq4, r2, r3, hx2, hx3⟩ := Dq4.four HL.out (p := p) (m := m) (by rw [HN.out]; exact hpm) hm4 h2
    rw [hq4] at BD
    have r0 : 0 ≤ D.getD p 0 ∧ D.getD p 0 < 64 := by obtain ⟨b, _, _, _, h0, h1⟩ := HL.out.at_ p (by rw [HN.out]; omega); exact ⟨h0, h1⟩
    have r1 : 0 ≤ D.getD (p + 1) 0 ∧ D.getD (p + 1) 0 < 64 := by obtain ⟨b, _, _, _, h0, h1⟩ := HL.out.at_ (p + 1) (by rw [HN.out]; omega); exact ⟨h0, h1⟩
    have HPUT : Hid (∀ L' : List Int, L'.length = L.length → (∀ i : Nat, i < o → L'.getD i 0 = L.getD i 0) → L'.getD o 0 = D.getD p 0 * 4 + D.getD (p + 1) 0 / 16 → (3 ≤ m → L'.getD (o + 1) 0 = D.getD (p + 1) 0 % 16 * 16 + x2 / 4) → (4 ≤ m → L'.getD (o + 2) 0 = x2 % 4 * 64 + x3) → Put64 D p m o L L') :=
      Lib.hid (fun L' h1 h2 h3 h4 h5 => ⟨h1, h2, h3, fun h => by rw [h4 h, hx2 h], fun h => by rw [h5 h, hx2 (by omega), hx3 h]⟩)
    have hRd := (HR.out.keepN k0).keep kd (by show ¬ g = gd; have := HGD.out; omega)
    have kw : Kp (· = g) w wd := (k0.mono (fun i hi h => h.elim)).trans kd (fun i hi h => by have h : i = gd := h; have := HGW.out; omega)
    have hgd2 : ¬ g = gd := by have := HGD.out; omega
    have cs : wd.cell? ⟨gE, 321, none⟩ = some (.bool false) := by rw [((HBE.out.keepN k0).keep kd (by show ¬ gE = gd; have := HGD.out; omega)).cell 321]; exact HC.out.str
    have hgd3 : ¬ gE = gd := by have := HGD.out; omega
    have hgd4 : ¬ gE = g := hgE
    have hgd5 : ¬ gd = g := fun e => hgd2 e.symm
    have hgd6 : ¬ gd = gE := fun e => hgd3 e.symm
    have e0 := BD.cell 0 (by simp)
    have e1 := BD.cell 1 (by simp)
    have e2 := BD.cell 2 (by simp)
    have e3 := BD.cell 3 (by simp)
    have f0 := BD.free 0
    have f1 := BD.free 1
    have f2 := BD.free 2
    have hRL := HO.out
    have HQ := Lib.hid (And.intro hq4 (And.intro hx2 hx3))
    clear hq4 hx2 hx3
    generalize D.getD p 0 = x0 at *
    generalize D.getD (p + 1) 0 = x1 at *
    simp only [List.getD_cons_zero, List.getD_cons_succ] at e0 e1 e2 e3
    have j1 : bits .or .u64 (x0 * 262144) (x1 * 4096) = x0 * 262144 + x1 * 4096 := u64_sum 18 _ _ (by omega) (by rw [show (2 : Int) ^ 18 = 262144 from rfl]; omega) (by omega) (by omega) (by rw [show (2 : Int) ^ 18 = 262144 from rfl]; omega) (by omega)
    have j2 : bits .or .u64 (x0 * 262144 + x1 * 4096) (x2 * 64) = x0 * 262144 + x1 * 4096 + x2 * 64 := u64_sum 12 _ _ (by omega) (by rw [show (2 : Int) ^ 12 = 4096 from rfl]; omega) (by omega) (by omega) (by rw [show (2 : Int) ^ 12 = 4096 from rfl]; omega) (by omega)
    have j3 : bits .or .u64 (x0 * 262144 + x1 * 4096 + x2 * 64) x3 = x0 * 262144 + x1 * 4096 + x2 * 64 + x3 := u64_sum 6 _ _ (by omega) (by rw [show (2 : Int) ^ 6 = 64 from rfl]; omega) (by omega) (by omega) (by rw [show (2 : Int) ^ 6 = 64 from rfl]; omega) (by omega)
    obtain ⟨y0, hy0⟩ : ∃ y, (x0 * 262144 + x1 * 4096 + x2 * 64 + x3) / 65536 = y := ⟨_, rfl⟩
    obtain ⟨y1, hy1⟩ : ∃ y, (x0 * 262144 + x1 * 4096 + x2 * 64 + x3) / 256 % 256 = y := ⟨_, rfl⟩
    obtain ⟨y2, hy2⟩ : ∃ y, (x0 * 262144 + x1 * 4096 + x2 * 64 + x3) % 256 = y := ⟨_, rfl⟩
    have HY := Lib.hid (show y0 = x0 * 4 + x1 / 16 ∧ y1 = x1 % 16 * 16 + x2 / 4 ∧ y2 = x2 % 4 * 64 + x3 from by omega)
    obtain ⟨wz, hwz⟩ : ∃ x, x = ((wd.setCell ⟨gd, 2, none⟩ (.int .u8 y2)).setCell ⟨gd, 1, none⟩ (.int .u8 y1)).setCell ⟨gd, 0, none⟩ (.int .u8 y0) := ⟨_, rfl⟩
    have RZ : Nw .u8 wz g t L := by rw [hwz]; exact ((hRd.far (p := ⟨gd, 2, none⟩) hgd2 _).far (p := ⟨gd, 1, none⟩) hgd2 _).far (p := ⟨gd, 0, none⟩) hgd2 _
    have DZ : Nw .u8 wz gd 182 [y0, y1, y2, x3] := by rw [hwz]; exact ((BD.set 2 y2).set 1 y1).set 0 y0
    have KZ : Kp (· = g) w wz := by
      rw [hwz]
      exact ((kw.setCell (p := ⟨gd, 2, none⟩) (fun h => by have h : gd < w.heap.size := h; have := HGW.out; omega) _).setCell (p := ⟨gd, 1, none⟩) (fun h => by have h : gd < w.heap.size := h; have := HGW.out; omega) _).setCell (p := ⟨gd, 0, none⟩) (fun h => by have h : gd < w.heap.size := h; have := HGW.out; omega) _
    have CZ : wz.cell? ⟨gE, 321, none⟩ = some (.bool false) := by
      rw [hwz]
      exact ((((HBE.out.keepN k0).keep kd hgd3).far (p := ⟨gd, 2, none⟩) hgd3 _).far (p := ⟨gd, 1, none⟩) hgd3 _ |>.far (p := ⟨gd, 0, none⟩) hgd3 _).cell 321 |>.trans HC.out.str
    have HZ := Lib.hid (And.intro RZ (And.intro DZ (And.intro KZ CZ)))
    have hlo : o + dl ≤ L.length := HO.out
    have HWZ := Lib.hid hwz
    clear RZ DZ KZ CZ hwz hRd kw cs
    go_upto_region 42 with (fail)
    show Code.wp _ _ _ _ (((wd.setCell ⟨gd, 2, none⟩ (.int .u8 y2)).setCell ⟨gd, 1, none⟩ (.int .u8 y1)).setCell ⟨gd, 0, none⟩ (.int .u8 y0))
    rw [← HWZ.out]
    obtain ⟨RZ, DZ, KZ, CZ⟩ := HZ.out
    clear HZ HWZ e0 e1 e2 e3 f0 f1 f2 BD kd
    have e0 := DZ.cell 0 (by simp)
    have e1 := DZ.cell 1 (by simp)
    have e2 := DZ.cell 2 (by simp)
    have f1 := DZ.free 1
    have f2 := DZ.free 2
    simp only [List.getD_cons_zero, List.getD_cons_succ] at e0 e1 e2
    have HGW2 := HGW
    have hm' : m = 4 ∨ m = 3 ∨ m = 2 := by omega
    clear hy0 hy1 hy2 j1 j2 j3 r0 r1 r2 r3
    rcases hm' with rfl | rfl | rfl
    · have HL0 := Lib.hid hlo
      have s0 := RZ.cell (o + 0) (by omega)
      have g0 := RZ.free (o + 0)
      have s1 := RZ.cell (o + 1) (by omega)
      have g1 := RZ.free (o + 1)
      have s2 := RZ.cell (o + 2) (by omega)
      have g2 := RZ.free (o + 2)
      rw [Nat.add_zero] at s0 g0
      have R2 := RZ.set (o + 2) y2
      have K2 := KZ.setCell (p := ⟨g, o + 2, none⟩) (fun _ => rfl) (.int .u8 y2)
      have R2' := R2.far (p := ⟨gd, 2, none⟩) hgd2 (.int .u8 0)
      have K2' := K2.setCell (p := ⟨gd, 2, none⟩) (fun h => by have h : gd < w.heap.size := h; have := HGW.out; omega) (.int .u8 0)
      have R1 := R2'.set (o + 1) y1
      have K1 := K2'.setCell (p := ⟨g, o + 1, none⟩) (fun _ => rfl) (.int .u8 y1)
      have R1' := R1.far (p := ⟨gd, 1, none⟩) hgd2 (.int .u8 0)
      have K1' := K1.setCell (p := ⟨gd, 1, none⟩) (fun h => by have h : gd < w.heap.size := h; have := HGW.out; omega) (.int .u8 0)
      have R0 := R1'.set o y0
      have K0 := K1'.setCell (p := ⟨g, o, none⟩) (fun _ => rfl) (.int .u8 y0)
      have HR2 := Lib.hid (And.intro R0 K0)
      have HP2 := Lib.hid (HPUT.out (((L.set (o + 2) y2).set (o + 1) y1).set o y0) (by simp) (fun i hi => by
        repeat rw [getD_set' _ _ _ _ (by (try simp); omega), if_neg (by omega)]) (by
        rw [getD_set' _ _ _ _ (by (try simp); omega), if_pos rfl]; exact HY.out.1) (fun h => by
        rw [getD_set' _ _ _ _ (by (try simp); omega), if_neg (by omega), getD_set' _ _ _ _ (by (try simp); omega), if_pos rfl]; exact HY.out.2.1) (fun h => by
        rw [getD_set' _ _ _ _ (by (try simp); omega), if_neg (by omega), getD_set' _ _ _ _ (by (try simp); omega), if_neg (by omega), getD_set' _ _ _ _ (by (try simp); omega), if_pos rfl]; exact HY.out.2.2))
      clear R0 K0 R1 K1 R1' K1' R2 K2 R2' K2' RZ KZ
      go_wp2
      go_ret3
      exact ⟨by rfl, ⟨_, HR2.out.1, HP2.out⟩, HR2.out.2⟩
    · have HL0 := Lib.hid hlo
      have s0 := RZ.cell (o + 0) (by omega)
      have g0 := RZ.free (o + 0)
      have s1 := RZ.cell (o + 1) (by omega)
      have g1 := RZ.free (o + 1)
      rw [Nat.add_zero] at s0 g0
      have R1 := RZ.set (o + 1) y1
      have K1 := KZ.setCell (p := ⟨g, o + 1, none⟩) (fun _ => rfl) (.int .u8 y1)
      have R1' := R1.far (p := ⟨gd, 1, none⟩) hgd2 (.int .u8 0)
      have K1' := K1.setCell (p := ⟨gd, 1, none⟩) (fun h => by have h : gd < w.heap.size := h; have := HGW.out; omega) (.int .u8 0)
      have R0 := R1'.set o y0
      have K0 := K1'.setCell (p := ⟨g, o, none⟩) (fun _ => rfl) (.int .u8 y0)
      have HR2 := Lib.hid (And.intro R0 K0)
      have HP2 := Lib.hid (HPUT.out ((L.set (o + 1) y1).set o y0) (by simp) (fun i hi => by
        repeat rw [getD_set' _ _ _ _ (by (try simp); omega), if_neg (by omega)]) (by
        rw [getD_set' _ _ _ _ (by (try simp); omega), if_pos rfl]; exact HY.out.1) (fun h => by
        rw [getD_set' _ _ _ _ (by (try simp); omega), if_neg (by omega), getD_set' _ _ _ _ (by (try simp); omega), if_pos rfl]; exact HY.out.2.1) (fun h => by
        omega))
      clear R0 K0 R1 K1 R1' K1' RZ KZ
      go_wp2
      go_ret3
      exact ⟨by rfl, ⟨_, HR2.out.1, HP2.out⟩, HR2.out.2⟩
    · have HL0 := Lib.hid hlo
      have s0 := RZ.cell (o + 0) (by omega)
      have g0 := RZ.free (o + 0)
      rw [Nat.add_zero] at s0 g0
      have R0 := RZ.set o y0
      have K0 := KZ.setCell (p := ⟨g, o, none⟩) (fun _ => rfl) (.int .u8 y0)
      have HR2 := Lib.hid (And.intro R0 K0)
      have HP2 := Lib.hid (HPUT.out (L.set o y0) (by simp) (fun i hi => by
        repeat rw [getD_set' _ _ _ _ (by (try simp); omega), if_neg (by omega)]) (by
        rw [getD_set' _ _ _ _ (by (try simp); omega), if_pos rfl]; exact HY.out.1) (fun h => by
        omega) (fun h => by
        omega))
      clear R0 K0 RZ KZ
      go_wp2
      go_ret3
      exact ⟨by rfl, ⟨_, HR2.out.1, HP2.out⟩, HR2.out.2⟩
end Go.Proofs.YtflafpklphgbpaaGreatDoor
namespace Go.Proofs.YtflafpklphgbpaaGreatDoor
open Go Go.RowKit
set_option linter.unusedVariables false
set_option linter.unusedSimpArgs false
set_option maxRecDepth 100000

theorem Row64.eight {D L : List Int} {q : Nat} (h : Row64 D q L) (hq : 4 * q + 8 ≤ D.length) (ho : 3 * q + 8 ≤ L.length) (hd : ∀ i : Nat, i < D.length → 0 ≤ D.getD i 0 ∧ D.getD i 0 < 64) :
    Row64 D (q + 2) (put8b L (3 * q) (D.getD (4 * q) 0 * 288230376151711744 + D.getD (4 * q + 1) 0 * 4503599627370496 + D.getD (4 * q + 2) 0 * 70368744177664 + D.getD (4 * q + 3) 0 * 1099511627776 + D.getD (4 * q + 4) 0 * 17179869184 + D.getD (4 * q + 5) 0 * 268435456 + D.getD (4 * q + 6) 0 * 4194304 + D.getD (4 * q + 7) 0 * 65536)) := by
  have r0 := hd (4 * q) (by omega)
  have r1 := hd (4 * q + 1) (by omega)
  have r2 := hd (4 * q + 2) (by omega)
  have r3 := hd (4 * q + 3) (by omega)
  have r4 := hd (4 * q + 4) (by omega)
  have r5 := hd (4 * q + 5) (by omega)
  have r6 := hd (4 * q + 6) (by omega)
  have r7 := hd (4 * q + 7) (by omega)
  have h1 : Row64 D (q + 1) (put8b L (3 * q) (D.getD (4 * q) 0 * 288230376151711744 + D.getD (4 * q + 1) 0 * 4503599627370496 + D.getD (4 * q + 2) 0 * 70368744177664 + D.getD (4 * q + 3) 0 * 1099511627776 + D.getD (4 * q + 4) 0 * 17179869184 + D.getD (4 * q + 5) 0 * 268435456 + D.getD (4 * q + 6) 0 * 4194304 + D.getD (4 * q + 7) 0 * 65536)) := h.next (by omega) (by simp [put8b]) (fun i hi => by
    unfold put8b
    repeat rw [getD_set' _ _ _ _ (by (try simp only [List.length_set]); omega), if_neg (by omega)]) (by
    unfold put8b
    repeat rw [getD_set' _ _ _ _ (by (try simp only [List.length_set]); omega), if_neg (by omega)]
    rw [getD_set' _ _ _ _ (by (try simp only [List.length_set]); omega), if_pos (by omega)]
    omega) (by
    unfold put8b
    repeat rw [getD_set' _ _ _ _ (by (try simp only [List.length_set]); omega), if_neg (by omega)]
    rw [getD_set' _ _ _ _ (by (try simp only [List.length_set]); omega), if_pos (by omega)]
    omega) (by
    unfold put8b
    repeat rw [getD_set' _ _ _ _ (by (try simp only [List.length_set]); omega), if_neg (by omega)]
    rw [getD_set' _ _ _ _ (by (try simp only [List.length_set]); omega), if_pos (by omega)]
    omega)
  exact h1.next (by omega) rfl (fun i hi => rfl) (by
    unfold put8b
    repeat rw [getD_set' _ _ _ _ (by (try simp only [List.length_set]); omega), if_neg (by omega)]
    rw [getD_set' _ _ _ _ (by (try simp only [List.length_set]); omega), if_pos (by omega)]
    rw [show 4 * (q + 1) = 4 * q + 4 from by omega]
    simp only [Nat.add_assoc]
    simp only [Nat.reduceAdd]
    omega) (by
    unfold put8b
    repeat rw [getD_set' _ _ _ _ (by (try simp only [List.length_set]); omega), if_neg (by omega)]
    rw [getD_set' _ _ _ _ (by (try simp only [List.length_set]); omega), if_pos (by omega)]
    rw [show 4 * (q + 1) = 4 * q + 4 from by omega]
    simp only [Nat.add_assoc]
    simp only [Nat.reduceAdd]
    omega) (by
    unfold put8b
    repeat rw [getD_set' _ _ _ _ (by (try simp only [List.length_set]); omega), if_neg (by omega)]
    rw [getD_set' _ _ _ _ (by (try simp only [List.length_set]); omega), if_pos (by omega)]
    rw [show 4 * (q + 1) = 4 * q + 4 from by omega]
    simp only [Nat.add_assoc]
    simp only [Nat.reduceAdd]
    omega)
theorem Row64.four {D L : List Int} {q : Nat} (h : Row64 D q L) (hq : 4 * q + 4 ≤ D.length) (ho : 3 * q + 4 ≤ L.length) (hd : ∀ i : Nat, i < D.length → 0 ≤ D.getD i 0 ∧ D.getD i 0 < 64) :
    Row64 D (q + 1) (put4 L (3 * q) (D.getD (4 * q) 0 * 67108864 + D.getD (4 * q + 1) 0 * 1048576 + D.getD (4 * q + 2) 0 * 16384 + D.getD (4 * q + 3) 0 * 256)) := by
  have r0 := hd (4 * q) (by omega)
  have r1 := hd (4 * q + 1) (by omega)
  have r2 := hd (4 * q + 2) (by omega)
  have r3 := hd (4 * q + 3) (by omega)
  have h1 : Row64 D (q + 1) (put4 L (3 * q) (D.getD (4 * q) 0 * 67108864 + D.getD (4 * q + 1) 0 * 1048576 + D.getD (4 * q + 2) 0 * 16384 + D.getD (4 * q + 3) 0 * 256)) := h.next (by omega) (by simp [put4]) (fun i hi => by
    unfold put4
    repeat rw [getD_set' _ _ _ _ (by (try simp only [List.length_set]); omega), if_neg (by omega)]) (by
    unfold put4
    repeat rw [getD_set' _ _ _ _ (by (try simp only [List.length_set]); omega), if_neg (by omega)]
    rw [getD_set' _ _ _ _ (by (try simp only [List.length_set]); omega), if_pos (by omega)]
    omega) (by
    unfold put4
    repeat rw [getD_set' _ _ _ _ (by (try simp only [List.length_set]); omega), if_neg (by omega)]
    rw [getD_set' _ _ _ _ (by (try simp only [List.length_set]); omega), if_pos (by omega)]
    omega) (by
    unfold put4
    repeat rw [getD_set' _ _ _ _ (by (try simp only [List.length_set]); omega), if_neg (by omega)]
    rw [getD_set' _ _ _ _ (by (try simp only [List.length_set]); omega), if_pos (by omega)]
    omega)
  exact h1
structure In64 (N : Nat) (D L : List Int) (p o : Nat) : Prop where
  ex : ∃ q, p = 4 * q ∧ o = 3 * q ∧ Row64 D q L ∧ 4 * q ≤ D.length
def St64 (N n : Nat) (D L : List Int) (p o : Nat) : Prop := In64 N D L p o ∨ (p = n ∧ o = N ∧ L = d64 D)
theorem St64.next {N n p o m : Nat} {D L L' : List Int} (h : In64 N D L p o) (hn : D.length = n) (hT : Tl64 n) (hN : (d64 D).length = N) (hm : m = min 4 (n - p)) (h2 : 2 ≤ m) (hP : Put64 D p m o L L') : St64 N n D L' (p + m) (o + (m - 1)) := by
  obtain ⟨q, rfl, rfl, hRow, hq⟩ := h.ex
  have hl := d64_len D (by rw [hn]; exact hT)
  rcases (show m = 4 ∨ m = 3 ∨ m = 2 by omega) with rfl | rfl | rfl
  · exact .inl ⟨⟨q + 1, by omega, by omega, hRow.next (by omega) hP.len hP.keep hP.one (hP.two (by omega)) (hP.thr (by omega)), by omega⟩⟩
  · exact .inr ⟨by omega, by omega, hRow.three (by omega) hP.len hP.keep hP.one (hP.two (by omega))⟩
  · exact .inr ⟨by omega, by omega, hRow.two (by omega) hP.len hP.keep hP.one⟩
set_option maxHeartbeats 16000000 in
theorem decode64_calls {w : World} {g gE gS n N dc c : Nat} {t : TypeId} {D T S L0 : List Int} {C : Array Value} (hL : Let64 T D S) (hb : Blk w gE C 156) (hC : EncD C T (-1)) (hS : RowM w gS S) (hr : Nw .u8 w g t L0)
    (hgE : gE ≠ g) (hgS : gS ≠ g) (hn : D.length = n) (hn1 : 1 ≤ n) (hn2 : n ≤ 100000) (hT : Tl64 n) (hN : (d64 D).length = N) (hL0 : L0.length = N) (hdc : N ≤ dc) (hdc2 : dc ≤ 9223372036854775807) (hc : n ≤ c) (hcm : c ≤ 9223372036854775807) :
    Calls Tryz.prog 79 #[.pointer (some ⟨gE, 0, none⟩), .slice (some ⟨g, 0, none⟩) N dc, .slice (some ⟨gS, 0, none⟩) n c] w
      fun e w' => e = .returned (.tuple #[.int .i64 (N : Int), Value.nilIface]) ∧ Nw .u8 w' g t (d64 D) ∧ Kp (· = g) w w' := by
  have hNn : N = n / 4 * 3 + n % 4 * 6 / 8 := by
    have := d64_len D (by rw [hn]; exact hT)
    rw [hn] at this; omega
  have HL := Lib.hid hL
  have HBE := Lib.hid hb
  have HC := Lib.hid hC
  have HS := Lib.hid hS
  have HN := Lib.hid hn
  have HNN := Lib.hid hN
  have HNQ := Lib.hid hNn
  have HTT := Lib.hid hT
  have hd : ∀ i : Nat, i < D.length → 0 ≤ D.getD i 0 ∧ D.getD i 0 < 64 := fun i hi => by obtain ⟨b, _, _, _, h0, h1⟩ := hL.at_ i hi; exact ⟨h0, h1⟩
  have HD := Lib.hid hd
  have HT : Hid (w.rangeAt gE 64 (nums .u8 T)) := Lib.hid (fun j v hv => by
    have hj : j < 256 := by
      have := (List.getElem?_eq_some_iff.1 hv).1
      rw [nums_length, hC.len] at this; exact this
    have e := hb.cell (64 + j)
    rw [hC.tab j hj] at e
    rw [e]
    rw [← hv, nums, List.getElem?_map, List.getElem?_eq_getElem (by rw [hC.len]; exact hj), List.getD_eq_getElem?_getD, List.getElem?_eq_getElem (by rw [hC.len]; exact hj)]
    rfl)
  have hTl : (nums .u8 T).length = 256 := by rw [nums_length, hC.len]
  have HTL := Lib.hid hTl
  have I0 : Hid (In64 N D L0 0 0) := Lib.hid ⟨⟨0, rfl, rfl, Row64.start D (by rw [hL0, hN]), Nat.zero_le _⟩⟩
  have hn0 : ((n : Int) == 0) = false := beq_eq_false_iff_ne.2 (by omega)
  have hNle : N ≤ 100000 := by omega
  have cE : ∀ wx : World, Kp (· = g) w wx → Blk wx gE C 156 := fun wx k => HBE.out.keep k (by show ¬ gE = g; exact hgE)
  have cS : ∀ wx : World, Kp (· = g) w wx → RowM wx gS S := fun wx k => HS.out.keep k (by show ¬ gS = g; exact hgS)
  have HCE := Lib.hid cE
  have HCS := Lib.hid cS
  have HGE := Lib.hid hgE
  have HGS := Lib.hid hgS
  clear hL hb hC hS hn hN hL0 hTl hd hNn hT cE cS
  go_enter Tryz.func79, Tryz.ntmps79
  go_upto_region 3 with (fail)
  go_upto_region 4 with (refine wpList_load_mid rfl 136 (.tmp 23) rfl gE 64 rfl (nums .u8 T) _ HT.out Tryz.underlying136 rfl (by rw [HTL.out]; exact info256) ?_)
  generalize (nums .u8 T).toArray = TA at *
  clear HTL
  go_upto_block 0 with (fail)
  go_cut [6, 7, 8] from 25 to 139 (fun nv ev sv wx => ∃ (p o : Nat) (L : List Int), nv = .int .i64 o ∧ ev = .nilIface ∧ sv = .int .i64 p ∧ p ≤ n ∧ o ≤ N ∧ Hid (In64 N D L p o) ∧ Nw .u8 wx g t L ∧ Kp (· = g) w wx)
  case first =>
    go_wp2
    go_loopw [6, 7, 8] (fun nv ev sv wr => ∃ (p o : Nat) (L : List Int), nv = .int .i64 o ∧ ev = .nilIface ∧ sv = .int .i64 p ∧ p ≤ n ∧ o ≤ N ∧ Hid (In64 N D L p o) ∧ Nw .u8 wr g t L ∧ Kp (· = g) w wr) (fun _ _ sv _ => n - (intOf sv).toNat)
    case atStart => exact ⟨0, 0, L0, rfl, rfl, rfl, Nat.zero_le _, Nat.zero_le _, I0, hr, Kp.refl _ _⟩
    case round =>
      obtain ⟨p, o, L, rfl, rfl, rfl, hpn, hoN, HI, hr, kr⟩ := hrel
      by_cases hA : p + 8 ≤ n
      · by_cases hB : o + 8 ≤ N
        · obtain ⟨q, hpq, hoq, hRow, hq4⟩ := HI.out.ex
          have hLl : L.length = N := by rw [hRow.len, HNN.out]
          have hPD : p + 8 ≤ D.length := by rw [HN.out]; exact hA
          have hc1 : (8 : Int) ≤ (n : Int) - (p : Int) := by omega
          have hc2 : (8 : Int) ≤ (N : Int) - (o : Int) := by omega
          have bE := HCE.out _ kr
          have bS := HCS.out _ kr
          obtain ⟨b0, hb0, hl0, ht0, r0⟩ := HL.out.at_ (p) (by omega)
          have i0 : (b0 : Int) < 256 := by omega
          have s0 := bS.cell (p) (by rw [HL.out.len]; omega)
          rw [hb0] at s0
          have t0 : wr.cell? ⟨gE, 64 + b0, none⟩ = some (.int .u8 (D.getD (p) 0)) := by rw [bE.cell (64 + b0), HC.out.tab b0 hl0, ht0]
          obtain ⟨b1, hb1, hl1, ht1, r1⟩ := HL.out.at_ (p + 1) (by omega)
          have i1 : (b1 : Int) < 256 := by omega
          have s1 := bS.cell (p + 1) (by rw [HL.out.len]; omega)
          rw [hb1] at s1
          have t1 : wr.cell? ⟨gE, 64 + b1, none⟩ = some (.int .u8 (D.getD (p + 1) 0)) := by rw [bE.cell (64 + b1), HC.out.tab b1 hl1, ht1]
          obtain ⟨b2, hb2, hl2, ht2, r2⟩ := HL.out.at_ (p + 2) (by omega)
          have i2 : (b2 : Int) < 256 := by omega
          have s2 := bS.cell (p + 2) (by rw [HL.out.len]; omega)
          rw [hb2] at s2
          have t2 : wr.cell? ⟨gE, 64 + b2, none⟩ = some (.int .u8 (D.getD (p + 2) 0)) := by rw [bE.cell (64 + b2), HC.out.tab b2 hl2, ht2]
          obtain ⟨b3, hb3, hl3, ht3, r3⟩ := HL.out.at_ (p + 3) (by omega)
          have i3 : (b3 : Int) < 256 := by omega
          have s3 := bS.cell (p + 3) (by rw [HL.out.len]; omega)
          rw [hb3] at s3
          have t3 : wr.cell? ⟨gE, 64 + b3, none⟩ = some (.int .u8 (D.getD (p + 3) 0)) := by rw [bE.cell (64 + b3), HC.out.tab b3 hl3, ht3]
          obtain ⟨b4, hb4, hl4, ht4, r4⟩ := HL.out.at_ (p + 4) (by omega)
          have i4 : (b4 : Int) < 256 := by omega
          have s4 := bS.cell (p + 4) (by rw [HL.out.len]; omega)
          rw [hb4] at s4
          have t4 : wr.cell? ⟨gE, 64 + b4, none⟩ = some (.int .u8 (D.getD (p + 4) 0)) := by rw [bE.cell (64 + b4), HC.out.tab b4 hl4, ht4]
          obtain ⟨b5, hb5, hl5, ht5, r5⟩ := HL.out.at_ (p + 5) (by omega)
          have i5 : (b5 : Int) < 256 := by omega
          have s5 := bS.cell (p + 5) (by rw [HL.out.len]; omega)
          rw [hb5] at s5
          have t5 : wr.cell? ⟨gE, 64 + b5, none⟩ = some (.int .u8 (D.getD (p + 5) 0)) := by rw [bE.cell (64 + b5), HC.out.tab b5 hl5, ht5]
          obtain ⟨b6, hb6, hl6, ht6, r6⟩ := HL.out.at_ (p + 6) (by omega)
          have i6 : (b6 : Int) < 256 := by omega
          have s6 := bS.cell (p + 6) (by rw [HL.out.len]; omega)
          rw [hb6] at s6
          have t6 : wr.cell? ⟨gE, 64 + b6, none⟩ = some (.int .u8 (D.getD (p + 6) 0)) := by rw [bE.cell (64 + b6), HC.out.tab b6 hl6, ht6]
          obtain ⟨b7, hb7, hl7, ht7, r7⟩ := HL.out.at_ (p + 7) (by omega)
          have i7 : (b7 : Int) < 256 := by omega
          have s7 := bS.cell (p + 7) (by rw [HL.out.len]; omega)
          rw [hb7] at s7
          have t7 : wr.cell? ⟨gE, 64 + b7, none⟩ = some (.int .u8 (D.getD (p + 7) 0)) := by rw [bE.cell (64 + b7), HC.out.tab b7 hl7, ht7]
          have HRW := Lib.hid (hRow.eight (by omega) (by omega) HD.out)
          rw [← hpq, ← hoq] at HRW
          generalize D.getD (p) 0 = x0 at *
          generalize D.getD (p + 1) 0 = x1 at *
          generalize D.getD (p + 2) 0 = x2 at *
          generalize D.getD (p + 3) 0 = x3 at *
          generalize D.getD (p + 4) 0 = x4 at *
          generalize D.getD (p + 5) 0 = x5 at *
          generalize D.getD (p + 6) 0 = x6 at *
          generalize D.getD (p + 7) 0 = x7 at *
          have HA := Lib.hid (fun wx : World => asm8_calls (w := wx) x0 x1 x2 x3 x4 x5 x6 x7 r0 r1 r2 r3 r4 r5 r6 r7)
          obtain ⟨X, hX⟩ : ∃ X, X = x0 * 288230376151711744 + x1 * 4503599627370496 + x2 * 70368744177664 + x3 * 1099511627776 + x4 * 17179869184 + x5 * 268435456 + x6 * 4194304 + x7 * 65536 := ⟨_, rfl⟩
          rw [← hX] at HA HRW
          have HB := Lib.hid (fun (k dl dc : Nat) (h : 8 ≤ dl) => bep64i_calls (w := wr.drewN k) (n := dl) (c := dc) (hr.keepN (Kp.byDraws _ _)) X (o := o) (by omega) h)
          have HPQ := Lib.hid (And.intro hpq hoq)
          have hqq : 4 * (q + 2) ≤ D.length := by omega
          have HQQ := Lib.hid hqq
          clear hpq hoq hRow hq4 hX hb0 ht0 hb1 ht1 hb2 ht2 hb3 ht3 hb4 ht4 hb5 ht5 hb6 ht6 hb7 ht7 hPD hqq hLl bE bS HI
          go_upto_region 7 with (fail)
          rw [show p + 8 - p = 8 from by omega]
          go_quiet ((go_at_call 97; exact Calls.quiet_of_same (HA.out _)))
          go_wp2_with (fail)
          refine (HB.out nq _ _ (by omega)).mono ?_
          rintro e w2 ⟨rfl, hr2, k2⟩
          go_wp2
          go_roundw
          case rel => exact ⟨p + 8, o + 6, _, by go_num, rfl, by go_num, hA, by omega, Lib.hid ⟨⟨q + 2, by have := HPQ.out.1; omega, by have := HPQ.out.2; omega, HRW.out, HQQ.out⟩⟩, hr2, (kr.then (Kp.byDraws _ _)).trans k2 (fun _ _ h => h)⟩
          case measure => simp [intOf]; omega
        · have hc1 : (8 : Int) ≤ (n : Int) - (p : Int) := by omega
          have hc2 : ¬ (8 : Int) ≤ (N : Int) - (o : Int) := by omega
          go_wp2
          go_meet
          case rel => exact ⟨p, o, L, rfl, rfl, rfl, hpn, hoN, HI, hr, kr⟩
      · have hc1 : ¬ (8 : Int) ≤ (n : Int) - (p : Int) := by omega
        go_wp2
        go_meet
        case rel => exact ⟨p, o, L, rfl, rfl, rfl, hpn, hoN, HI, hr, kr⟩
  case rest =>
    obtain ⟨p1, o1, L1, rfl, rfl, rfl, hpn1, hoN1, HI1, hr1, kr1⟩ := hcut
    go_upto_block 2 with (fail)
    go_cut [6, 7, 8] from 140 to 220 (fun nv ev sv wx => ∃ (p o : Nat) (L : List Int), nv = .int .i64 o ∧ ev = .nilIface ∧ sv = .int .i64 p ∧ p ≤ n ∧ o ≤ N ∧ Hid (In64 N D L p o) ∧ Nw .u8 wx g t L ∧ Kp (· = g) w wx)
    case first =>
      go_wp2
      go_loopw [6, 7, 8] (fun nv ev sv wr => ∃ (p o : Nat) (L : List Int), nv = .int .i64 o ∧ ev = .nilIface ∧ sv = .int .i64 p ∧ p ≤ n ∧ o ≤ N ∧ Hid (In64 N D L p o) ∧ Nw .u8 wr g t L ∧ Kp (· = g) w wr) (fun _ _ sv _ => n - (intOf sv).toNat)
      case atStart => exact ⟨p1, o1, L1, rfl, rfl, rfl, hpn1, hoN1, HI1, hr1, kr1⟩
      case round =>
        obtain ⟨p, o, L, rfl, rfl, rfl, hpn, hoN, HI, hr, kr⟩ := hrel
        by_cases hA : p + 4 ≤ n
        · by_cases hB : o + 4 ≤ N
          · obtain ⟨q, hpq, hoq, hRow, hq4⟩ := HI.out.ex
            have hLl : L.length = N := by rw [hRow.len, HNN.out]
            have hPD : p + 4 ≤ D.length := by rw [HN.out]; exact hA
            have hc1 : (4 : Int) ≤ (n : Int) - (p : Int) := by omega
            have hc2 : (4 : Int) ≤ (N : Int) - (o : Int) := by omega
            have bE := HCE.out _ kr
            have bS := HCS.out _ kr
            obtain ⟨b0, hb0, hl0, ht0, r0⟩ := HL.out.at_ (p) (by omega)
            have i0 : (b0 : Int) < 256 := by omega
            have s0 := bS.cell (p) (by rw [HL.out.len]; omega)
            rw [hb0] at s0
            have t0 : wr.cell? ⟨gE, 64 + b0, none⟩ = some (.int .u8 (D.getD (p) 0)) := by rw [bE.cell (64 + b0), HC.out.tab b0 hl0, ht0]
            obtain ⟨b1, hb1, hl1, ht1, r1⟩ := HL.out.at_ (p + 1) (by omega)
            have i1 : (b1 : Int) < 256 := by omega
            have s1 := bS.cell (p + 1) (by rw [HL.out.len]; omega)
            rw [hb1] at s1
            have t1 : wr.cell? ⟨gE, 64 + b1, none⟩ = some (.int .u8 (D.getD (p + 1) 0)) := by rw [bE.cell (64 + b1), HC.out.tab b1 hl1, ht1]
            obtain ⟨b2, hb2, hl2, ht2, r2⟩ := HL.out.at_ (p + 2) (by omega)
            have i2 : (b2 : Int) < 256 := by omega
            have s2 := bS.cell (p + 2) (by rw [HL.out.len]; omega)
            rw [hb2] at s2
            have t2 : wr.cell? ⟨gE, 64 + b2, none⟩ = some (.int .u8 (D.getD (p + 2) 0)) := by rw [bE.cell (64 + b2), HC.out.tab b2 hl2, ht2]
            obtain ⟨b3, hb3, hl3, ht3, r3⟩ := HL.out.at_ (p + 3) (by omega)
            have i3 : (b3 : Int) < 256 := by omega
            have s3 := bS.cell (p + 3) (by rw [HL.out.len]; omega)
            rw [hb3] at s3
            have t3 : wr.cell? ⟨gE, 64 + b3, none⟩ = some (.int .u8 (D.getD (p + 3) 0)) := by rw [bE.cell (64 + b3), HC.out.tab b3 hl3, ht3]
            have HRW := Lib.hid (hRow.four (by omega) (by omega) HD.out)
            rw [← hpq, ← hoq] at HRW
            generalize D.getD (p) 0 = x0 at *
            generalize D.getD (p + 1) 0 = x1 at *
            generalize D.getD (p + 2) 0 = x2 at *
            generalize D.getD (p + 3) 0 = x3 at *
            have HA := Lib.hid (fun wx : World => asm4_calls (w := wx) x0 x1 x2 x3 r0 r1 r2 r3)
            obtain ⟨X, hX⟩ : ∃ X, X = x0 * 67108864 + x1 * 1048576 + x2 * 16384 + x3 * 256 := ⟨_, rfl⟩
            rw [← hX] at HA HRW
            have HB := Lib.hid (fun (k dl dc : Nat) (h : 4 ≤ dl) => bep32_calls (w := wr.drewN k) (n := dl) (c := dc) (hr.keepN (Kp.byDraws _ _)) X (o := o) (by omega) h)
            have HPQ := Lib.hid (And.intro hpq hoq)
            have hqq : 4 * (q + 1) ≤ D.length := by omega
            have HQQ := Lib.hid hqq
            clear hpq hoq hRow hq4 hX hb0 ht0 hb1 ht1 hb2 ht2 hb3 ht3 hPD hqq hLl bE bS HI
            go_upto_region 19 with (fail)
            rw [show p + 4 - p = 4 from by omega]
            go_quiet ((go_at_call 100; exact Calls.quiet_of_same (HA.out _)))
            go_wp2_with (fail)
            refine (HB.out nq _ _ (by omega)).mono ?_
            rintro e w2 ⟨rfl, hr2, k2⟩
            go_wp2
            go_roundw
            case rel => exact ⟨p + 4, o + 3, _, by go_num, rfl, by go_num, hA, by omega, Lib.hid ⟨⟨q + 1, by have := HPQ.out.1; omega, by have := HPQ.out.2; omega, HRW.out, HQQ.out⟩⟩, hr2, (kr.then (Kp.byDraws _ _)).trans k2 (fun _ _ h => h)⟩
            case measure => simp [intOf]; omega
          · have hc1 : (4 : Int) ≤ (n : Int) - (p : Int) := by omega
            have hc2 : ¬ (4 : Int) ≤ (N : Int) - (o : Int) := by omega
            go_wp2
            go_meet
            case rel => exact ⟨p, o, L, rfl, rfl, rfl, hpn, hoN, HI, hr, kr⟩
        · have hc1 : ¬ (4 : Int) ≤ (n : Int) - (p : Int) := by omega
          go_wp2
          go_meet
          case rel => exact ⟨p, o, L, rfl, rfl, rfl, hpn, hoN, HI, hr, kr⟩
    case rest =>
      obtain ⟨p2, o2, L2, rfl, rfl, rfl, hpn2, hoN2, HI2, hr2, kr2⟩ := hcut
      go_wp2
      go_loopw [6, 7, 8] (fun nv ev sv wr => ∃ (p o : Nat) (L : List Int), nv = .int .i64 o ∧ ev = .nilIface ∧ sv = .int .i64 p ∧ p ≤ n ∧ o ≤ N ∧ Hid (St64 N n D L p o) ∧ Nw .u8 wr g t L ∧ Kp (· = g) w wr) (fun _ _ sv _ => n - (intOf sv).toNat)
      case atStart => exact ⟨p2, o2, L2, rfl, rfl, rfl, hpn2, hoN2, Lib.hid (.inl HI2.out), hr2, kr2⟩
      case round =>
        obtain ⟨p, o, L, rfl, rfl, rfl, hpn, hoN, HI, hr, kr⟩ := hrel
        by_cases hA : p < n
        · have hI : In64 N D L p o := by
            rcases HI.out with h | h
            · exact h
            · omega
          obtain ⟨m, hm⟩ : ∃ m, m = min 4 (n - p) := ⟨_, rfl⟩
          have h2 : 2 ≤ m := by
            obtain ⟨q, hpq, _, _, _⟩ := hI.ex
            have := HTT.out
            unfold Tl64 at this
            omega
          have hroom : o + (m - 1) ≤ N := by
            obtain ⟨q, hpq, hoq, _, _⟩ := hI.ex
            have := HNQ.out
            omega
          have hLl : L.length = N := by obtain ⟨q, _, _, hRow, _⟩ := hI.ex; rw [hRow.len, HNN.out]
          have HQC := Lib.hid (fun (dl dc' : Nat) (h : dl = N - o) => quant_calls (w := wr) (dl := dl) (dc := dc') (c := c) HL.out (HCE.out _ kr) HC.out (HCS.out _ kr) hr HGE.out HN.out hn2 hm h2 (by omega) (o := o) (by omega))
          have HNX := Lib.hid (fun L' (hP : Put64 D p m o L L') => St64.next hI HN.out HTT.out HNN.out hm h2 hP)
          have hpm : p + m ≤ n := by omega
          have hAi : (p : Int) < (n : Int) := by omega
          clear hI hm hLl HI hA
          go_upto_region 31 with (fail)
          go_wp2_with (fail)
          refine (HQC.out _ _ rfl).mono ?_
          rintro e w2 ⟨rfl, ⟨L', hr', hP⟩, k'⟩
          have HX := Lib.hid (HNX.out L' hP)
          clear hP
          go_wp2
          go_roundw
          case rel => exact ⟨p + m, o + (m - 1), L', by go_num, rfl, by go_num, hpm, hroom, HX, hr', kr.trans k' (fun _ _ h => h)⟩
          case measure => simp [intOf]; omega
        · have hF : p = n ∧ o = N ∧ L = d64 D := by
            rcases HI.out with h | h
            · obtain ⟨q, hpq, hoq, hRow, hq⟩ := h.ex
              have e1 : 4 * q = D.length := by rw [HN.out]; omega
              have e2 := hRow.done e1 (by rw [HN.out]; exact HTT.out)
              exact ⟨by omega, by have := HNQ.out; have := HN.out; omega, e2⟩
            · exact h
          obtain ⟨rfl, rfl, rfl⟩ := hF
          clear hA HI
          go_wp2
          go_ret2
          exact ⟨rfl, hr, kr⟩
end Go.Proofs.YtflafpklphgbpaaGreatDoor
namespace Go.Proofs.YtflafpklphgbpaaGreatDoor
open Go Go.RowKit
set_option linter.unusedVariables false
set_option linter.unusedSimpArgs false
set_option maxRecDepth 100000

set_option maxHeartbeats 4000000 in
theorem dlen64_calls {w : World} (n : Nat) (hn : n ≤ 100000) : Calls Tryz.prog 96 #[.int .i64 n, .int .i32 (-1)] w fun e w' => e = .returned (.int .i64 ((n / 4 * 3 + n % 4 * 6 / 8 : Nat) : Int)) ∧ w' = w := by
  have HE := Lib.hid (show (n : Int) / 4 * 3 + (n : Int) % 4 * 6 / 8 = ((n / 4 * 3 + n % 4 * 6 / 8 : Nat) : Int) from by omega)
  go_enter Tryz.func96, Tryz.ntmps96
  go_wp2
  go_ret
  exact ⟨by rw [← HE.out]; rfl, rfl⟩
theorem dl64_calls {w : World} {gE : Nat} {C : Array Value} {T : List Int} (hb : Blk w gE C 156) (hC : EncD C T (-1)) (n : Nat) (hn : n ≤ 100000) :
    Calls Tryz.prog 78 #[.pointer (some ⟨gE, 0, none⟩), .int .i64 n] w fun e w' => e = .returned (.int .i64 ((n / 4 * 3 + n % 4 * 6 / 8 : Nat) : Int)) ∧ w' = w := by
  have HD := Lib.hid (dlen64_calls (w := w) n hn)
  have c0 := hb.cell 320
  rw [hC.pad] at c0
  clear hC hb
  go_enter Tryz.func78, Tryz.ntmps78
  go_wp2_with (fail)
  refine HD.out.mono ?_
  rintro e w1 ⟨rfl, rfl⟩
  go_wp2
  go_ret
  exact ⟨rfl, rfl⟩
set_option maxHeartbeats 8000000 in
/-- A text of letters, decoded into new bytes. -/
theorem b64string_calls {w : World} {gE : Nat} {D S T : List Int} {C : Array Value} (hL : Let64 T D S) (hBS : Byt S) (hb : Blk w gE C 156) (hC : EncD C T (-1))
    (h1 : 1 ≤ D.length) (hn : D.length ≤ 1000) (hT : Tl64 D.length) (hB : Byt (d64 D)) :
    Calls Tryz.prog 56 #[.pointer (some ⟨gE, 0, none⟩), .string (strOfNums S)] w (DecP w (d64 D)) := by
  obtain ⟨n, hnn⟩ : ∃ n, D.length = n := ⟨_, rfl⟩
  obtain ⟨N, hNN⟩ : ∃ N, (d64 D).length = N := ⟨_, rfl⟩
  have hNq : N = n / 4 * 3 + n % 4 * 6 / 8 := by
    have := d64_len D hT
    rw [hNN, hnn] at this; exact this
  have hs : (strOfNums S).size = n := by rw [strOfNums_size, hL.len, hnn]
  have HSS := Lib.hid hs
  rw [hnn] at h1 hn hT
  have HDL := Lib.hid (dl64_calls hb hC n (by omega))
  rw [← hNq] at HDL
  have HSR := Lib.hid (fun W : World => str_row (w := W) hBS (by rw [hL.len, hnn]; omega) Tryz.und_string Tryz.und_bytes)
  rw [hL.len, hnn] at HSR
  have HDC := Lib.hid (fun (W : World) (g gS c : Nat) (L0 : List Int) (hbb : Blk W gE C 156) (hS : RowM W gS S) (hr : Nw .u8 W g 5 L0) (hgE : gE ≠ g) (hgS : gS ≠ g) (hL0 : L0.length = N) (hc : n ≤ c) (hcm : c ≤ 9223372036854775807) =>
    decode64_calls (w := W) (g := g) (gS := gS) (dc := N) (c := c) hL hbb hC hS hr hgE hgS hnn h1 (by omega) hT hNN hL0 (Nat.le_refl _) (by omega) hc hcm)
  have HB := Lib.hid hB
  have HNN := Lib.hid hNN
  have hgEw := hb.lt
  have HBE := Lib.hid hb
  have hct := cutTo (P := Tryz.prog) Tryz.und_bytes Tryz.size_byte (some ⟨w.heap.size, 0, none⟩) N N .i64 (N : Int) (by omega) (by omega) (Nat.le_refl _)
  rw [Int.toNat_natCast] at hct
  have hN1 : N ≤ 1000 := by omega
  obtain ⟨i8, hi8, hz8⟩ := Option.map_eq_some_iff.1 Tryz.info_byte
  simp only [Prod.mk.injEq] at hz8
  have HI8 := Lib.hid (And.intro hi8 hz8)
  obtain ⟨tx, htx⟩ : ∃ x, x = strOfNums S := ⟨_, rfl⟩
  rw [← htx] at HSR HSS hs ⊢
  have HGE := Lib.hid hgEw
  clear hi8 hz8 htx hL hBS hb hC hnn hNN hNq hT hB h1 hgEw
  go_enter Tryz.func56, Tryz.ntmps56
  go_upto_region 2 with (first
    | (go_at_call 78; refine HDL.out.mono ?_; rintro e w1 ⟨rfl, rfl⟩)
    | (at_make; refine wpList_make_full _ rfl (.tmp 12) (.tmp 12) 23 rfl 0 5 i8 (.int .u8 0) 1 Tryz.und_bytes HI8.out.1 HI8.out.2.1 HI8.out.2.2.1 .i64 .i64 _ _ N rfl rfl rfl rfl (by rw [HI8.out.2.2.2]; omega) (by simp only [maxLen]; omega) (Nat.zero_le _) ?_; intro w4 hrow4 hgr4))
  obtain ⟨wo, rfl⟩ : ∃ x : World, x = w1 := ⟨_, rfl⟩
  have k4 : Kp no wo w4 := (Kp.refl _ _).grown hgr4 (fun k hk _ => by cases hk)
  have B4 : Nw .u8 w4 wo.heap.size 5 (List.replicate N 0) := Nw.made hrow4
  clear hrow4 hgr4
  obtain ⟨c, w5, hcv, hR5, k5, hc5, hcm5⟩ := HSR.out w4
  have hgS : w4.heap.size ≠ wo.heap.size := by have := B4.lt; omega
  have hgE2 : gE ≠ wo.heap.size := by have := HGE.out; omega
  have HD := Lib.hid (HDC.out w5 wo.heap.size w4.heap.size c _ (HBE.out.keepN (k4.then k5)) hR5 (B4.keepN k5) hgE2 hgS (by simp) hc5 hcm5)
  have HK := Lib.hid (k4.then k5)
  clear hR5 B4 k4 k5 hgS hgE2
  generalize hgS : w4.heap.size = gS at *
  generalize hgg : wo.heap.size = gB at *
  have HGB := Lib.hid hgg
  clear hgS hgg hc5 hcm5
  go_wp2_with (fail)
  refine HD.out.mono ?_
  rintro e w6 ⟨rfl, hr6, k6⟩
  have HF := Lib.hid (show DecP wo (d64 D) (.returned (.tuple #[.slice (some ⟨gB, 0, none⟩) N N, Value.nilIface])) w6 from
    ⟨some ⟨gB, 0, none⟩, N, by rw [HNN.out], by have := hr6.rd HNN.out HB.out (by omega); rw [HNN.out]; exact this, HK.out.trans k6 (fun i hi h => by have h : i = gB := h; have := HGB.out; omega)⟩)
  clear hr6 k6
  go_wp2
  go_ret2
  exact HF.out
theorem lo109 : ∀ d : Nat, d < 64 → 0 ≤ alp109.getD d 0 ∧ alp109.getD d 0 < 128 := by decide +kernel
theorem let64_109 {D : List Int} (h : ∀ x ∈ D, 0 ≤ x ∧ x < 64) : Let64 (tab64 alp109 64) D (D.map (ltr alp109)) := ⟨by simp, fun i hi => by
  have hx := h D[i] (List.getElem_mem hi)
  have hg : D.getD i 0 = D[i] := by rw [List.getD_eq_getElem?_getD, List.getElem?_eq_getElem hi]; rfl
  have hm : (D.map (ltr alp109)).getD i 0 = ltr alp109 D[i] := by rw [List.getD_eq_getElem?_getD, List.getElem?_map, List.getElem?_eq_getElem hi]; rfl
  obtain ⟨f1, f2⟩ := lo109 D[i].toNat (by omega)
  have f3 := al64m.tab D[i].toNat (by omega)
  rw [hg, hm]
  refine ⟨(ltr alp109 D[i]).toNat, by unfold ltr; omega, by unfold ltr; omega, by unfold ltr; rw [f3]; omega, hx.1, hx.2⟩⟩
theorem txb109 {x : List Int} (hb : Byt x) (h1 : 1 ≤ x.length) (hn : x.length ≤ 100) : Txb 109 ((dgs 6 x).map (ltr alp109)) := by
  have hl := dgs6_len x hb
  refine ⟨fun y hy => ?_, by omega, by omega, by simp; omega, by simp; omega⟩
  rcases List.mem_cons.1 hy with rfl | hy
  · omega
  · exact ltr_byt (n := 64) lo109 (fun y hy => by have := dgs_rng 6 x y hy; omega) y hy
set_option maxHeartbeats 8000000 in
theorem mb109_calls {x : List Int} (hb : Byt x) (h1 : 1 ≤ x.length) (hn : x.length ≤ 100) (w : World) :
    Calls Tryz.prog 36 #[.string (strOfNums (109 :: (dgs 6 x).map (ltr alp109)))] w (MbP w 109 x) := by
  have hT := txb109 hb h1 hn
  have hl := dgs6_len x hb
  have DR := Lib.hid (rune_calls (w := w) hT.b (by have := hT.m; omega) (by omega))
  have ht := str_tail (x := 109) (r := (dgs 6 x).map (ltr alp109))
  have hs := strOfNums_size (109 :: (dgs 6 x).map (ltr alp109))
  simp only [List.length_cons, List.length_map] at hs
  have hr6 : ∀ y ∈ dgs 6 x, 0 ≤ y ∧ y < 64 := fun y hy => by have := dgs_rng 6 x y hy; omega
  have DS := Lib.hid (fun (W : World) gE C (hb2 : Blk W gE C 156) (hC : EncD C (tab64 alp109 64) (-1)) => b64string_calls (w := W) (let64_109 hr6) (ltr_byt (n := 64) lo109 hr6) hb2 hC (by omega) (by omega) (dgs6_tail x hb) (by rw [d64_dgs x hb]; exact hb))
  rw [d64_dgs x hb] at DS
  generalize strOfNums (109 :: (dgs 6 x).map (ltr alp109)) = S at *
  rw [← ht] at DS
  have hs1 : (1 : Int) ≤ (S.size : Int) := by omega
  have hs2 : 1 ≤ S.size := by omega
  have hs3 : ((S.size : Int) == 0) = false := beq_eq_false_iff_ne.2 (by omega)
  have hs4 : S.size ≤ 2000 := by omega
  have DN := fun (W : World) => Lib.hid (zz64m_calls (w := W))
  clear hr6 ht hs hT h1 hn hb hl
  generalize tab64 alp109 64 = T at *
  go_enter Tryz.func36, Tryz.ntmps36
  go_wp2_with (first | (go_at_call 43; refine DR.out.mono ?_; rintro e w1 ⟨rfl, rfl⟩))
  go_region_with (first
    | (go_at_call 56; refine (DS.out _ gE C hb2 hC).mono ?_; rintro e w3 ⟨A, c, rfl, R3, k3⟩)
    | (go_at_call 55; refine (DN _).out.mono ?_; rintro e w2 ⟨gE, C, rfl, hg, hb2, hC, k2⟩))
  all_goals
    have HF := Lib.hid (show MbP w1 109 x (.returned (.tuple #[.int .i64 109, .slice A x.length c, Value.nilIface])) w3 from ⟨A, c, rfl, R3, ((Kp.refl _ _).drew.then k2).then k3⟩)
    generalize x.length = nd at *
    clear R3 k3 hb2 hC
    go_wp2
    go_ret3
    exact HF.out
theorem lo117 : ∀ d : Nat, d < 64 → 0 ≤ alp117.getD d 0 ∧ alp117.getD d 0 < 128 := by decide +kernel
theorem let64_117 {D : List Int} (h : ∀ x ∈ D, 0 ≤ x ∧ x < 64) : Let64 (tab64 alp117 64) D (D.map (ltr alp117)) := ⟨by simp, fun i hi => by
  have hx := h D[i] (List.getElem_mem hi)
  have hg : D.getD i 0 = D[i] := by rw [List.getD_eq_getElem?_getD, List.getElem?_eq_getElem hi]; rfl
  have hm : (D.map (ltr alp117)).getD i 0 = ltr alp117 D[i] := by rw [List.getD_eq_getElem?_getD, List.getElem?_map, List.getElem?_eq_getElem hi]; rfl
  obtain ⟨f1, f2⟩ := lo117 D[i].toNat (by omega)
  have f3 := al64u.tab D[i].toNat (by omega)
  rw [hg, hm]
  refine ⟨(ltr alp117 D[i]).toNat, by unfold ltr; omega, by unfold ltr; omega, by unfold ltr; rw [f3]; omega, hx.1, hx.2⟩⟩
theorem txb117 {x : List Int} (hb : Byt x) (h1 : 1 ≤ x.length) (hn : x.length ≤ 100) : Txb 117 ((dgs 6 x).map (ltr alp117)) := by
  have hl := dgs6_len x hb
  refine ⟨fun y hy => ?_, by omega, by omega, by simp; omega, by simp; omega⟩
  rcases List.mem_cons.1 hy with rfl | hy
  · omega
  · exact ltr_byt (n := 64) lo117 (fun y hy => by have := dgs_rng 6 x y hy; omega) y hy
set_option maxHeartbeats 8000000 in
theorem mb117_calls {x : List Int} (hb : Byt x) (h1 : 1 ≤ x.length) (hn : x.length ≤ 100) (w : World) :
    Calls Tryz.prog 36 #[.string (strOfNums (117 :: (dgs 6 x).map (ltr alp117)))] w (MbP w 117 x) := by
  have hT := txb117 hb h1 hn
  have hl := dgs6_len x hb
  have DR := Lib.hid (rune_calls (w := w) hT.b (by have := hT.m; omega) (by omega))
  have ht := str_tail (x := 117) (r := (dgs 6 x).map (ltr alp117))
  have hs := strOfNums_size (117 :: (dgs 6 x).map (ltr alp117))
  simp only [List.length_cons, List.length_map] at hs
  have hr6 : ∀ y ∈ dgs 6 x, 0 ≤ y ∧ y < 64 := fun y hy => by have := dgs_rng 6 x y hy; omega
  have DS := Lib.hid (fun (W : World) gE C (hb2 : Blk W gE C 156) (hC : EncD C (tab64 alp117 64) (-1)) => b64string_calls (w := W) (let64_117 hr6) (ltr_byt (n := 64) lo117 hr6) hb2 hC (by omega) (by omega) (dgs6_tail x hb) (by rw [d64_dgs x hb]; exact hb))
  rw [d64_dgs x hb] at DS
  generalize strOfNums (117 :: (dgs 6 x).map (ltr alp117)) = S at *
  rw [← ht] at DS
  have hs1 : (1 : Int) ≤ (S.size : Int) := by omega
  have hs2 : 1 ≤ S.size := by omega
  have hs3 : ((S.size : Int) == 0) = false := beq_eq_false_iff_ne.2 (by omega)
  have hs4 : S.size ≤ 2000 := by omega
  have DN := fun (W : World) => Lib.hid (zz64u_calls (w := W))
  clear hr6 ht hs hT h1 hn hb hl
  generalize tab64 alp117 64 = T at *
  go_enter Tryz.func36, Tryz.ntmps36
  go_wp2_with (first | (go_at_call 43; refine DR.out.mono ?_; rintro e w1 ⟨rfl, rfl⟩))
  go_region_with (first
    | (go_at_call 56; refine (DS.out _ gE C hb2 hC).mono ?_; rintro e w3 ⟨A, c, rfl, R3, k3⟩)
    | (go_at_call 55; refine (DN _).out.mono ?_; rintro e w2 ⟨gE, C, rfl, hg, hb2, hC, k2⟩))
  all_goals
    have HF := Lib.hid (show MbP w1 117 x (.returned (.tuple #[.int .i64 117, .slice A x.length c, Value.nilIface])) w3 from ⟨A, c, rfl, R3, ((Kp.refl _ _).drew.then k2).then k3⟩)
    generalize x.length = nd at *
    clear R3 k3 hb2 hC
    go_wp2
    go_ret3
    exact HF.out
end Go.Proofs.YtflafpklphgbpaaGreatDoor
