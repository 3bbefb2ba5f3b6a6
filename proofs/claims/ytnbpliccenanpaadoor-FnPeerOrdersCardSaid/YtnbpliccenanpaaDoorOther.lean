/- FnPeerOtherCid walked. -/
import Derived.Test.YtnbpliccenanpaaDoorCidB
import Derived.Test.YtnbpliccenanpaaDoorMade
import Derived.Test.YtnbpliccenanpaaDoorPeer
import Derived.Deep.Cut
import Derived.Deep.CutRange
namespace Go.Proofs.YtnbpliccenanpaaDoor
open Go Go.RowKit
set_option linter.unusedVariables false
set_option linter.unusedSimpArgs false
set_option maxRecDepth 100000

def NoPeer (w : World) (e : Ending) (w' : World) : Prop := e = .returned (.tuple #[.slice none 0 0, .bool false]) ∧ Kp no w w'
theorem ofCid_bad {w : World} {A : Option Addr} {n c : Nat} {l : List Int} (h : Rd w A n c l) (hn : n ≤ 1000000)
    (D : ∀ W A' c', Kp no w W → Rd W A' l.length c' l → Calls Tryd.prog 56 #[.slice A' l.length c'] W (CidBad W)) :
    Calls Tryd.prog 22 #[.slice A n c] w (NoPeer w) := by
  have D1 := Lib.hid (Clone_calls h (by omega))
  go_enter Tryd.func22, Tryd.ntmps22
  go_wp2_with (first
    | (go_at_call 13; refine D1.out.mono ?_; rintro e w1 ⟨A1, c1, rfl, M1⟩; have D2 := Lib.hid (cidCast_bad (w := w1) (fun W k => D W A1 c1 (M1.kp.then k) (M1.rd.keepN k))))
    | (go_at_call 39; refine D2.out.mono ?_; rintro e w2 ⟨t, x, rfl, k2⟩; have hlt := k2.size))
  go_ret2
  exact ⟨rfl, (M1.kp.then k2).alloc _⟩
theorem ofCid_other {w : World} {A : Option Addr} {n c : Nat} {l : List Int} {y : Int} (h : Rd w A n c l) (hn : n ≤ 1000000) (hy : y ≠ 114)
    (D : ∀ W A' c', Kp no w W → Rd W A' l.length c' l → Calls Tryd.prog 56 #[.slice A' l.length c'] W fun e w' => e = .returned (.tuple #[.int .i64 l.length, .agg #[.string (strOfNums l)], Value.nilIface]) ∧ Kp no W w')
    (T : ∀ W, Calls Tryd.prog 58 #[.agg #[.string (strOfNums l)]] W fun e w' => e = .returned (.int .u64 y) ∧ Kp no W w') :
    Calls Tryd.prog 22 #[.slice A n c] w (NoPeer w) := by
  have D1 := Lib.hid (Clone_calls h (by omega))
  have D3 := fun W => Lib.hid (fromCid_other (w := W) hy T)
  have D2' := fun w1 A1 c1 (M1 : MadeAt w w1 A1 c1 l) => Lib.hid (cidCast_good (w := w1) (fun W k => D W A1 c1 (M1.kp.then k) (M1.rd.keepN k)))
  clear D T
  generalize strOfNums l = S at *
  go_enter Tryd.func22, Tryd.ntmps22
  go_wp2_with (first
    | (go_at_call 13; refine D1.out.mono ?_; rintro e w1 ⟨A1, c1, rfl, M1⟩; have D2 := D2' w1 A1 c1 M1)
    | (go_at_call 39; refine D2.out.mono ?_; rintro e w2 ⟨rfl, k2⟩; have hlt := k2.size; have B2 := Blk.new w2 #[.string S] 62; have c2 := B2.cell 0)
    | (go_at_call 40; refine (D3 _).out.mono ?_; rintro e w3 ⟨t, x, rfl, k3⟩))
  go_ret2
  exact ⟨rfl, (((M1.kp.then k2).alloc _).then k3)⟩
/-- Bytes that are torn out of a CID's head are no CID. -/
theorem cidFrom_torn {l : List Int} (hl : l = [] ∨ l = [1] ∨ ∃ p, l = 1 :: 114 :: p ∧ MH p = none) {w : World} (hE : MErrs w) (hn : l.length ≤ 1000000) :
    ∀ W A' c', Kp no w W → Rd W A' l.length c' l → Calls Tryd.prog 56 #[.slice A' l.length c'] W (CidBad W) := by
  intro W A' c' k h
  rcases hl with rfl | rfl | ⟨p, rfl, hm⟩
  · exact cidFrom_bad1 h (hE.keepN k) (by simp) FU_nil
  · exact cidFrom_bad2 h (hE.keepN k)
  · exact cidFrom_bad3 h (hE.keepN k) (by omega) (by omega) (by omega) hm

/-! ### The IDs that the reference makes are multihashes, and no beginnings of such -/
theorem FU_of_small {x : Int} (r : List Int) (h0 : 0 ≤ x) (h1 : x < 128) : FU (x :: r) = some (x, 1) := FU_small r h0 h1
theorem MH_two {a b : Int} {r : List Int} (a0 : 0 ≤ a) (a1 : a < 128) (b0 : 0 ≤ b) (b1 : b < 128) : MH (a :: b :: r) = if b ≤ (r.length : Int) then some (a, 2 + b) else none := by
  rw [MH_if (FU_small (b :: r) a0 a1) (h2 := FU_small r b0 b1)]
  simp only [List.length_cons]
  by_cases h : b ≤ (r.length : Int)
  · rw [if_pos ⟨by omega, by omega⟩, if_pos h]; congr 2
  · rw [if_neg (by omega), if_neg h]
theorem FU_big (r : List Int) : FU (178 :: 144 :: 64 :: r) = some (1050674, 3) := by
  have hr : rv 10 (178 :: 144 :: 64 :: r) = some (1050674, 3) := by simp [rv]
  have hv : vint 1050674 = [178, 144, 64] := by simp [vint, vi]
  unfold FU
  rw [hr]
  simp [hv]
theorem PM.isMH {k : Int} {l : List Int} (h : PM k l) : IsMH l := by
  rcases h with ⟨_, S, hS, hb, rfl⟩ | ⟨_, S, hS, hb, rfl⟩ | ⟨_, S, hS, hb, rfl⟩
  · exact ⟨18, by rw [MH_two (by omega) (by omega) (by omega) (by omega), if_pos (by omega)]; simp [hS]⟩
  · exact ⟨0, by rw [MH_two (by omega) (by omega) (by omega) (by omega), if_pos (by omega)]; simp; omega⟩
  · refine ⟨1050674, ?_⟩
    rw [MH_if (FU_big _) (a := 16) (m := 1) (h2 := by exact FU_small _ (by omega) (by omega)), if_pos ⟨by omega, by simp [hS]⟩]
    simp [hS]
theorem FU_one178 : FU [178] = none := by simp [FU, rv]
theorem FU_two178 : FU [178, 144] = none := by simp [FU, rv]
theorem PM.torn {k : Int} {l : List Int} (h : PM k l) (j : Nat) (hj : j < l.length) : MH (l.take j) = none := by
  have hbt := h.byt
  rcases h with ⟨_, S, hS, hb, rfl⟩ | ⟨_, S, hS, hb, rfl⟩ | ⟨_, S, hS, hb, rfl⟩
  · match j, hj with
    | 0, _ => exact MH_none1 FU_nil
    | 1, _ => exact MH_none2 (FU_small [] (by omega) (by omega)) FU_nil
    | j + 2, hj =>
      simp only [List.length_cons] at hj
      show MH (18 :: 32 :: S.take j) = none
      rw [MH_two (by omega) (by omega) (by omega) (by omega), if_neg (by simp; omega)]
  · match j, hj with
    | 0, _ => exact MH_none1 FU_nil
    | 1, _ => exact MH_none2 (FU_small [] (by omega) (by omega)) FU_nil
    | j + 2, hj =>
      simp only [List.length_cons] at hj
      show MH (0 :: (S.length : Int) :: S.take j) = none
      rw [MH_two (by omega) (by omega) (by omega) (by omega), if_neg (by simp; omega)]
  · match j, hj with
    | 0, _ => exact MH_none1 FU_nil
    | 1, _ => exact MH_none1 FU_one178
    | 2, _ => exact MH_none1 FU_two178
    | 3, _ => exact MH_none2 (FU_big []) FU_nil
    | j + 4, hj =>
      simp only [List.length_cons] at hj
      show MH (178 :: 144 :: 64 :: 16 :: S.take j) = none
      rw [MH_if (FU_big _) (a := 16) (m := 1) (h2 := by exact FU_small _ (by omega) (by omega)), if_neg (by simp; omega)]
theorem PM.tornCid {k : Int} {l : List Int} (h : PM k l) (j : Nat) (hj : j < l.length + 2) : (1 :: 114 :: l).take j = [] ∨ (1 :: 114 :: l).take j = [1] ∨ ∃ p, (1 :: 114 :: l).take j = 1 :: 114 :: p ∧ MH p = none := by
  match j, hj with
  | 0, _ => exact .inl rfl
  | 1, _ => exact .inr (.inl rfl)
  | j + 2, hj => exact .inr (.inr ⟨l.take j, rfl, h.torn j (by omega)⟩)

theorem sCid_calls {w : World} {A : Option Addr} {n c : Nat} {l : List Int} (h : Rd w A n c l) (hn : n ≤ 1000000) :
    Calls Tryd.prog 21 #[.slice A n c] w (MadeN w (1 :: 114 :: l)) := by
  have hb2 : Byt [1, 114] := fun x hx => by simp at hx; omega
  have HO := Own.lit w 5 w.heap.size [1, 114] (Nat.le_refl _) hb2 (by simp)
  have ka : Kp no w (w.alloc (.cells (nums .u8 [1, 114]).toArray 5)) := (Kp.refl _ _).alloc _
  have HR := h.keepN ka
  go_enter Tryd.func21, Tryd.ntmps21
  go_wp2_with (first | (at_builtin; refine own_append w.heap.size rfl (.tmp 3) (.tmp 4) 22 5 rfl Tryd.und_bytes Tryd.info_byte (.slice (some ⟨w.heap.size, 0, none⟩) 2 2) [1, 114] l A n c rfl rfl HO HR (by simp) (by simp; omega) ?_; intro v1 w1 O1 hk1 _ hnn))
  go_ret
  exact MadeN.of O1 (ka.own HO (Nat.le_refl _) hk1) (hnn (by simp))

set_option maxHeartbeats 4000000 in
theorem fnPeerOtherCid_calls {w : World} (H : List Int) (hH : H.length = 32) (hb : Byt H) (k cd at_ : Int) (hk : 0 ≤ k ∧ k < 256) (hc : 0 ≤ cd ∧ cd < 256) (ha : 0 ≤ at_ ∧ at_ < 256) (hE : MErrs w) :
    Calls Tryd.prog 6 #[.agg (nums .u8 H).toArray, .int .u8 k, .int .u8 cd, .int .u8 at_] w (LawOk w) := by
  have BX := Blk.new w (nums .u8 H).toArray 31
  have kb : Kp no w (w.alloc (.cells (nums .u8 H).toArray 31)) := (Kp.refl _ _).alloc _
  have D1 := Lib.hid (PeerMade_calls (w := w.alloc (.cells (nums .u8 H).toArray 31)) H hH hb k hk.1 hk.2)
  have HH := Lib.hid hH
  have HB := Lib.hid hb
  have hD9 := fun W => Lib.hid (PeerMade_calls (w := W) H hH hb 0 (by omega) (by omega))
  clear hH hb
  go_enter Tryd.func6, Tryd.ntmps6
  go_wp2_with (first
    | (refine wpList_load_mid rfl 31 (.tmp 4) rfl w.heap.size 0 rfl (nums .u8 H) (.array 32 5) (Blk.range BX) Tryd.underlying31 rfl (by rw [nums_length, HH.out]; exact infoB32) ?_))
  refine D1.out.mono ?_
  rintro e w1 ⟨A1, c1, l, hp, rfl, M1⟩
  have HP := Lib.hid hp
  have hl := hp.len
  clear hp
  have k1 := kb.then M1.kp
  have D2 := Lib.hid (sCid_calls M1.rd (by omega))
  go_wp2_with (fail)
  refine D2.out.mono ?_
  rintro e w2 ⟨ad2, c2, rfl, M2⟩
  have k2 := k1.then M2.kp
  obtain ⟨g2, hg2⟩ := M2.own.form (by simp)
  obtain ⟨Z, hZ⟩ : ∃ Z, Z = 1 :: 114 :: l := ⟨_, rfl⟩
  rw [← hZ] at M2 ⊢
  have hZl : Z.length = l.length + 2 := by rw [hZ]; simp
  have HZ := Lib.hid hZ
  clear hZ
  rw [hg2] at M2 ⊢
  clear hg2
  have hzl2 : Z.length ≤ 36 := by omega
  have hzl3 : 4 ≤ Z.length := by omega
  have HZL := Lib.hid hZl
  clear hZl
  generalize hq : Z.length = q at *
  have HQ := Lib.hid hq
  clear hq
  obtain ⟨J, hJ⟩ : ∃ J : Nat, at_ % (q : Int) = J := ⟨(at_ % (q : Int)).toNat, by have := Int.emod_nonneg at_ (show (q : Int) ≠ 0 by omega); omega⟩
  have hJ1 : (J : Int) < q := by rw [← hJ]; exact Int.emod_lt_of_pos _ (by omega)
  have RJ := M2.rd.take J (by rw [HQ.out]; omega)
  have hct := cutTo (P := Tryd.prog) Tryd.und_bytes Tryd.size_byte (some ⟨g2, 0, none⟩) q c2 .i64 J (by omega) (by omega) (by have := M2.rd.cap; rw [HQ.out] at this; exact this)
  rw [show (J : Int).toNat = J from by simp] at hct
  have hJ3 : (0 : Int) ≤ J := by omega
  have hJ4 : (J : Int) ≤ q := by omega
  have ha0 := ha.1
  have ha1 := ha.2
  have hqz : ¬ (q : Int) = 0 := by omega
  have hqp : (0 : Int) < q := by omega
  have D3 := Lib.hid (Clone_calls RJ (by omega))
  go_wp2_with (fail)
  refine D3.out.mono ?_
  rintro e w3 ⟨A3, c3, rfl, M3⟩
  have k3 := k2.then M3.kp
  have HT := Lib.hid (show Z.take J = [] ∨ Z.take J = [1] ∨ ∃ p, Z.take J = 1 :: 114 :: p ∧ MH p = none from by
    rw [HZ.out]; exact HP.out.tornCid J (by have := HZL.out; have := HQ.out; omega))
  have htl : (Z.take J).length ≤ 1000000 := by simp; have := HQ.out; omega
  have D4 := Lib.hid (ofCid_bad M3.rd htl (fun W A' c' k r => cidFrom_torn HT.out (hE.keepN k3) htl W A' c' k r))
  clear htl
  generalize hT : Z.take J = T at *
  have HTT := Lib.hid hT
  clear hT
  go_wp2_with (fail)
  refine D4.out.mono ?_
  rintro e w4 ⟨rfl, hk4⟩
  have k4 := k3.then hk4
  have O4 := M2.own.keepN (M3.kp.then hk4)
  go_upto_if 37 with (fail)
  go_cut [2] from 36 to 37 (fun v wx => ∃ y : Int, v = .int .u8 y ∧ y ≠ 114 ∧ 0 ≤ y ∧ y < 128 ∧ wx = w4)
  case first =>
    by_cases h7 : cd % 128 = 114
    · go_wp2
      go_meet
      case rel => exact ⟨112, rfl, by omega, by omega, by omega, rfl⟩
    · have h7b : (cd % 128 == 114) = false := beq_eq_false_iff_ne.2 h7
      go_wp2
      go_meet
      case rel => exact ⟨cd % 128, rfl, h7, by omega, by omega, rfl⟩
  case rest =>
    obtain ⟨y, rfl, hy, y0, y1, rfl⟩ := hcut
    have c4 := O4.cellAt 1 (by have := HQ.out; omega)
    have f4 := O4.freeAt 1
    have O5 := O4.set 1 y y0 (by omega)
    have HZ5 := Lib.hid (show Z.set 1 y = 1 :: y :: l from by rw [HZ.out]; rfl)
    rw [HZ5.out] at O5
    generalize Z.getD 1 0 = z1 at *
    have hge : w.heap.size ≤ g2 := by have := (M2.own.base g2 rfl).1; have := k1.size; omega
    have k5 : Kp no w (wc.setCell ⟨g2, 1, none⟩ (.int .u8 y)) := k4.setCell (p := ⟨g2, 1, none⟩) (fun hh => by have hh : g2 < w.heap.size := hh; omega) _
    have hg0 : w.heap.size ≠ g2 := by have := (M2.own.base g2 rfl).1; have := M1.kp.size; simp at this; omega
    have BX5 : Blk (wc.setCell ⟨g2, 1, none⟩ (.int .u8 y)) w.heap.size (nums .u8 H).toArray 31 := ((((BX.keepN M1.kp).keepN M2.kp).keepN M3.kp).keepN hk4).far (p := ⟨g2, 1, none⟩) hg0 _
    obtain ⟨A5, c5, h5, R5, _, _⟩ := O5.rd
    injection h5 with h5 h5l h5'
    subst h5 h5'
    have hq2 : (1 :: y :: l).length = q := by have := HZL.out; simp; omega
    rw [hq2] at R5
    have hq1 : 1 < q := by omega
    clear h5l
    obtain ⟨w5, hw5⟩ : ∃ w5, w5 = wc.setCell ⟨g2, 1, none⟩ (.int .u8 y) := ⟨_, rfl⟩
    rw [← hw5] at R5 BX5 k5
    have HW5 := Lib.hid hw5
    have D6 := Lib.hid (ofCid_other (y := y) R5 (by omega) hy
      (fun W A' c' k r => cidFrom_good r (hE.keepN (k5.then k)) (by simp; omega) y0 y1 HP.out.isMH (by omega))
      (fun W => type1_calls R5.byt (by omega) y1))
    go_wp2_with (fail)
    rw [← HW5.out]
    refine D6.out.mono ?_
    rintro e w6 ⟨rfl, hk6⟩
    have BX6 := BX5.keepN hk6
    have k6 := k5.then hk6
    clear D6 R5
    go_wp2_with (first
      | (refine wpList_load_mid rfl 31 (.tmp 4) rfl w.heap.size 0 rfl (nums .u8 H) (.array 32 5) (Blk.range BX6) Tryd.underlying31 rfl (by rw [nums_length, HH.out]; exact infoB32) ?_))
    refine (hD9 w6).out.mono ?_
    rintro e w7 ⟨A7, c7, l7, hp7, rfl, M7⟩
    have k7 := k6.then M7.kp
    obtain ⟨S7, hS7, hb7, rfl⟩ : ∃ S : List Int, S.length = 32 ∧ Byt S ∧ l7 = 18 :: 32 :: S := by
      rcases hp7 with ⟨_, S, h1, h2, h3⟩ | ⟨h1, _⟩ | ⟨h1, _⟩
      · exact ⟨S, h1, h2, h3⟩
      · omega
      · omega
    have HS7 := Lib.hid hS7
    have HP7 := Lib.hid hp7
    have D8 := Lib.hid (ofCid_other (y := 112) M7.rd (by simp; omega) (by omega)
      (fun W A' c' k r => by
        have e34 : (18 :: 32 :: S7).length = 34 := by simp; exact HS7.out
        rw [e34] at r ⊢
        exact cidFrom_v0 r (hE.keepN (k7.then k)) HP7.out.isMH)
      (fun W => type0_calls HP7.out.byt HS7.out))
    clear hS7 hp7
    have DL := fun W (k : Kp no w W) => Lib.hid (peersLive_calls (hE.keepN k))
    generalize hz7 : (18 :: 32 :: S7) = Z7 at *
    go_wp2_with (fail)
    refine D8.out.mono ?_
    rintro e w8 ⟨rfl, hk8⟩
    have k8 := k7.then hk8
    go_wp2_with (fail)
    refine (DL w8 k8).out.mono ?_
    rintro e w9 ⟨rfl, hk9⟩
    go_wp2
    go_ret
    exact ⟨rfl, k8.then hk9⟩
end Go.Proofs.YtnbpliccenanpaaDoor
