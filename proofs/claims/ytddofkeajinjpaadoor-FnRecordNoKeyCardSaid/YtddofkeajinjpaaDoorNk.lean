/- FnRecordNoKey. -/
import Derived.Test.YtddofkeajinjpaaDoorNkA
import Derived.Test.YtddofkeajinjpaaDoorAwA
namespace Go.Proofs.YtddofkeajinjpaaDoor
open Go Go.RowKit
set_option linter.unusedVariables false
set_option linter.unusedSimpArgs false
set_option maxRecDepth 100000

def LawOk (w : World) (e : Ending) (w' : World) : Prop := e = .returned (.bool true) ∧ Kp no w w'
/-- An envelope without a key that is one is not opened. -/
theorem opened_none {w : World} {A : Option Addr} {n c : Nat} {l d ty pl sg K dl : List Int} {k : Int} (h : Rd w A n c l) (hn : n ≤ 1000000) (hW : OpW w K)
    (hst : efin (whole estep l ES.zero) = .ok ⟨some (some k, some d), ty, pl, sg⟩) (hd : d.length ≤ 300) (ht : ty.length ≤ 1000) (hp : pl.length ≤ 10000) (hdl : Byt dl) (hdn : dl.length ≤ 1000)
    (hno : ¬ (0 ≤ k ∧ k ≤ 3 ∧ 0 < d.length)) :
    Calls Tryd.prog 16 #[.slice A n c, .string (strOfNums dl)] w fun e w' => e = .returned (.tuple #[.slice none 0 0, .bool false]) ∧ Kp no w w' :=
  (opened_calls h hn hW hst hd ht hp hdl hdn).mono fun e w' hh => by
    unfold OpP at hh
    rw [decide_eq_false hno] at hh
    simp only [Bool.false_and, Bool.false_eq_true, if_false] at hh
    exact ⟨hh.2, hh.1⟩

set_option maxHeartbeats 16000000 in
theorem fnRecordNoKey_calls {w : World} {K : List Int} {A1 A2 A3 : Option Addr} {c1 c2 c3 n : Nat} {da ta pa dt : List Int} {k : Int} (hda : Byt da) (ra1 : Rd w A1 ta.length c1 ta) (ra2 : Rd w A2 pa.length c2 pa) (rd' : Rd w A3 n c3 dt) (hW : OpW w K) :
    Calls Tryd.prog 3 #[.agg #[.string (strOfNums da), .slice A1 ta.length c1, .slice A2 pa.length c2], .int .i32 k, .slice A3 n c3] w (LawOk w) := by
  have hnl := rd'.len
  have rd : Rd w A3 dt.length c3 dt := by rw [hnl]; exact rd'
  rw [← hnl]
  clear rd' hnl
  have k0 : Kp no w (w.alloc (.cells #[.string (strOfNums da), .slice A1 ta.length c1, .slice A2 pa.length c2] 24)) := (Kp.refl _ _).alloc _
  have hbx := Blk.new w #[.string (strOfNums da), .slice A1 ta.length c1, .slice A2 pa.length c2] 24
  have sa := strOfNums_size da
  have HB := Lib.hid (fun W (k : Kp no (w.alloc (.cells #[.string (strOfNums da), .slice A1 ta.length c1, .slice A2 pa.length c2] 24)) W) => And.intro ((hbx.keepN k).cell 0) (And.intro ((hbx.keepN k).cell 1) ((hbx.keepN k).cell 2)))
  have FA := Lib.hid (fun W => zzFits6_calls (w := W) (strOfNums da) A1 A2 ta.length c1 pa.length c2)
  have SA := Lib.hid (fun W => recordShort_none (w := W) (strOfNums da) A1 A2 ta.length c1 pa.length c2)
  have AW := Lib.hid (fun W (k : Kp no w W) => awake_calls (hW.keepN k))
  rw [sa] at SA
  have RU := Lib.hid (fun W (k : Kp no w W) (z : da.length ≤ 200 ∧ ta.length ≤ 200 ∧ pa.length ≤ 1000) => recordUnsigned_calls (w := W) hda (by omega) (ra1.keepN k) (by omega) (ra2.keepN k) (by omega))
  have HUL := Lib.hid (show da.length ≤ 200 ∧ ta.length ≤ 200 ∧ pa.length ≤ 1000 → (uns da ta pa).length ≤ 100000 from fun z => by
    have a1 := part_len da; have a2 := part_len ta; have a3 := part_len pa
    have v1 := vint_len (da.length : Int); have v2 := vint_len (ta.length : Int); have v3 := vint_len (pa.length : Int)
    unfold uns; simp only [List.length_append]; omega)
  have SG := Lib.hid (fun W (kk : Kp no w W) Q qc (RQ : Rd W Q (uns da ta pa).length qc (uns da ta pa)) (z : da.length ≤ 200 ∧ ta.length ≤ 200 ∧ pa.length ≤ 1000) (z2 : dt.length ≤ 100) => recordSignature_calls (k := k) (rd.keepN kk) (by omega) RQ (HUL.out z))
  have EN := Lib.hid (fun W (kk : Kp no w W) S C (hS : List.length S = 32) (RS : Rd W C 32 32 S) (z : da.length ≤ 200 ∧ ta.length ≤ 200 ∧ pa.length ≤ 1000) (z2 : dt.length ≤ 100) (q0 : 0 ≤ k) (q1 : k ≤ 127) =>
    show Calls Tryd.prog 15 #[.agg #[.int .i32 k, .slice A3 dt.length c3], .slice A1 ta.length c1, .slice A2 pa.length c2, .slice C 32 32] W (Made W (ebb k dt ta pa S)) from by
      have := recordEnvelope_calls (sg := S) (D := C) (f := 32) q0 q1 (rd.keepN kk) (by omega) (ra1.keepN kk) (by omega) (ra2.keepN kk) (by omega) (by rw [hS]; exact RS) (by omega)
      rw [hS] at this
      exact this)
  have OP := Lib.hid (fun W (kk : Kp no w W) S E ec (hS : List.length S = 32) (hSb : Byt S) (RE : Rd W E (ebb k dt ta pa S).length ec (ebb k dt ta pa S)) (z : da.length ≤ 200 ∧ ta.length ≤ 200 ∧ pa.length ≤ 1000) (z2 : dt.length ≤ 100) (q0 : 0 ≤ k) (q1 : k ≤ 127) (q2 : ¬ (k ≤ 3 ∧ 0 < dt.length)) =>
    opened_none RE (by have := (efin_ebb q0 q1 rd.byt ra1.byt ra2.byt hSb (by omega) (by omega) (by omega) (by omega)).2.2; omega) (hW.keepN kk) (efin_ebb q0 q1 rd.byt ra1.byt ra2.byt hSb (by omega) (by omega) (by omega) (by omega)).1 (by omega) (by omega) (by omega) hda (by omega) (fun h => q2 h.2))
  clear ra1 ra2 rd hW hda hbx sa
  generalize uns da ta pa = U at *
  obtain ⟨m, hm⟩ : ∃ m, m = dt.length := ⟨_, rfl⟩
  rw [← hm] at SG EN OP ⊢
  have HM := Lib.hid hm
  clear hm
  obtain ⟨x0, x1, x2⟩ := HB.out _ (Kp.refl _ _)
  go_enter Tryd.func3, Tryd.ntmps3
  go_upto_region 1 with (fail)
  generalize w.alloc (.cells #[.string (strOfNums da), .slice A1 ta.length c1, .slice A2 pa.length c2] 24) = W0 at *
  have E1 := Lib.hid (FA.out W0)
  go_wp2_with (fail)
  refine E1.out.mono ?_
  rintro e w1 ⟨k1, q, rfl, _⟩
  clear x0 x1 x2
  obtain ⟨x0, x1, x2⟩ := HB.out w1 k1
  cases q
  · go_wp2
    go_ret
    exact ⟨rfl, k0.then k1⟩
  by_cases hbig : (2147483647 : Int) < (m : Int)
  · go_wp2
    go_ret
    exact ⟨rfl, k0.then k1⟩
  have hbd : decide ((2147483647 : Int) < (m : Int)) = false := decide_eq_false hbig
  clear hbig
  go_upto_region 3 with (fail)
  have E3 := Lib.hid (SA.out w1)
  go_cut [2, 15, 16, 47] from 19 to 46 (fun v2 v15 v16 v wx => v2 = .slice A3 m c3 ∧ v15 = .slice A3 m c3 ∧ v16 = .int .i64 m ∧ ∃ t, v = .bool t ∧ (t = false → (da.length ≤ 200 ∧ ta.length ≤ 200 ∧ pa.length ≤ 1000) ∧ m ≤ 100 ∧ 0 ≤ k ∧ k ≤ 127 ∧ ¬ (k ≤ 3 ∧ 0 < m)) ∧ Kp no W0 wx)
  case first =>
    go_wp2_with (fail)
    refine E3.out.mono ?_
    rintro e w3 ⟨k3', q, rfl, zA⟩
    have k3 := k1.then k3'
    clear x0 x1 x2 hbd
    cases q
    · clear zA
      go_wp2
      go_meet
      case rel => exact ⟨rfl, rfl, rfl, true, rfl, (fun h => Bool.noConfusion h), k3⟩
    have ZA := Lib.hid (zA rfl)
    clear zA
    have HQ := Lib.hid (show ∀ b1 b2 b3 b4 b5 b6 : Bool, decide ((100 : Int) < (m : Int)) = b1 → decide (0 ≤ k) = b2 → decide (k ≤ 3) = b3 → decide (0 < m) = b4 → decide (k < 0) = b5 → decide (127 < k) = b6 →
      (b1 = false ∧ (b2 = false ∨ b3 = false ∨ b4 = false) ∧ b5 = false ∧ b6 = false) → m ≤ 100 ∧ 0 ≤ k ∧ k ≤ 127 ∧ ¬ (k ≤ 3 ∧ 0 < m) from by
        intro b1 b2 b3 b4 b5 b6 h1 h2 h3 h4 h5 h6 ⟨e1, e2, e5, e6⟩
        subst e1 e5 e6
        have g1 := of_decide_eq_false h1
        have g5 := of_decide_eq_false h5
        have g6 := of_decide_eq_false h6
        refine ⟨by omega, by omega, by omega, fun ⟨z1, z2⟩ => ?_⟩
        rcases e2 with rfl | rfl | rfl
        · have := of_decide_eq_false h2; omega
        · have := of_decide_eq_false h3; omega
        · have := of_decide_eq_false h4; omega)
    obtain ⟨b1, g1⟩ : ∃ b, decide ((100 : Int) < (m : Int)) = b := ⟨_, rfl⟩
    obtain ⟨b2, g2⟩ : ∃ b, decide (0 ≤ k) = b := ⟨_, rfl⟩
    obtain ⟨b3, g3⟩ : ∃ b, decide (k ≤ 3) = b := ⟨_, rfl⟩
    obtain ⟨b4, g4⟩ : ∃ b, decide (0 < m) = b := ⟨_, rfl⟩
    obtain ⟨b5, g5⟩ : ∃ b, decide (k < 0) = b := ⟨_, rfl⟩
    obtain ⟨b6, g6⟩ : ∃ b, decide (127 < k) = b := ⟨_, rfl⟩
    have HF := Lib.hid (HQ.out b1 b2 b3 b4 b5 b6 g1 g2 g3 g4 g5 g6)
    clear HQ
    cases b1 <;> cases b2 <;> cases b3 <;> cases b4 <;> cases b5 <;> cases b6
    all_goals
      go_wp2
      go_meet
      case rel =>
        first
        | exact ⟨rfl, rfl, rfl, true, rfl, (fun h => Bool.noConfusion h), k3⟩
        | exact ⟨rfl, rfl, rfl, false, rfl, (fun _ => ⟨ZA.out, HF.out (by decide)⟩), k3⟩
        | exact ⟨by simp [*], by simp [*], by simp [*], true, rfl, (fun h => Bool.noConfusion h), k3⟩
        | exact ⟨by simp [*], by simp [*], by simp [*], false, rfl, (fun _ => ⟨ZA.out, HF.out (by decide)⟩), k3⟩
  case rest =>
    obtain ⟨rfl, rfl, rfl, t, rfl, ht, k3⟩ := hcut
    clear x0 x1 x2 hbd
    cases t
    · obtain ⟨zz, z2, q0, q1, q2⟩ := ht rfl
      have Z := Lib.hid (And.intro zz (And.intro z2 (And.intro q0 (And.intro q1 q2))))
      clear zz z2 q0 q1 q2 ht
      obtain ⟨x0, x1, x2⟩ := HB.out wc k3
      have E5 := Lib.hid (RU.out wc (k0.then k3) Z.out.1)
      go_wp2_with (fail)
      refine E5.out.mono ?_
      rintro e w5 ⟨Q, qc, rfl, M5⟩
      have k5 := k3.then M5.kp
      have E6 := Lib.hid (SG.out w5 (k0.then k5) Q qc M5.rd Z.out.1 (by have := HM.out; have := Z.out.2.1; omega))
      clear x0 x1 x2
      obtain ⟨x0, x1, x2⟩ := HB.out w5 k5
      go_wp2_with (fail)
      refine E6.out.mono ?_
      rintro e w6 ⟨S, C, hS, hSb, rfl, RS, k6'⟩
      have k6 := k5.then k6'
      have HS := Lib.hid hS
      have HSB := Lib.hid hSb
      have E7 := Lib.hid (EN.out w6 (k0.then k6) S C hS RS Z.out.1 (by have := HM.out; have := Z.out.2.1; omega) Z.out.2.2.1 Z.out.2.2.2.1)
      clear hS hSb RS x0 x1 x2
      obtain ⟨x0, x1, x2⟩ := HB.out w6 k6
      go_wp2_with (fail)
      refine E7.out.mono ?_
      rintro e w7 ⟨E, ec, rfl, M7⟩
      have k7 := k6.then M7.kp
      have E8 := Lib.hid (OP.out w7 (k0.then k7) S E ec HS.out HSB.out M7.rd Z.out.1 (by have := HM.out; have := Z.out.2.1; omega) Z.out.2.2.1 Z.out.2.2.2.1 Z.out.2.2.2.2)
      clear x0 x1 x2
      obtain ⟨x0, x1, x2⟩ := HB.out w7 k7
      generalize ebb k dt ta pa S = EB at *
      go_wp2_with (fail)
      refine E8.out.mono ?_
      rintro e w8 ⟨rfl, k8'⟩
      have k8 := k7.then k8'
      have E9 := Lib.hid (AW.out w8 (k0.then k8))
      go_wp2_with (fail)
      refine E9.out.mono ?_
      rintro e w9 ⟨rfl, k9⟩
      go_wp2
      go_ret
      exact ⟨rfl, k0.then (k8.then k9)⟩
    · clear ht
      have E4 := Lib.hid (AW.out wc (k0.then k3))
      go_wp2_with (fail)
      refine E4.out.mono ?_
      rintro e w4 ⟨rfl, k4⟩
      go_wp2
      go_ret
      exact ⟨rfl, k0.then (k3.then k4)⟩
end Go.Proofs.YtddofkeajinjpaaDoor
