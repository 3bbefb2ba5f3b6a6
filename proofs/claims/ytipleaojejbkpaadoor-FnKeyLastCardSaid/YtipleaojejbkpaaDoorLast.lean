/- FnKeyLast walked. -/
import Derived.Test.YtipleaojejbkpaaDoorRead
import Derived.Test.YtipleaojejbkpaaDoorPlain
namespace Go.Proofs.YtipleaojejbkpaaDoor
open Go Go.RowKit
set_option linter.unusedVariables false
set_option linter.unusedSimpArgs false
set_option maxRecDepth 100000

set_option maxHeartbeats 4000000 in
theorem fnKeyLast_calls {w : World} {A A' : Option Addr} {n c n' c' : Nat} {l m : List Int} (k o : Int) (b : Bool) (h : Rd w A n c l) (h' : Rd w A' n' c' m)
    (hk : -2147483648 ≤ k ∧ k ≤ 2147483647) (ho : -2147483648 ≤ o ∧ o ≤ 2147483647) (hE : KErrs w) :
    Calls Tryd.prog 5 #[.int .i32 k, .int .i32 o, .slice A n c, .slice A' n' c', .bool b] w (LawOk w) := by
  have DL := Lib.hid (keysLive_calls hE)
  obtain rfl := h.len
  obtain rfl := h'.len
  have hmax := h.max
  have hcap := h.cap
  have hmax' := h'.max
  have hcap' := h'.cap
  have hsplit : (2147483647 < (l.length : Int) ∨ ((l.length : Int) ≤ 2147483647 ∧ 2147483647 < (m.length : Int))) ∨ (((300 < (l.length : Int) ∧ (l.length : Int) ≤ 2147483647) ∨ ((l.length : Int) ≤ 300 ∧ 300 < (m.length : Int))) ∧ (l.length : Int) ≤ 2147483647 ∧ (m.length : Int) ≤ 2147483647) ∨ ((l.length : Int) ≤ 300 ∧ (m.length : Int) ≤ 300) := by omega
  rcases hsplit with hbig | ⟨hmid, hs1, hs2⟩ | ⟨hs1, hs2⟩
  · clear h h'
    rcases hbig with hbig | ⟨hbig, hbig'⟩
    all_goals
      go_enter Tryd.func5, Tryd.ntmps5
      go_wp2
      go_ret
      exact ⟨rfl, Kp.refl _ _⟩
  · clear h h'
    rcases hmid with ⟨hbig, hbig'⟩ | ⟨hbig, hbig'⟩
    all_goals
      go_enter Tryd.func5, Tryd.ntmps5
      go_wp2_with (first | (go_at_call 19; refine DL.out.mono ?_; rintro e w2 ⟨rfl, hk2⟩))
      go_ret
      exact ⟨rfl, hk2⟩
  have hlb : l.length ≤ 300 := by omega
  have hmb : m.length ≤ 300 := by omega
  have D1 := Lib.hid (sKeyBytes_calls h' (by omega) o ho.1 ho.2)
  go_enter Tryd.func5, Tryd.ntmps5
  go_wp2_with (fail)
  refine D1.out.mono ?_
  rintro e w1 ⟨A1, c1, rfl, M1⟩
  have D2 := Lib.hid (sKeyBytes_calls (h.keepN M1.kp) (by omega) k hk.1 hk.2)
  go_wp2_with (fail)
  refine D2.out.mono ?_
  rintro e w2 ⟨A2, c2, rfl, M2⟩
  have k2 : Kp no w w2 := M1.kp.then M2.kp
  have R1 := M1.rd.keepN M2.kp
  cases b with
  | false =>
    obtain ⟨Z, hZ0⟩ : ∃ Z, Z = kb o m ++ kb k l := ⟨_, rfl⟩
    have hZ := Lib.hid hZ0
    have hZl : Z.length ≤ 700 := by
      have := kb_len o m; have := kb_len k l; have := wb_len 2 l; have := (vint_len l.length).2; have := (vint_len (ku k)).2
      rw [hZ0]; simp only [List.length_append, List.length_cons, List.length_nil]; omega
    have hZf : ([kb o m, kb k l] : List (List Int)).flatten = Z := by rw [hZ0]; simp only [List.flatten_cons, List.flatten_nil, List.append_nil]
    have hZs : ([kb o m, kb k l] : List (List Int)).flatten.length ≤ 1099511627776 := by rw [hZf]; omega
    clear hZ0
    have D6 := Lib.hid (Concat_to (l := Z) (RdS.lit w2 24 [⟨A1, _, c1, kb o m⟩, ⟨A2, _, c2, kb k l⟩] (by
      intro s hs
      simp only [List.mem_cons, List.not_mem_nil, or_false] at hs
      rcases hs with rfl | rfl
      · exact R1
      · exact M2.rd) (by simp)) hZs hZf)
    clear hZs hZf
    go_wp2_with (fail)
    refine D6.out.mono ?_
    rintro e w6 ⟨A6, c6, rfl, M6⟩
    have k6 : Kp no w w6 := (k2.alloc _).then M6.kp
    have D7 := Lib.hid (KeyOf_calls M6.rd (by omega) (hE.keepN k6))
    go_wp2_with (fail)
    refine D7.out.mono ?_
    rintro e w7 ⟨hk7, k', A7, c7, d, ok, rfl, R7, r0', r1', hK⟩
    rw [hZ.out] at hK
    obtain ⟨rfl, rfl, rfl⟩ := KRes_last hK ho.1 ho.2 hk.1 hk.2 h'.byt (by omega) h.byt (by omega)
    have k7 := k6.then hk7
    have D8 := Lib.hid (Equal_same R7 (h.keepN k7))
    have DL := Lib.hid (keysLive_calls (hE.keepN k7))
    go_wp2_with (fail)
    refine D8.out.mono ?_
    rintro e w8 ⟨rfl, rfl⟩
    go_wp2_with (first | (go_at_call 19; refine DL.out.mono ?_; rintro e w9 ⟨rfl, hk9⟩))
    go_ret
    exact ⟨rfl, k7.then hk9⟩
  | true =>
    have hx0 : (1 + (vint (ku k)).length : Nat) ≤ (kb k l).length := by simp only [kb, List.length_append, List.length_cons, List.length_nil]; omega
    have D3 := sKeyKind_calls (w := w2) k hk.1 hk.2
    obtain ⟨j, hj⟩ : ∃ j : Int, ((1 + (vint (ku k)).length : Nat) : Int) = j := ⟨_, rfl⟩
    rw [hj] at D3
    have hjn : j.toNat = 1 + (vint (ku k)).length := by omega
    have HJ := Lib.hid hjn
    have hj0 : 0 ≤ j := by omega
    have hj1 : j ≤ ((kb k l).length : Int) := by omega
    clear hj hjn hx0
    have D3 := Lib.hid D3
    go_wp2_with (fail)
    refine D3.out.mono ?_
    rintro e w3 ⟨rfl, k23⟩
    have k3 := k2.then k23
    have R2 := M2.rd.keepN k23
    have R13 := R1.keepN k23
    obtain ⟨A4, R4, _, _, hcut1⟩ := R2.cutFrom Tryd.und_bytes Tryd.size_byte .i64 j hj0 hj1
    have R5 := R2.take j.toNat (by omega)
    have hcut2 := cutTo Tryd.und_bytes Tryd.size_byte A2 (kb k l).length c2 .i64 j hj0 hj1 R2.cap
    have e1 : (kb k l).drop j.toNat = wb 2 l := by rw [HJ.out]; exact kb_drop k l
    have e2 : (kb k l).take j.toNat = [8] ++ vint (ku k) := by rw [HJ.out]; exact kb_take k l
    have kd : Kp no w3 w3.drew := (Kp.refl _ _).drew
    obtain ⟨Y, hY0⟩ : ∃ Y, Y = wb 2 l ++ ([8] ++ vint (ku k)) := ⟨_, rfl⟩
    have hYl : Y.length ≤ 350 := by
      have := wb_len 2 l; have := (vint_len l.length).2; have := (vint_len (ku k)).2
      rw [hY0]; simp only [List.length_append, List.length_cons, List.length_nil]; omega
    have hYf : ([(kb k l).drop j.toNat, (kb k l).take j.toNat] : List (List Int)).flatten = Y := by rw [e1, e2, hY0]; simp
    have hYs : ([(kb k l).drop j.toNat, (kb k l).take j.toNat] : List (List Int)).flatten.length ≤ 1099511627776 := by rw [hYf]; omega
    have hY := Lib.hid hY0
    clear hY0
    have D4 := Lib.hid (Concat_to (l := Y) (RdS.lit w3.drew 24 [⟨A4, _, _, (kb k l).drop j.toNat⟩, ⟨A2, _, c2, (kb k l).take j.toNat⟩] (by
      intro s hs
      simp only [List.mem_cons, List.not_mem_nil, or_false] at hs
      rcases hs with rfl | rfl
      · exact R4.keepN kd
      · exact R5.keepN kd) (by simp)) hYs hYf)
    clear hYs hYf
    clear R4 R5 e1 e2 R2
    go_wp2_with (fail)
    go_region_with (first | (go_at_call 27; refine D4.out.mono ?_; rintro e w5 ⟨A5, c5, rfl, M5⟩))
    have k35 : Kp no w3 w5 := (kd.alloc _).then M5.kp
    have k5 := k3.then k35
    have R15 := R13.keepN k35
    obtain ⟨Z, hZ0⟩ : ∃ Z, Z = kb o m ++ (wb 2 l ++ ([8] ++ vint (ku k))) := ⟨_, rfl⟩
    have hZ := Lib.hid hZ0
    have hZl : Z.length ≤ 700 := by
      have := kb_len o m; have := kb_len k l; have := wb_len 2 l; have := (vint_len l.length).2; have := (vint_len (ku k)).2
      rw [hZ0]; simp only [List.length_append, List.length_cons, List.length_nil]; omega
    have hZf : ([kb o m, Y] : List (List Int)).flatten = Z := by rw [hZ0]; simp only [List.flatten_cons, List.flatten_nil, List.append_nil]; rw [hY.out]
    have hZs : ([kb o m, Y] : List (List Int)).flatten.length ≤ 1099511627776 := by rw [hZf]; omega
    clear hZ0
    have D6 := Lib.hid (Concat_to (l := Z) (RdS.lit w5 24 [⟨A1, _, c1, kb o m⟩, ⟨A5, _, c5, Y⟩] (by
      intro s hs
      simp only [List.mem_cons, List.not_mem_nil, or_false] at hs
      rcases hs with rfl | rfl
      · exact R15
      · exact M5.rd) (by simp)) hZs hZf)
    clear hZs hZf
    go_wp2_with (fail)
    refine D6.out.mono ?_
    rintro e w6 ⟨A6, c6, rfl, M6⟩
    have k6 : Kp no w w6 := (k5.alloc _).then M6.kp
    have D7 := Lib.hid (KeyOf_calls M6.rd (by omega) (hE.keepN k6))
    go_wp2_with (fail)
    refine D7.out.mono ?_
    rintro e w7 ⟨hk7, k', A7, c7, d, ok, rfl, R7, r0', r1', hK⟩
    rw [hZ.out] at hK
    obtain ⟨rfl, rfl, rfl⟩ := KRes_lastTurned hK ho.1 ho.2 hk.1 hk.2 h'.byt (by omega) h.byt (by omega)
    have k7 := k6.then hk7
    have D8 := Lib.hid (Equal_same R7 (h.keepN k7))
    have DL := Lib.hid (keysLive_calls (hE.keepN k7))
    go_wp2_with (fail)
    refine D8.out.mono ?_
    rintro e w8 ⟨rfl, rfl⟩
    go_wp2_with (first | (go_at_call 19; refine DL.out.mono ?_; rintro e w9 ⟨rfl, hk9⟩))
    go_ret
    exact ⟨rfl, k7.then hk9⟩
end Go.Proofs.YtipleaojejbkpaaDoor
