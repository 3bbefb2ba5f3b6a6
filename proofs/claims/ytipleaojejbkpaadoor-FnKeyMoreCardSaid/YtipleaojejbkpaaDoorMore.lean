/- FnKeyMore walked. -/
import Derived.Test.YtipleaojejbkpaaDoorRead
import Derived.Test.YtipleaojejbkpaaDoorPlain
namespace Go.Proofs.YtipleaojejbkpaaDoor
open Go Go.RowKit
set_option linter.unusedVariables false
set_option linter.unusedSimpArgs false
set_option maxRecDepth 100000

theorem u64_or2 (x : Int) (h0 : 0 ≤ x) (h1 : x < 1152921504606846976) : bits .or .u64 (x * 8) 2 = x * 8 + 2 := by
  rw [u64_or _ 2 (by omega) (by omega) (by omega) (by omega)]
  have : (x * 8).toNat ||| (2 : Int).toNat = (x * 8).toNat + 2 := nat_join 3 _ 2 (by omega) (by decide)
  rw [this]; omega

set_option maxHeartbeats 8000000 in
theorem fnKeyMore_calls {w : World} {A A' : Option Addr} {n c n' c' : Nat} {l m : List Int} (k f v : Int) (x y : Bool) (h : Rd w A n c l) (h' : Rd w A' n' c' m)
    (hk : -2147483648 ≤ k ∧ k ≤ 2147483647) (hf : 0 ≤ f ∧ f < 65536) (hv : 0 ≤ v ∧ v < 18446744073709551616) (hE : KErrs w) :
    Calls Tryd.prog 6 #[.int .i32 k, .slice A n c, .int .u16 f, .int .u64 v, .slice A' n' c', .bool x, .bool y] w (LawOk w) := by
  have DL := Lib.hid (keysLive_calls hE)
  obtain rfl := h.len
  obtain rfl := h'.len
  have hmax := h.max
  have hcap := h.cap
  have hmax' := h'.max
  have hcap' := h'.cap
  have hsplit : (2147483647 < (l.length : Int) ∨ ((l.length : Int) ≤ 2147483647 ∧ 2147483647 < (m.length : Int))) ∨ (((300 < (l.length : Int) ∧ (l.length : Int) ≤ 2147483647) ∨ ((l.length : Int) ≤ 300 ∧ 100 < (m.length : Int))) ∧ (l.length : Int) ≤ 2147483647 ∧ (m.length : Int) ≤ 2147483647) ∨ ((l.length : Int) ≤ 300 ∧ (m.length : Int) ≤ 100) := by omega
  rcases hsplit with hbig | ⟨hmid, hs1, hs2⟩ | ⟨hs1, hs2⟩
  · clear h h'
    rcases hbig with hbig | ⟨hbig, hbig'⟩
    all_goals
      go_enter Tryd.func6, Tryd.ntmps6
      go_wp2
      go_ret
      exact ⟨rfl, Kp.refl _ _⟩
  · clear h h'
    rcases hmid with ⟨hbig, hbig'⟩ | ⟨hbig, hbig'⟩
    all_goals
      go_enter Tryd.func6, Tryd.ntmps6
      go_wp2_with (first | (go_at_call 19; refine DL.out.mono ?_; rintro e w2 ⟨rfl, hk2⟩))
      go_ret
      exact ⟨rfl, hk2⟩
  have hlb : l.length ≤ 300 := by omega
  have hmb : m.length ≤ 100 := by omega
  have q0 : 0 ≤ f % 998 := by omega
  have q1 : f % 998 < 998 := by omega
  have e1 : IntKind.u64.wrap ((f % 998 + 3) * 8) = (f % 998 + 3) * 8 := IntWalk.u64_in _ (by omega)
  have e2 : bits .or .u64 ((f % 998 + 3) * 8) 2 = (f % 998 + 3) * 8 + 2 := u64_or2 _ (by omega) (by omega)
  have e3 : IntKind.u64.wrap (m.length : Int) = m.length := IntWalk.u64_in _ (by omega)
  obtain ⟨X, hX0⟩ : ∃ X, X = other (f % 998 + 3) v m y := ⟨_, rfl⟩
  have hX := Lib.hid hX0
  have hXl : X.length ≤ 120 := by
    rw [hX0]; unfold other
    split
    · have := (vint_len ((f % 998 + 3) * 8)).2; have := (vint_len v).2; rw [List.length_append]; omega
    · have := (vint_len ((f % 998 + 3) * 8 + 2)).2; have := (vint_len (m.length : Int)).2; simp only [List.length_append]; omega
  clear hX0
  cases y with
  | true =>
    have D1 := Lib.hid (sWireNumber_calls (w := w) ((f % 998 + 3) * 8) (by omega) (by omega))
    go_enter Tryd.func6, Tryd.ntmps6
    go_wp2_with (fail)
    refine D1.out.mono ?_
    rintro e w1 ⟨A1, c1, rfl, M1⟩
    have D2 := Lib.hid (sWireNumber_calls (w := w1) v hv.1 hv.2)
    go_wp2_with (fail)
    refine D2.out.mono ?_
    rintro e w2 ⟨A2, c2, rfl, M2⟩
    have D3 := Lib.hid (Concat_to (RdS.lit w2 24 [⟨A1, _, c1, vint ((f % 998 + 3) * 8)⟩, ⟨A2, _, c2, vint v⟩] (by
      intro s hs
      simp only [List.mem_cons, List.not_mem_nil, or_false] at hs
      rcases hs with rfl | rfl
      · exact M1.rd.keepN M2.kp
      · exact M2.rd) (by simp)) (l := X) (by have := (vint_len ((f % 998 + 3) * 8)).2; have := (vint_len v).2; simp; omega) (by rw [hX.out]; simp [other]))
    go_wp2_with (fail)
    refine D3.out.mono ?_
    rintro e w3 ⟨A3, c3, rfl, M3⟩
    have k3 : Kp no w w3 := ((M1.kp.then M2.kp).alloc _).then M3.kp
    have D4 := Lib.hid (sKeyBytes_calls (h.keepN k3) (by omega) k hk.1 hk.2)
    go_wp2_with (fail)
    refine D4.out.mono ?_
    rintro e w4 ⟨A4, c4, rfl, M4⟩
    have k4 := k3.then M4.kp
    obtain ⟨Z, hZ0⟩ : ∃ Z, Z = kb k l ++ X := ⟨_, rfl⟩
    have hZ := Lib.hid hZ0
    have hZl : Z.length ≤ 700 := by have := kb_len k l; rw [hZ0, List.length_append]; omega
    have hZf : ([kb k l, X] : List (List Int)).flatten = Z := by rw [hZ0]; simp only [List.flatten_cons, List.flatten_nil, List.append_nil]
    have hZs : ([kb k l, X] : List (List Int)).flatten.length ≤ 1099511627776 := by rw [hZf]; omega
    clear hZ0
    have D5 := Lib.hid (Concat_to (l := Z) (RdS.lit w4 24 [⟨A4, _, c4, kb k l⟩, ⟨A3, _, c3, X⟩] (by
      intro s hs
      simp only [List.mem_cons, List.not_mem_nil, or_false] at hs
      rcases hs with rfl | rfl
      · exact M4.rd
      · exact M3.rd.keepN M4.kp) (by simp)) hZs hZf)
    clear hZs hZf
    go_wp2_with (fail)
    refine D5.out.mono ?_
    rintro e w5 ⟨A5, c5, rfl, M5⟩
    have k45 : Kp no w4 w5 := (Kp.refl no w4).alloc _ |>.then M5.kp
    have k5 := k4.then k45
    cases x with
    | false =>
      have D6 := Lib.hid (KeyOf_calls M5.rd (by omega) (hE.keepN k5))
      go_wp2_with (fail)
      refine D6.out.mono ?_
      rintro e w7 ⟨hk7, k', A7, c7, d, ok, rfl, R7, r0', r1', hK⟩
      rw [hZ.out, hX.out] at hK
      obtain ⟨rfl, rfl, rfl⟩ := KRes_behind hK hk.1 hk.2 h.byt (by omega) (by omega) (by omega) hv.1 hv.2 h'.byt (by omega)
      have k7 := k5.then hk7
      have D8 := Lib.hid (Equal_same R7 (h.keepN k7))
      have DL7 := Lib.hid (keysLive_calls (hE.keepN k7))
      go_wp2_with (fail)
      refine D8.out.mono ?_
      rintro e w8 ⟨rfl, rfl⟩
      go_wp2_with (first | (go_at_call 19; refine DL7.out.mono ?_; rintro e w9 ⟨rfl, hk9⟩))
      go_ret
      exact ⟨rfl, k7.then hk9⟩
    | true =>
      have D6 := Lib.hid (sKeyBytes_calls (h.keepN k5) (by omega) k hk.1 hk.2)
      go_wp2_with (fail)
      refine D6.out.mono ?_
      rintro e w6 ⟨A6, c6, rfl, M6⟩
      have k6 := k5.then M6.kp
      obtain ⟨V, hV0⟩ : ∃ V, V = X ++ kb k l := ⟨_, rfl⟩
      have hV := Lib.hid hV0
      have hVl : V.length ≤ 700 := by have := kb_len k l; rw [hV0, List.length_append]; omega
      have hVf : ([X, kb k l] : List (List Int)).flatten = V := by rw [hV0]; simp only [List.flatten_cons, List.flatten_nil, List.append_nil]
      have hVs : ([X, kb k l] : List (List Int)).flatten.length ≤ 1099511627776 := by rw [hVf]; omega
      clear hV0
      have D7 := Lib.hid (Concat_to (l := V) (RdS.lit w6 24 [⟨A3, _, c3, X⟩, ⟨A6, _, c6, kb k l⟩] (by
        intro s hs
        simp only [List.mem_cons, List.not_mem_nil, or_false] at hs
        rcases hs with rfl | rfl
        · exact M3.rd.keepN ((M4.kp.then k45).then M6.kp)
        · exact M6.rd) (by simp)) hVs hVf)
      clear hVs hVf
      go_wp2_with (fail)
      refine D7.out.mono ?_
      rintro e w6' ⟨A8, c8, rfl, M8⟩
      have k8 : Kp no w w6' := (k6.alloc _).then M8.kp
      have D9 := Lib.hid (KeyOf_calls M8.rd (by omega) (hE.keepN k8))
      go_wp2_with (fail)
      refine D9.out.mono ?_
      rintro e w7 ⟨hk7, k', A7, c7, d, ok, rfl, R7, r0', r1', hK⟩
      rw [hV.out, hX.out] at hK
      obtain ⟨rfl, rfl, rfl⟩ := KRes_ahead hK hk.1 hk.2 h.byt (by omega) (by omega) (by omega) hv.1 hv.2 h'.byt (by omega)
      have k7 := k8.then hk7
      have D8 := Lib.hid (Equal_same R7 (h.keepN k7))
      have DL7 := Lib.hid (keysLive_calls (hE.keepN k7))
      go_wp2_with (fail)
      refine D8.out.mono ?_
      rintro e w8 ⟨rfl, rfl⟩
      go_wp2_with (first | (go_at_call 19; refine DL7.out.mono ?_; rintro e w9 ⟨rfl, hk9⟩))
      go_ret
      exact ⟨rfl, k7.then hk9⟩
  | false =>
    have D1 := Lib.hid (sWireNumber_calls (w := w) ((f % 998 + 3) * 8 + 2) (by omega) (by omega))
    go_enter Tryd.func6, Tryd.ntmps6
    go_wp2_with (fail)
    refine D1.out.mono ?_
    rintro e w1 ⟨A1, c1, rfl, M1⟩
    have D2 := Lib.hid (sWireNumber_calls (w := w1) (m.length : Int) (by omega) (by omega))
    go_wp2_with (fail)
    refine D2.out.mono ?_
    rintro e w2 ⟨A2, c2, rfl, M2⟩
    have D3 := Lib.hid (Concat_to (RdS.lit w2 24 [⟨A1, _, c1, vint ((f % 998 + 3) * 8 + 2)⟩, ⟨A2, _, c2, vint (m.length : Int)⟩, ⟨A', _, c', m⟩] (by
      intro s hs
      simp only [List.mem_cons, List.not_mem_nil, or_false] at hs
      rcases hs with rfl | rfl | rfl
      · exact M1.rd.keepN M2.kp
      · exact M2.rd
      · exact h'.keepN (M1.kp.then M2.kp)) (by simp)) (l := X) (by have := (vint_len ((f % 998 + 3) * 8 + 2)).2; have := (vint_len (m.length : Int)).2; simp; omega) (by rw [hX.out]; simp [other]))
    go_wp2_with (fail)
    refine D3.out.mono ?_
    rintro e w3 ⟨A3, c3, rfl, M3⟩
    have k3 : Kp no w w3 := ((M1.kp.then M2.kp).alloc _).then M3.kp
    have D4 := Lib.hid (sKeyBytes_calls (h.keepN k3) (by omega) k hk.1 hk.2)
    go_wp2_with (fail)
    refine D4.out.mono ?_
    rintro e w4 ⟨A4, c4, rfl, M4⟩
    have k4 := k3.then M4.kp
    obtain ⟨Z, hZ0⟩ : ∃ Z, Z = kb k l ++ X := ⟨_, rfl⟩
    have hZ := Lib.hid hZ0
    have hZl : Z.length ≤ 700 := by have := kb_len k l; rw [hZ0, List.length_append]; omega
    have hZf : ([kb k l, X] : List (List Int)).flatten = Z := by rw [hZ0]; simp only [List.flatten_cons, List.flatten_nil, List.append_nil]
    have hZs : ([kb k l, X] : List (List Int)).flatten.length ≤ 1099511627776 := by rw [hZf]; omega
    clear hZ0
    have D5 := Lib.hid (Concat_to (l := Z) (RdS.lit w4 24 [⟨A4, _, c4, kb k l⟩, ⟨A3, _, c3, X⟩] (by
      intro s hs
      simp only [List.mem_cons, List.not_mem_nil, or_false] at hs
      rcases hs with rfl | rfl
      · exact M4.rd
      · exact M3.rd.keepN M4.kp) (by simp)) hZs hZf)
    clear hZs hZf
    go_wp2_with (fail)
    refine D5.out.mono ?_
    rintro e w5 ⟨A5, c5, rfl, M5⟩
    have k45 : Kp no w4 w5 := (Kp.refl no w4).alloc _ |>.then M5.kp
    have k5 := k4.then k45
    cases x with
    | false =>
      have D6 := Lib.hid (KeyOf_calls M5.rd (by omega) (hE.keepN k5))
      go_wp2_with (fail)
      refine D6.out.mono ?_
      rintro e w7 ⟨hk7, k', A7, c7, d, ok, rfl, R7, r0', r1', hK⟩
      rw [hZ.out, hX.out] at hK
      obtain ⟨rfl, rfl, rfl⟩ := KRes_behind hK hk.1 hk.2 h.byt (by omega) (by omega) (by omega) hv.1 hv.2 h'.byt (by omega)
      have k7 := k5.then hk7
      have D8 := Lib.hid (Equal_same R7 (h.keepN k7))
      have DL7 := Lib.hid (keysLive_calls (hE.keepN k7))
      go_wp2_with (fail)
      refine D8.out.mono ?_
      rintro e w8 ⟨rfl, rfl⟩
      go_wp2_with (first | (go_at_call 19; refine DL7.out.mono ?_; rintro e w9 ⟨rfl, hk9⟩))
      go_ret
      exact ⟨rfl, k7.then hk9⟩
    | true =>
      have D6 := Lib.hid (sKeyBytes_calls (h.keepN k5) (by omega) k hk.1 hk.2)
      go_wp2_with (fail)
      refine D6.out.mono ?_
      rintro e w6 ⟨A6, c6, rfl, M6⟩
      have k6 := k5.then M6.kp
      obtain ⟨V, hV0⟩ : ∃ V, V = X ++ kb k l := ⟨_, rfl⟩
      have hV := Lib.hid hV0
      have hVl : V.length ≤ 700 := by have := kb_len k l; rw [hV0, List.length_append]; omega
      have hVf : ([X, kb k l] : List (List Int)).flatten = V := by rw [hV0]; simp only [List.flatten_cons, List.flatten_nil, List.append_nil]
      have hVs : ([X, kb k l] : List (List Int)).flatten.length ≤ 1099511627776 := by rw [hVf]; omega
      clear hV0
      have D7 := Lib.hid (Concat_to (l := V) (RdS.lit w6 24 [⟨A3, _, c3, X⟩, ⟨A6, _, c6, kb k l⟩] (by
        intro s hs
        simp only [List.mem_cons, List.not_mem_nil, or_false] at hs
        rcases hs with rfl | rfl
        · exact M3.rd.keepN ((M4.kp.then k45).then M6.kp)
        · exact M6.rd) (by simp)) hVs hVf)
      clear hVs hVf
      go_wp2_with (fail)
      refine D7.out.mono ?_
      rintro e w6' ⟨A8, c8, rfl, M8⟩
      have k8 : Kp no w w6' := (k6.alloc _).then M8.kp
      have D9 := Lib.hid (KeyOf_calls M8.rd (by omega) (hE.keepN k8))
      go_wp2_with (fail)
      refine D9.out.mono ?_
      rintro e w7 ⟨hk7, k', A7, c7, d, ok, rfl, R7, r0', r1', hK⟩
      rw [hV.out, hX.out] at hK
      obtain ⟨rfl, rfl, rfl⟩ := KRes_ahead hK hk.1 hk.2 h.byt (by omega) (by omega) (by omega) hv.1 hv.2 h'.byt (by omega)
      have k7 := k8.then hk7
      have D8 := Lib.hid (Equal_same R7 (h.keepN k7))
      have DL7 := Lib.hid (keysLive_calls (hE.keepN k7))
      go_wp2_with (fail)
      refine D8.out.mono ?_
      rintro e w8 ⟨rfl, rfl⟩
      go_wp2_with (first | (go_at_call 19; refine DL7.out.mono ?_; rintro e w9 ⟨rfl, hk9⟩))
      go_ret
      exact ⟨rfl, k7.then hk9⟩
end Go.Proofs.YtipleaojejbkpaaDoor
