/- The reference's PeerHash. -/
import Derived.Test.YtnbpliccenanpaaDoorPeer
import Derived.Test.YtnbpliccenanpaaDoorSpecA
namespace Go.Proofs.YtnbpliccenanpaaDoor
open Go Go.RowKit
set_option linter.unusedVariables false
set_option linter.unusedSimpArgs false
set_option maxRecDepth 100000

theorem sVarint_len {w : World} (v : Int) (h0 : 0 ≤ v) (h1 : v < 18446744073709551616) (a : Nat) (ha : (vint v).length = a) :
    Calls Tryd.prog 32 #[.int .u64 v] w fun e w' => ∃ A c, e = .returned (.slice A a c) ∧ Kp no w w' :=
  (sVarint_calls v h0 h1).mono fun e w' ⟨A, c, h2, h3⟩ => ⟨A, c, by rw [h2, ha], h3.kp⟩
/-- What PeerHash tells. -/
def PHO (l : List Int) (ok opn : Bool) : Prop := opn = false → (ok = true ↔ IsMH l)
theorem PHO.open_ {l : List Int} {ok : Bool} : PHO l ok true := fun h => by cases h
theorem PHO.none1 {l : List Int} {b : Bool} (h : rv 10 l = none) : PHO l false b := fun _ => by
  refine ⟨(fun h => by cases h), fun ⟨c, hc⟩ => ?_⟩
  rw [MH_none1 (by unfold FU; rw [h])] at hc; cases hc
theorem PHO.none2 {l : List Int} {b : Bool} {code n : Int} (h : rv 10 l = some (code, n)) (h2 : rv 10 (l.drop n.toNat) = none) : PHO l false b := fun _ => by
  refine ⟨(fun h => by cases h), fun ⟨c, hc⟩ => ?_⟩
  cases hf : FU l with
  | none => rw [MH_none1 hf] at hc; cases hc
  | some p =>
    obtain ⟨v, k⟩ := p
    have hs := hf
    unfold FU at hs
    rw [h] at hs
    simp only at hs
    split at hs
    · injection hs with hs; injection hs with h3 h4
      subst h3 h4
      rw [MH_none2 hf (by unfold FU; rw [h2])] at hc; cases hc
    · cases hs
theorem PHO.told {l : List Int} {code n long m : Int} (h : rv 10 l = some (code, n)) (h2 : rv 10 (l.drop n.toNat) = some (long, m)) (hn : n = ((vint code).length : Int)) (hm : m = ((vint long).length : Int)) (hn9 : n ≤ 9) (hm9 : m ≤ 9) (hll : l.length ≤ 2147483647)
    (hn0 : 0 ≤ n) (hm0 : 0 ≤ m) : PHO l (decide (long = (l.length : Int) - n - m)) false := fun _ => by
  have f1 : FU l = some (code, n) := by unfold FU; rw [h]; simp only; rw [if_pos ⟨hn9, hn⟩]
  have f2 : FU (l.drop n.toNat) = some (long, m) := by unfold FU; rw [h2]; simp only; rw [if_pos ⟨hm9, hm⟩]
  have hM := MH_if f1 f2
  rw [decide_eq_true_iff]
  constructor
  · intro he
    rw [if_pos (by omega)] at hM
    exact ⟨code, by rw [hM]; congr 2; omega⟩
  · rintro ⟨c, hc⟩
    rw [hM] at hc
    split at hc
    · injection hc with hc; injection hc with _ hc; omega
    · cases hc

set_option maxHeartbeats 4000000 in
theorem PeerHash_calls {w : World} {A : Option Addr} {n c : Nat} {l : List Int} (h : Rd w A n c l) (hn : n ≤ 2147483647) :
    Calls Tryd.prog 10 #[.slice A n c] w fun e w' => ∃ ok opn, e = .returned (.tuple #[.bool ok, .bool opn]) ∧ PHO l ok opn ∧ Kp no w w' := by
  have hcap := h.cap
  have HL := Lib.hid h.len
  cases hf : rv 10 l with
  | none =>
    have R := Lib.hid (fun b => PHO.none1 (b := b) hf)
    have D := Lib.hid (sNumber_bad h hf)
    clear hf
    go_enter Tryd.func10, Tryd.ntmps10
    go_wp2_with (first | (go_at_call 31; refine D.out.mono ?_; rintro e w1 ⟨rfl, rfl⟩))
    go_ret2
    exact ⟨_, _, rfl, R.out _, Kp.refl _ _⟩
  | some p =>
    obtain ⟨v, k⟩ := p
    have HF := Lib.hid hf
    have D := Lib.hid (sNumber_ok h hf)
    have HV := Lib.hid (rv_u64 h.byt hf)
    have HK := Lib.hid (rv_len _ _ _ _ hf)
    clear hf
    have hv0 : 0 ≤ v := HV.out.1
    have hv1 : v < 18446744073709551616 := HV.out.2
    have hk1 : 1 ≤ k := HK.out.1
    have hkn : k ≤ n := by rw [← HL.out]; exact HK.out.2.1
    have hkz : (k == 0) = false := by simp; omega
    obtain ⟨A', R1, _, _, hct⟩ := h.cutFrom (P := Tryd.prog) Tryd.und_bytes Tryd.size_byte .i64 k (by omega) hkn
    have HN := Lib.hid (show n - k.toNat + k.toNat = n from by omega)
    generalize n - k.toNat = n' at *
    generalize c - k.toNat = c' at *
    cases hf2 : rv 10 (l.drop k.toNat) with
    | none =>
      have R := Lib.hid (fun b => PHO.none2 (b := b) HF.out hf2)
      have D2 := Lib.hid (sNumber_bad R1 hf2)
      clear hf2
      go_enter Tryd.func10, Tryd.ntmps10
      go_upto_if 14 with (first | (go_at_call 31; refine D.out.mono ?_; rintro e w1 ⟨rfl, rfl⟩))
      go_wp2_with (first | (go_at_call 31; refine D2.out.mono ?_; rintro e w1 ⟨rfl, rfl⟩))
      go_ret2
      exact ⟨_, _, rfl, R.out _, Kp.refl _ _⟩
    | some q =>
      obtain ⟨x, m⟩ := q
      have HF2 := Lib.hid hf2
      have D2 := Lib.hid (sNumber_ok R1 hf2)
      have HV2 := Lib.hid (rv_u64 R1.byt hf2)
      have HK2 := Lib.hid (rv_len _ _ _ _ hf2)
      clear hf2
      have hx0 : 0 ≤ x := HV2.out.1
      have hx1 : x < 18446744073709551616 := HV2.out.2
      have hm1 : 1 ≤ m := HK2.out.1
      have hmz : (m == 0) = false := by simp; omega
      have hkm : k + m ≤ n := by have := HK2.out.2.1; rw [List.length_drop, HL.out] at this; omega
      have ew : IntKind.u64.wrap ((n : Int) - k - m) = (n : Int) - k - m := IntWalk.u64_in _ (by omega)
      obtain ⟨a, ha⟩ : ∃ a, (vint v).length = a := ⟨_, rfl⟩
      obtain ⟨b, hb⟩ : ∃ b, (vint x).length = b := ⟨_, rfl⟩
      have D3 := Lib.hid (fun w => sVarint_len (w := w) v hv0 hv1 a ha)
      have D4 := Lib.hid (fun w => sVarint_len (w := w) x hx0 hx1 b hb)
      have HAB := Lib.hid (And.intro ha hb)
      have hab : a ≤ 10 ∧ b ≤ 10 := by have := vint_len v; have := vint_len x; omega
      clear ha hb
      go_enter Tryd.func10, Tryd.ntmps10
      go_upto_if 14 with (first | (go_at_call 31; refine D.out.mono ?_; rintro e w1 ⟨rfl, rfl⟩))
      go_upto_if 26 with (first | (go_at_call 31; refine D2.out.mono ?_; rintro e w1 ⟨rfl, rfl⟩))
      by_cases h1 : k = a
      · have h1b : (k != (a : Int)) = false := by simpa using h1
        have H1 := Lib.hid h1
        clear h1
        by_cases h2 : m = b
        · have h2b : (m != (b : Int)) = false := by simpa using h2
          have H2 := Lib.hid h2
          clear h2
          rcases Int.lt_or_le 9 k with h3 | h3
          · go_wp2_with (first | (go_at_call 32; refine (D4.out w2).mono ?_; rintro e w3 ⟨A3, c3, rfl, k3⟩) | (go_at_call 32; refine (D3.out w).mono ?_; rintro e w2 ⟨A2, c2, rfl, k2⟩))
            go_ret2
            exact ⟨_, _, rfl, PHO.open_, k2.then k3⟩
          · have h3b : decide (9 < k) = false := by simp; omega
            rcases Int.lt_or_le 9 m with h4 | h4
            · go_wp2_with (first | (go_at_call 32; refine (D4.out w2).mono ?_; rintro e w3 ⟨A3, c3, rfl, k3⟩) | (go_at_call 32; refine (D3.out w).mono ?_; rintro e w2 ⟨A2, c2, rfl, k2⟩))
              go_ret2
              exact ⟨_, _, rfl, PHO.open_, k2.then k3⟩
            · have h4b : decide (9 < m) = false := by simp; omega
              rcases Int.lt_or_le 2147483648 x with h5 | h5
              · go_wp2_with (first | (go_at_call 32; refine (D4.out w2).mono ?_; rintro e w3 ⟨A3, c3, rfl, k3⟩) | (go_at_call 32; refine (D3.out w).mono ?_; rintro e w2 ⟨A2, c2, rfl, k2⟩))
                go_ret2
                exact ⟨_, _, rfl, PHO.open_, k2.then k3⟩
              · have h5b : decide (2147483648 < x) = false := by simp; omega
                have R := Lib.hid (PHO.told HF.out HF2.out (by rw [HAB.out.1]; exact H1.out) (by rw [HAB.out.2]; exact H2.out) h3 h4 (by rw [HL.out]; exact hn) (by omega) (by omega))
                rw [HL.out] at R
                go_wp2_with (first | (go_at_call 32; refine (D4.out w2).mono ?_; rintro e w3 ⟨A3, c3, rfl, k3⟩) | (go_at_call 32; refine (D3.out w).mono ?_; rintro e w2 ⟨A2, c2, rfl, k2⟩))
                go_ret2
                exact ⟨_, _, rfl, R.out, k2.then k3⟩
        · have h2b : (m != (b : Int)) = true := by simpa using h2
          clear h2
          go_wp2_with (first | (go_at_call 32; refine (D4.out w2).mono ?_; rintro e w3 ⟨A3, c3, rfl, k3⟩) | (go_at_call 32; refine (D3.out w).mono ?_; rintro e w2 ⟨A2, c2, rfl, k2⟩))
          go_ret2
          exact ⟨_, _, rfl, PHO.open_, k2.then k3⟩
      · have h1b : (k != (a : Int)) = true := by simpa using h1
        clear h1
        go_wp2_with (first | (go_at_call 32; refine (D3.out w).mono ?_; rintro e w2 ⟨A2, c2, rfl, k2⟩))
        go_ret2
        exact ⟨_, _, rfl, PHO.open_, k2⟩
end Go.Proofs.YtnbpliccenanpaaDoor
