/- gomultihash: uvarint, readMultihashFromBuf. -/
import Derived.Test.YthdbchahmbcfeaaDoorUvar
import Derived.Deep.Cut
import Derived.Deep.CutRange
import Derived.Deep.CutBlock
namespace Go.Proofs.YthdbchahmbcfeaaDoor
open Go Go.RowKit
set_option linter.unusedVariables false
set_option linter.unusedSimpArgs false
set_option maxRecDepth 100000

theorem results_tmp4 {fn : Func} {t u v x : Tmp} (h : fn.results = #[.tmp t, .tmp u, .tmp v, .tmp x]) (tmps : Array Value) (P : Program) (w : World) :
    (results fn tmps).run P w = .ok (.tuple #[tmps.getD t undef, tmps.getD u undef, tmps.getD v undef, tmps.getD x undef]) w := by
  simp [results, h]

theorem fu_some {w : World} {A : Option Addr} {n c : Nat} {l : List Int} (h : Rd w A n c l) (hE : MErrs w) {v k : Int} (hf : FU l = some (v, k)) :
    Calls Tryd.prog 53 #[.slice A n c] w fun e w' => e = .returned (.tuple #[.int .u64 v, .int .i64 k, Value.nilIface]) ∧ Kp no w w' :=
  (fromUvarint_calls h hE).mono fun e w' ⟨h1, h2⟩ => ⟨by unfold FuO at h1; rw [hf] at h1; exact h1, h2⟩
theorem fu_none {w : World} {A : Option Addr} {n c : Nat} {l : List Int} (h : Rd w A n c l) (hE : MErrs w) (hf : FU l = none) :
    Calls Tryd.prog 53 #[.slice A n c] w fun e w' => ∃ t x, e = .returned (.tuple #[.int .u64 0, .int .i64 0, .iface t x]) ∧ Kp no w w' :=
  (fromUvarint_calls h hE).mono fun e w' ⟨h1, h2⟩ => by unfold FuO at h1; rw [hf] at h1; obtain ⟨t, x, h3⟩ := h1; exact ⟨t, x, h3, h2⟩

theorem uv_some {w : World} {A : Option Addr} {n c : Nat} {l : List Int} (h : Rd w A n c l) (hE : MErrs w) {v k : Int} (hf : FU l = some (v, k)) :
    Calls Tryd.prog 52 #[.slice A n c] w fun e w' => ∃ A' n' c', e = .returned (.tuple #[.int .u64 v, .slice A' n' c', Value.nilIface]) ∧ n' + k.toNat = n ∧ Rd w' A' n' c' (l.drop k.toNat) ∧ Kp no w w' := by
  have HF := Lib.hid (FU_some h.byt hf)
  have hk1 : 1 ≤ k := HF.out.2.2.2.2.2.1
  have D := Lib.hid (fu_some h hE hf)
  have HL := Lib.hid h.len
  have hkn : k ≤ n := by rw [← h.len]; exact HF.out.2.2.2.2.2.2
  obtain ⟨A', R, _, _, hct⟩ := h.cutFrom (P := Tryd.prog) Tryd.und_bytes Tryd.size_byte .i64 k (by omega) hkn
  have HN := Lib.hid (show n - k.toNat + k.toNat = n from by omega)
  generalize n - k.toNat = n' at *
  generalize c - k.toNat = c' at *
  have hkz : (k == 0) = false := by simp; omega
  go_enter Tryd.func52, Tryd.ntmps52
  go_wp2_with (first | (go_at_call 53; refine D.out.mono ?_; rintro e w1 ⟨rfl, k1⟩))
  go_region
  all_goals
    go_wp2
    go_ret3
    exact ⟨A', n', c', rfl, HN.out, R.keepN k1.drew, k1.drew⟩
theorem uv_none {w : World} {A : Option Addr} {n c : Nat} {l : List Int} (h : Rd w A n c l) (hE : MErrs w) (hf : FU l = none) :
    Calls Tryd.prog 52 #[.slice A n c] w fun e w' => ∃ t x, e = .returned (.tuple #[.int .u64 0, .slice A n c, .iface t x]) ∧ Kp no w w' := by
  have D := Lib.hid (fu_none h hE hf)
  go_enter Tryd.func52, Tryd.ntmps52
  go_wp2_with (first | (go_at_call 53; refine D.out.mono ?_; rintro e w1 ⟨t, x, rfl, k1⟩))
  go_ret3
  exact ⟨t, x, rfl, k1⟩

/-- The head of a multihash: the hash's number, the bytes up to its end. -/
def MH (l : List Int) : Option (Int × Int) := match FU l with
  | none => none
  | some (code, n) => match FU (l.drop n.toNat) with
    | none => none
    | some (long, m) => if long ≤ 2147483647 ∧ long ≤ (l.length : Int) - n - m then some (code, n + m + long) else none
def RmO (l : List Int) (e : Ending) : Prop := match MH l with
  | some p => ∃ A n c, e = .returned (.tuple #[.int .i64 p.2, .int .u64 p.1, .slice A n c, Value.nilIface]) ∧ n ≤ l.length
  | none => ∃ t x, e = .returned (.tuple #[.int .i64 0, .int .u64 0, .slice none 0 0, .iface t x])
theorem RmO.some {l : List Int} {code r : Int} {e : Ending} {A : Option Addr} {n c : Nat} (h : MH l = some (code, r)) (he : e = .returned (.tuple #[.int .i64 r, .int .u64 code, .slice A n c, Value.nilIface])) (hn : n ≤ l.length) : RmO l e := by unfold RmO; rw [h]; exact ⟨A, n, c, he, hn⟩
theorem RmO.none {l : List Int} {e : Ending} {t : TypeId} {x : Value} (h : MH l = none) (he : e = .returned (.tuple #[.int .i64 0, .int .u64 0, .slice none 0 0, .iface t x])) : RmO l e := by unfold RmO; rw [h]; exact ⟨t, x, he⟩
theorem MH_none1 {l : List Int} (h : FU l = none) : MH l = none := by unfold MH; rw [h]
theorem MH_none2 {l : List Int} {v k : Int} (h : FU l = some (v, k)) (h2 : FU (l.drop k.toNat) = none) : MH l = none := by unfold MH; rw [h]; simp only; rw [h2]
theorem MH_if {l : List Int} {v k a m : Int} (h : FU l = some (v, k)) (h2 : FU (l.drop k.toNat) = some (a, m)) : MH l = if a ≤ 2147483647 ∧ a ≤ (l.length : Int) - k - m then some (v, k + m + a) else none := by unfold MH; rw [h]; simp only; rw [h2]
theorem MH_short {l : List Int} (hb : Byt l) (h : l.length < 2) : MH l = none := by
  cases hf : FU l with
  | none => exact MH_none1 hf
  | some p =>
    obtain ⟨v, k⟩ := p
    have := FU_some hb hf
    refine MH_none2 hf ?_
    rw [List.drop_eq_nil_of_le (by omega)]
    rfl

set_option maxHeartbeats 2000000 in
theorem readMh_calls {w : World} {A : Option Addr} {n c : Nat} {l : List Int} (h : Rd w A n c l) (hE : MErrs w) (hn : n ≤ 1099511627776) :
    Calls Tryd.prog 50 #[.slice A n c] w fun e w' => RmO l e ∧ Kp no w w' := by
  have hcap := h.cap
  have HL := Lib.hid h.len
  by_cases h2 : n < 2
  · have R := Lib.hid (MH_short h.byt (by rw [h.len]; exact h2))
    obtain ⟨_, _, _, ⟨td, vd, cd⟩⟩ := hE
    go_enter Tryd.func50, Tryd.ntmps50
    go_wp2
    go_region
    all_goals
      go_wp2
      (try simp only [Exit.inBlock, Exit.then]); refine bodyPost_ret (results_tmp4 rfl _ _ _) rfl ?_
      exact ⟨RmO.none R.out rfl, (Kp.refl _ _).drew⟩
  · cases hf : FU l with
    | none =>
      have R := Lib.hid (MH_none1 hf)
      have D := Lib.hid (uv_none h hE hf)
      clear hf
      go_enter Tryd.func50, Tryd.ntmps50
      go_wp2_with (first | (go_at_call 52; refine D.out.mono ?_; rintro e w1 ⟨t, x, rfl, k1⟩))
      (try simp only [Exit.inBlock, Exit.then]); refine bodyPost_ret (results_tmp4 rfl _ _ _) rfl ?_
      exact ⟨RmO.none R.out rfl, k1⟩
    | some p =>
      obtain ⟨v, k⟩ := p
      have HF := Lib.hid hf
      have D := Lib.hid (uv_some h hE hf)
      have HB := Lib.hid (FU_some h.byt hf)
      clear hf
      go_enter Tryd.func50, Tryd.ntmps50
      go_upto_if 23 with (first | (go_at_call 52; refine D.out.mono ?_; rintro e w1 ⟨A1, n1, c1, rfl, hn1, R1, k1⟩))
      have HN1 := Lib.hid hn1
      have hE1 := hE.keepN k1
      cases hf2 : FU (l.drop k.toNat) with
      | none =>
        have R := Lib.hid (MH_none2 HF.out hf2)
        have D2 := Lib.hid (uv_none R1 hE1 hf2)
        clear hf2 hn1
        go_wp2_with (first | (go_at_call 52; refine D2.out.mono ?_; rintro e w2 ⟨t, x, rfl, k2⟩))
        (try simp only [Exit.inBlock, Exit.then]); refine bodyPost_ret (results_tmp4 rfl _ _ _) rfl ?_
        exact ⟨RmO.none R.out rfl, k1.then k2⟩
      | some q =>
        obtain ⟨a, m⟩ := q
        have R := Lib.hid (MH_if HF.out hf2)
        have D2 := Lib.hid (uv_some R1 hE1 hf2)
        have HB2 := Lib.hid (FU_some R1.byt hf2)
        clear hf2 hn1
        have ha0 : 0 ≤ a := HB2.out.2.2.2.1
        have ha1 : a < 18446744073709551616 := HB2.out.2.2.2.2.1
        have hn1n : n1 ≤ n := by have := HN1.out; omega
        go_upto_if 32 with (first | (go_at_call 52; refine D2.out.mono ?_; rintro e w2 ⟨A2, n2, c2, rfl, hn2, R2, k2⟩))
        have HN2 := Lib.hid hn2
        have hn2n : n2 ≤ n := by omega
        clear hn2
        by_cases hbig : 2147483647 < a
        · have R' := Lib.hid (R.out.trans (if_neg (by omega)))
          go_wp2
          (try simp only [Exit.inBlock, Exit.then]); refine bodyPost_ret (results_tmp4 rfl _ _ _) rfl ?_
          exact ⟨RmO.none R'.out rfl, (k1.then k2).alloc _⟩
        · have ew : IntKind.i64.wrap a = a := IntWalk.i64_in _ (by omega)
          by_cases hlong : (n2 : Int) < a
          · have R' := Lib.hid (R.out.trans (if_neg (by have := HN1.out; have := HN2.out; have := HB.out; have := HB2.out; have := HL.out; omega)))
            go_wp2
            (try simp only [Exit.inBlock, Exit.then]); refine bodyPost_ret (results_tmp4 rfl _ _ _) rfl ?_
            exact ⟨RmO.none R'.out rfl, (k1.then k2).alloc _⟩
          · have R' := R.out.trans (if_pos (by have := HN1.out; have := HN2.out; have := HB.out; have := HB2.out; have := HL.out; omega))
            rw [show k + m + a = (n : Int) - (n2 : Int) + a from by have := HN1.out; have := HN2.out; have := HB.out; have := HB2.out; have := HL.out; omega] at R'
            have R2' := Lib.hid R'
            clear R'
            have hct := cutTo (P := Tryd.prog) Tryd.und_bytes Tryd.size_byte A2 n2 c2 .u64 a ha0 (by omega) R2.cap
            have HLA := Lib.hid (show a.toNat ≤ l.length from by have := HL.out; omega)
            go_wp2
            go_region
            all_goals
              go_wp2
              (try simp only [Exit.inBlock, Exit.then]); refine bodyPost_ret (results_tmp4 rfl _ _ _) rfl ?_
              exact ⟨RmO.some R2'.out rfl HLA.out, (k1.then k2).drew⟩
end Go.Proofs.YthdbchahmbcfeaaDoor
