/- What is signed, plain: each part stands behind its length; what is cut in other places is other. Numbers in groups of seven bits: the reference's recordVarint, encoding/binary's AppendUvarint; the reference's parts and fields. record.makeUnsigned. -/
import Derived.Test.YtddofkeajinjpaaGreatDoorObs
import Derived.Test.YtddofkeajinjpaaGreatDoorSpecA
import Derived.Test.YtddofkeajinjpaaGreatDoorRowM
import Derived.Test.YtddofkeajinjpaaGreatDoorShP2
import Derived.LoopN
import Derived.Deep.RegionLaw
import Derived.BigRegion
import Derived.Test.YtddofkeajinjpaaGreatDoorQTail
import Derived.Deep.Cut
import Derived.Deep.CutRange
import Derived.Deep.CutBlock
import Derived.Deep.QuietTactic
import Derived.BigQuiet
import Derived.Deep.RegionWith
namespace Go.Proofs.YtddofkeajinjpaaGreatDoor
open Go
set_option linter.unusedVariables false
set_option linter.unusedSimpArgs false
set_option maxRecDepth 100000

/-- Bytes behind their number. -/
def part (l : List Int) : List Int := vint l.length ++ l
def uns (d c p : List Int) : List Int := part d ++ (part c ++ part p)
theorem part_byt {l : List Int} (h : Byt l) (hn : l.length ≤ 1099511627776) : Byt (part l) := (vint_byt _ (by omega) (by omega)).app h
theorem part_len (l : List Int) : (part l).length = (vint l.length).length + l.length := by simp [part]
theorem part_inj {a b r s : List Int} (ha : a.length ≤ 1099511627776) (hb : b.length ≤ 1099511627776) (h : part a ++ r = part b ++ s) : a = b ∧ r = s := by
  unfold part at h
  have h1 := rv_vint (a.length : Int) (a ++ r) (by omega) (by omega)
  have h2 := rv_vint (b.length : Int) (b ++ s) (by omega) (by omega)
  rw [List.append_assoc, List.append_assoc] at h
  rw [h, h2] at h1
  simp only [Option.some.injEq, Prod.mk.injEq] at h1
  have hl : a.length = b.length := by omega
  rw [hl] at h
  have h3 := List.append_cancel_left h
  exact List.append_inj h3 hl
theorem uns_inj {d c p d' c' p' : List Int} (h1 : d.length ≤ 1099511627776) (h2 : c.length ≤ 1099511627776) (h3 : p.length ≤ 1099511627776) (k1 : d'.length ≤ 1099511627776) (k2 : c'.length ≤ 1099511627776) (k3 : p'.length ≤ 1099511627776)
    (h : uns d c p = uns d' c' p') : d = d' ∧ c = c' ∧ p = p' := by
  unfold uns at h
  obtain ⟨e1, h⟩ := part_inj h1 k1 h
  obtain ⟨e2, h⟩ := part_inj h2 k2 h
  have h' : part p ++ [] = part p' ++ [] := by simpa using h
  exact ⟨e1, e2, (part_inj h3 k3 h').1⟩
end Go.Proofs.YtddofkeajinjpaaGreatDoor
namespace Go.Proofs.YtddofkeajinjpaaGreatDoor
open Go Go.RowKit
set_option linter.unusedVariables false
set_option linter.unusedSimpArgs false
set_option maxRecDepth 100000

set_option maxHeartbeats 1000000 in
theorem recordVarint_calls {w : World} (v : Int) (h0 : 0 ≤ v) (h1 : v < 18446744073709551616) :
    Calls Tryz.prog 40 #[.int .u64 v] w (Made w (vint v)) := by
  have HO0 := Own.lit w 5 w.heap.size [] (Nat.le_refl _) Byt.nil (by simp)
  have k0 : Kp no w (w.alloc (.cells (nums .u8 []).toArray 5)) := (Kp.refl _ _).alloc _
  go_enter Tryz.func40, Tryz.ntmps40
  go_wp2
  go_loopw [0, 3] (fun n u wr => ∃ (x : Int) (k : Nat) (d : List Int), n = .int .u64 x ∧ 0 ≤ x ∧ x < 18446744073709551616 ∧ Hid (x < 2 * 128 ^ k) ∧ Hid (vint v = d ++ vi k x) ∧ Own wr 5 w.heap.size u d ∧ Kp no w wr) (fun n _ _ => (intOf n).toNat)
  case atStart => exact ⟨v, 9, [], rfl, h0, h1, (by show v < 2 * 128 ^ 9; omega), vint_eq v, HO0, k0⟩
  case round =>
    obtain ⟨x, k, d, rfl, x0, x1, hk, hd, hO, hkr⟩ := hrel
    have hdl : d.length ≤ 10 := by
      have := vint_len v
      rw [hd.out, List.length_append] at this
      omega
    have hB := hkr.size
    by_cases hx : 128 ≤ x
    · obtain ⟨k, rfl⟩ : ∃ k', k = k' + 1 := by
        cases k with
        | zero => exact absurd hk.out (by simp; omega)
        | succ k => exact ⟨k, rfl⟩
      have hk' : x / 128 < 2 * 128 ^ k := by
        have := hk.out
        rw [Int.pow_succ] at this
        omega
      have hd' : vint v = (d ++ [x % 128 + 128]) ++ vi k (x / 128) := by
        rw [hd.out, vi, if_neg (by omega)]; simp
      have HK := Lib.hid hk'
      have HD := Lib.hid hd'
      have e1 := u8_low x x0 x1
      have e2 := IntKind.wrap_u8 x
      have HR := Rd.lit wr 5 [x % 128 + 128] (Byt.one (by omega) (by omega)) (by simp)
      have hka : Kp no wr (wr.alloc (.cells (nums .u8 [x % 128 + 128]).toArray 5)) := (Kp.refl _ _).alloc _
      have HO := hO.keepN hka
      clear hk' hd'
      go_wp2_with (first | (at_builtin; refine own_append w.heap.size rfl (.tmp 7) (.tmp 11) 28 5 rfl Tryz.und_bytes Tryz.info_byte u3 d [x % 128 + 128] (some ⟨wr.heap.size, 0, none⟩) 1 1 rfl rfl HO HR (by simp; omega) (by omega) ?_; intro v2 w2 hO2 hk2 _ _))
      go_roundw
      case rel => exact ⟨x / 128, k, _, rfl, by omega, by omega, HK.out, HD.out, hO2, (hkr.then hka).own HO (Nat.le_refl _) hk2⟩
      case measure => simp [intOf]; omega
    · have hd' : vint v = d ++ [x] := by
        rw [hd.out]
        cases k with
        | zero => simp [vi]
        | succ k => rw [vi, if_pos (by omega)]
      have HD := Lib.hid hd'
      clear hd'
      have e2 : IntKind.u8.wrap x = x := IntWalk.u8_in _ (by omega)
      have HR := Rd.lit wr 5 [x] (Byt.one (by omega) (by omega)) (by simp)
      have hka : Kp no wr (wr.alloc (.cells (nums .u8 [x]).toArray 5)) := (Kp.refl _ _).alloc _
      have HO := hO.keepN hka
      go_wp2_with (first | (at_builtin; refine own_append w.heap.size rfl (.tmp 15) (.tmp 18) 28 5 rfl Tryz.und_bytes Tryz.info_byte u3 d [x] (some ⟨wr.heap.size, 0, none⟩) 1 1 rfl rfl HO HR (by simp; omega) (by omega) ?_; intro v2 w2 hO2 hk2 _ _))
      go_ret
      exact Made.of (by rw [HD.out]; exact hO2) ((hkr.then hka).own HO (Nat.le_refl _) hk2)

set_option maxHeartbeats 1000000 in
theorem appUvarint_calls {w : World} (v : Int) (h0 : 0 ≤ v) (h1 : v < 18446744073709551616) :
    Calls Tryz.prog 60 #[.slice none 0 0, .int .u64 v] w (Made w (vint v)) := by
  go_enter Tryz.func60, Tryz.ntmps60
  go_wp2
  go_loopw [1, 0] (fun n u wr => ∃ (x : Int) (k : Nat) (d : List Int), n = .int .u64 x ∧ 0 ≤ x ∧ x < 18446744073709551616 ∧ Hid (x < 2 * 128 ^ k) ∧ Hid (vint v = d ++ vi k x) ∧ Own wr 5 w.heap.size u d ∧ Kp no w wr) (fun n _ _ => (intOf n).toNat)
  case atStart => exact ⟨v, 9, [], rfl, h0, h1, (by show v < 2 * 128 ^ 9; omega), vint_eq v, Own.nil _ _ _, Kp.refl _ _⟩
  case round =>
    obtain ⟨x, k, d, rfl, x0, x1, hk, hd, hO, hkr⟩ := hrel
    have hdl : d.length ≤ 10 := by
      have := vint_len v
      rw [hd.out, List.length_append] at this
      omega
    have hB := hkr.size
    by_cases hx : 128 ≤ x
    · obtain ⟨k, rfl⟩ : ∃ k', k = k' + 1 := by
        cases k with
        | zero => exact absurd hk.out (by simp; omega)
        | succ k => exact ⟨k, rfl⟩
      have hk' : x / 128 < 2 * 128 ^ k := by
        have := hk.out
        rw [Int.pow_succ] at this
        omega
      have hd' : vint v = (d ++ [x % 128 + 128]) ++ vi k (x / 128) := by
        rw [hd.out, vi, if_neg (by omega)]; simp
      have HK := Lib.hid hk'
      have HD := Lib.hid hd'
      have e1 := u8_low x x0 x1
      have e2 := IntKind.wrap_u8 x
      have HR := Rd.lit wr 5 [x % 128 + 128] (Byt.one (by omega) (by omega)) (by simp)
      have hka : Kp no wr (wr.alloc (.cells (nums .u8 [x % 128 + 128]).toArray 5)) := (Kp.refl _ _).alloc _
      have HO := hO.keepN hka
      clear hk' hd'
      go_wp2_with (first | (at_builtin; refine own_append w.heap.size rfl (.tmp 7) (.tmp 11) 28 5 rfl Tryz.und_bytes Tryz.info_byte u0 d [x % 128 + 128] (some ⟨wr.heap.size, 0, none⟩) 1 1 rfl rfl HO HR (by simp; omega) (by omega) ?_; intro v2 w2 hO2 hk2 _ _))
      go_roundw
      case rel => exact ⟨x / 128, k, _, rfl, by omega, by omega, HK.out, HD.out, hO2, (hkr.then hka).own HO (Nat.le_refl _) hk2⟩
      case measure => simp [intOf]; omega
    · have hd' : vint v = d ++ [x] := by
        rw [hd.out]
        cases k with
        | zero => simp [vi]
        | succ k => rw [vi, if_pos (by omega)]
      have HD := Lib.hid hd'
      clear hd'
      have e2 : IntKind.u8.wrap x = x := IntWalk.u8_in _ (by omega)
      have HR := Rd.lit wr 5 [x] (Byt.one (by omega) (by omega)) (by simp)
      have hka : Kp no wr (wr.alloc (.cells (nums .u8 [x]).toArray 5)) := (Kp.refl _ _).alloc _
      have HO := hO.keepN hka
      go_wp2_with (first | (at_builtin; refine own_append w.heap.size rfl (.tmp 15) (.tmp 18) 28 5 rfl Tryz.und_bytes Tryz.info_byte u0 d [x] (some ⟨wr.heap.size, 0, none⟩) 1 1 rfl rfl HO HR (by simp; omega) (by omega) ?_; intro v2 w2 hO2 hk2 _ _))
      go_ret
      exact Made.of (by rw [HD.out]; exact hO2) ((hkr.then hka).own HO (Nat.le_refl _) hk2)

theorem recordPart_calls {w : World} {A : Option Addr} {n c : Nat} {l : List Int} (h : Rd w A n c l) (hn : n ≤ 1099511627776) :
    Calls Tryz.prog 30 #[.slice A n c] w (Made w (part l)) := by
  obtain rfl := h.len
  have D1 := Lib.hid (recordVarint_calls (w := w) (l.length : Int) (by omega) (by omega))
  have HR := Lib.hid h
  have HV := Lib.hid (vint_len (l.length : Int))
  have hw : IntKind.u64.wrap (l.length : Int) = (l.length : Int) := by simp [IntKind.wrap, IntKind.bits, IntKind.signed]; omega
  clear h
  go_enter Tryz.func30, Tryz.ntmps30
  go_wp2_with (fail)
  refine D1.out.mono ?_
  rintro e w1 ⟨A1, c1, rfl, M1⟩
  have HO := M1.own
  have HK := M1.kp
  have HR1 := HR.out.keepN HK
  go_wp2_with (first | (at_builtin; refine own_append w.heap.size rfl (.tmp 6) (.tmp 7) 28 5 rfl Tryz.und_bytes Tryz.info_byte (.slice A1 (vint (l.length : Int)).length c1) (vint (l.length : Int)) l A l.length c rfl rfl HO HR1 HK.size (by have := HV.out; omega) ?_; intro v2 w2 hO2 hk2 _ _))
  go_ret
  exact Made.of hO2 (HK.own HO (Nat.le_refl _) hk2)
end Go.Proofs.YtddofkeajinjpaaGreatDoor
namespace Go.Proofs.YtddofkeajinjpaaGreatDoor
open Go Go.RowKit
set_option linter.unusedVariables false
set_option linter.unusedSimpArgs false
set_option maxRecDepth 100000

def UnsP (w : World) (l : List Int) (e : Ending) (w' : World) : Prop := ∃ A c, e = .returned (.tuple #[.slice A l.length c, .nilIface]) ∧ Rd w' A l.length c l ∧ Lo w'.heap.size A ∧ Kp no w w'
theorem out_new {w w' : World} {A : Option Addr} {n c g : Nat} {l : List Int} (h : Own w' 5 w.heap.size (.slice A n c) l) (hg : g < w.heap.size) (a : Addr) (e : A = some a) (hb : a.block = g) : False := by
  subst e
  have := (h.base a.block rfl).1
  omega
theorem byt1_size : (Tryz.prog.info? 5).map (·.size) = some 1 := by kernel_rfl
theorem Rd.keepNew {w w' : World} {A : Option Addr} {n c g : Nat} {l : List Int} (h : Rd w A n c l) (k : Kp (· = g) w w') (hg : w.heap.size ≤ g) : Rd w' A n c l :=
  ⟨h.len, h.cap, h.max, h.byt, fun hp => by
    obtain ⟨b, o, rfl, hc⟩ := h.at_ hp
    exact ⟨b, o, rfl, fun j hj => k.cell (hc j hj) (by have := World.block_lt_of_cell? _ _ (hc j hj); intro e; have e : b = g := e; have : b < w.heap.size := this; omega)⟩⟩
theorem splice_fill (P Z l : List Int) (h : l.length ≤ Z.length) : splice (nums .u8 (P ++ Z)) P.length (nums .u8 l) = nums .u8 ((P ++ l) ++ Z.drop l.length) := by
  unfold splice
  rw [nums_append, show (nums .u8 P ++ nums .u8 Z).take P.length = nums .u8 P from by rw [show P.length = (nums .u8 P).length from (nums_length _ _).symm, List.take_left],
    show (nums .u8 P ++ nums .u8 Z).drop (P.length + (nums .u8 l).length) = (nums .u8 Z).drop l.length from by rw [nums_length, show P.length = (nums .u8 P).length from (nums_length _ _).symm, List.drop_length_add_append]]
  simp [nums]
section
variable {P : Program} {ops : Array Oper} {rest : List Oper} {o : Oper} {a : Act} {Q : Exit → Act → World → Prop}
/-- 'copy(b[s:], x)' into a row that is filled from its head on. -/
theorem op_copy_into {W : World} {K : Act → World → Prop} (d s : Operand) (dT sT : TypeId)
    (ho : o.op = .call { callee := .builtin .copy, args := #[d, s], argTypes := #[dT, sT] }) (elem : TypeId) (hu : P.underlying dT = some (.slice elem)) (hsz : (P.info? elem).map (·.size) = some 1)
    (g dLen dCap : Nat) (dp : Option Addr) (hd : a.eval d = .slice dp dLen dCap) (A : Option Addr) (n c : Nat) (hs : a.eval s = .slice A n c) (l : List Int) (hR : Rd W A n c l)
    (B Z : List Int) (t : TypeId) (hb : Nw .u8 W g t (B ++ Z)) (hdp : 0 < n → dp = some ⟨g, B.length, none⟩) (hdl : dLen = Z.length) (hfit : n ≤ Z.length)
    (h : ∀ w', Hid (Nw .u8 w' g t ((B ++ l) ++ Z.drop l.length)) → Kp (· = g) W w' → K (a.put o.dst (.int .i64 (n : Int))) w') : Oper.wp P o a W K Q := by
  have hl := hR.len
  by_cases h0 : n = 0
  · subst h0
    obtain rfl : l = [] := List.eq_nil_of_length_eq_zero hl
    have hrun := run_copy_none (P := P) W dT sT o.type elem dp A dLen dCap 0 c hu hsz (Nat.zero_min _)
    unfold Oper.wp
    simp [execOp, ho, resolve, invoke, builtin, hd, hs, hrun, Result.andThen]
    exact h W (show Nw _ _ _ _ _ by simpa using hb) (Kp.refl _ _)
  · obtain rfl := hdp (by omega)
    obtain ⟨g', o', rfl, hc⟩ := hR.at_ (by omega)
    have hnl : (nums .u8 l).length = n := by rw [nums_length, hl]
    have hrun := run_copy_row (P := P) W dT sT o.type elem g B.length dLen dCap ⟨g', o', none⟩ n c (nums .u8 (B ++ Z)).toArray t (nums .u8 l) hu hsz hb (by rw [hnl]; exact (Nat.min_eq_left (by omega)).symm)
      (by
        intro j u hu
        have hj : j < n := by
          rcases Nat.lt_or_ge j n with h | h
          · exact h
          · rw [List.getElem?_eq_none (by omega)] at hu; cases hu
        rw [hR.plus j hj, ← hu]
        simp [nums, List.getD_eq_getElem?_getD, List.getElem?_eq_getElem (show j < l.length by omega)])
      (by rw [hnl]; simp [nums_length]; omega) (by intro u hu; simp only [nums, List.mem_map] at hu; obtain ⟨q, _, rfl⟩ := hu; rfl)
    unfold Oper.wp
    simp only [execOp, ho, resolve, invoke, builtin, Sem.run_bind, Sem.run_pure, Result.andThen_ok, List.map_toArray, List.map_cons, List.map_nil, hd, hs, hrun]
    rw [show goInt (nums .u8 l).length = .int .i64 (n : Int) from by rw [hnl]; rfl]
    refine h _ (show Nw _ _ _ _ _ from ?_) (Kp.setRow (S := (· = g)) (Kp.refl _ W) (fun _ => rfl) _)
    have h2 := setRow_heap W g (nums .u8 (B ++ Z)).toArray (splice (nums .u8 (B ++ Z)) B.length (nums .u8 l)).toArray t (0, 0) hb
    rw [splice_fill B Z l (by omega)] at h2
    have e : (nums .u8 (B ++ Z)).take B.length ++ nums .u8 l ++ (nums .u8 (B ++ Z)).drop (B.length + (nums .u8 l).length) = nums .u8 ((B ++ l) ++ Z.drop l.length) := by
      rw [List.append_assoc]; exact splice_fill B Z l (by omega)
    simp only [List.toList_toArray, ← List.append_assoc] at *
    rw [e]
    exact h2
theorem copy_into {W : World} (hgd : o.guard = none) (d s : Operand) (dT sT : TypeId)
    (ho : o.op = .call { callee := .builtin .copy, args := #[d, s], argTypes := #[dT, sT] }) (elem : TypeId) (hu : P.underlying dT = some (.slice elem)) (hsz : (P.info? elem).map (·.size) = some 1)
    (g dLen dCap : Nat) (dp : Option Addr) (hd : a.eval d = .slice dp dLen dCap) (A : Option Addr) (n c : Nat) (hs : a.eval s = .slice A n c) (l : List Int) (hR : Rd W A n c l)
    (B Z : List Int) (t : TypeId) (hb : Nw .u8 W g t (B ++ Z)) (hdp : 0 < n → dp = some ⟨g, B.length, none⟩) (hdl : dLen = Z.length) (hfit : n ≤ Z.length)
    (h : ∀ w', Hid (Nw .u8 w' g t ((B ++ l) ++ Z.drop l.length)) → Kp (· = g) W w' → wpList P ops Q rest (a.put o.dst (.int .i64 (n : Int))) w') : wpList P ops Q (o :: rest) a W :=
  wpList_plain hgd fun K hK => op_copy_into d s dT sT ho elem hu hsz g dLen dCap dp hd A n c hs l hR B Z t hb hdp hdl hfit fun w' h1 h2 => hK _ _ (h w' h1 h2)
theorem step_copy_into {W : World} {K : Act → World → Prop} {E : Prop} (hgd : o.guard = none) (d s : Operand) (dT sT : TypeId)
    (ho : o.op = .call { callee := .builtin .copy, args := #[d, s], argTypes := #[dT, sT] }) (elem : TypeId) (hu : P.underlying dT = some (.slice elem)) (hsz : (P.info? elem).map (·.size) = some 1)
    (g dLen dCap : Nat) (dp : Option Addr) (hd : a.eval d = .slice dp dLen dCap) (A : Option Addr) (n c : Nat) (hs : a.eval s = .slice A n c) (l : List Int) (hR : Rd W A n c l)
    (B Z : List Int) (t : TypeId) (hb : Nw .u8 W g t (B ++ Z)) (hdp : 0 < n → dp = some ⟨g, B.length, none⟩) (hdl : dLen = Z.length) (hfit : n ≤ Z.length)
    (h : ∀ w', Hid (Nw .u8 w' g t ((B ++ l) ++ Z.drop l.length)) → Kp (· = g) W w' → K (a.put o.dst (.int .i64 (n : Int))) w') : if Region.wanted o (yielded ops a.tmps) = true then Oper.wp P o a W K Q else E := by
  have hw : Region.wanted o (yielded ops a.tmps) = true := by simp [Region.wanted, hgd]
  rw [if_pos hw]
  exact op_copy_into d s dT sT ho elem hu hsz g dLen dCap dp hd A n c hs l hR B Z t hb hdp hdl hfit h
end
set_option maxHeartbeats 16000000 in
theorem makeUnsigned_calls {w : World} {dl l1 l2 : List Int} {A1 A2 : Option Addr} {n1 c1 n2 c2 : Nat} (hd : Byt dl) (hdn : dl.length ≤ 1000) (hR1 : Rd w A1 n1 c1 l1) (hn1 : n1 ≤ 1000) (hR2 : Rd w A2 n2 c2 l2) (hn2 : n2 ≤ 10000) :
    Calls Tryz.prog 50 #[.string (strOfNums dl), .slice A1 n1 c1, .slice A2 n2 c2] w (UnsP w (uns dl l1 l2)) := by
  obtain ⟨c0, w1, hcv, hRM, k1, hc0, hcm0⟩ := str_row (w := w) hd (by omega) (t := 9) (u := 28) Tryz.und_string Tryz.und_bytes
  have hR0 := hRM.rd hd hc0 hcm0
  obtain ⟨gs, hgs⟩ : ∃ x, x = w.heap.size := ⟨_, rfl⟩
  rw [← hgs] at hcv hR0
  have HGS := Lib.hid hgs
  clear hgs
  obtain ⟨n0, hn0⟩ : ∃ x, x = dl.length := ⟨_, rfl⟩
  rw [← hn0] at hcv hR0 hdn
  have HN0 := Lib.hid hn0
  clear hn0
  have HR0 := Lib.hid hR0
  have HK1 := Lib.hid k1
  have HR1 := Lib.hid (hR1.keepN k1)
  have HR2 := Lib.hid (hR2.keepN k1)
  have HN1 := Lib.hid hR1.len
  have HN2 := Lib.hid hR2.len
  generalize strOfNums dl = ds at *
  clear hRM hd hR1 hR2 hR0 hc0 hcm0
  have hmk : ∀ W : World, (Instr.makeSlice 27 (.int .i64 3) (.int .i64 3)).run Tryz.prog W = .ok (.slice (some ⟨W.heap.size, 0, none⟩) 3 3) (W.alloc (.cells #[.slice none 0 0, .slice none 0 0, .slice none 0 0] 28)) := fun _ => by kernel_rfl
  have hw0 : IntKind.u64.wrap (n0 : Int) = (n0 : Int) := by simp [IntKind.wrap, IntKind.bits, IntKind.signed]; omega
  have hw1 : IntKind.u64.wrap (n1 : Int) = (n1 : Int) := by simp [IntKind.wrap, IntKind.bits, IntKind.signed]; omega
  have hw2 : IntKind.u64.wrap (n2 : Int) = (n2 : Int) := by simp [IntKind.wrap, IntKind.bits, IntKind.signed]; omega
  have hsz : (w1.alloc (.cells #[.slice (some ⟨gs, 0, none⟩) n0 c0, .slice A1 n1 c1, .slice A2 n2 c2] 28)).heap.size = w1.heap.size + 1 := by simp
  have BF := (Blk.new w1 #[.slice (some ⟨gs, 0, none⟩) n0 c0, .slice A1 n1 c1, .slice A2 n2 c2] 28).alloc (.cells #[.slice none 0 0, .slice none 0 0, .slice none 0 0] 28)
  have BL := Blk.new (w1.alloc (.cells #[.slice (some ⟨gs, 0, none⟩) n0 c0, .slice A1 n1 c1, .slice A2 n2 c2] 28)) #[.slice none 0 0, .slice none 0 0, .slice none 0 0] 28
  have KA : Kp no w1 ((w1.alloc (.cells #[.slice (some ⟨gs, 0, none⟩) n0 c0, .slice A1 n1 c1, .slice A2 n2 c2] 28)).alloc (.cells #[.slice none 0 0, .slice none 0 0, .slice none 0 0] 28)) := ((Kp.refl _ _).alloc _).alloc _
  rw [hsz] at BL
  clear hsz
  go_enter Tryz.func50, Tryz.ntmps50
  go_upto_block 0 with (fail)
  generalize (w1.alloc (.cells #[.slice (some ⟨gs, 0, none⟩) n0 c0, .slice A1 n1 c1, .slice A2 n2 c2] 28)).alloc (.cells #[.slice none 0 0, .slice none 0 0, .slice none 0 0] 28) = W3 at *
  obtain ⟨gF, hgF⟩ : ∃ x, x = w1.heap.size := ⟨_, rfl⟩
  rw [← hgF] at BF BL ⊢
  obtain ⟨gL, hgL⟩ : ∃ x, x = gF + 1 := ⟨_, rfl⟩
  rw [← hgL] at BL ⊢
  have HGL := Lib.hid (And.intro hgF hgL)
  clear hgF hgL
  clear hcv hmk
  go_wp2
  refine wp_loop_rounds 4 ?_
  have D0 := Lib.hid (appUvarint_calls (w := W3) (n0 : Int) (by omega) (by omega))
  have cF0 : World.cell? W3 ⟨gF, 0, none⟩ = some (.slice (some ⟨gs, 0, none⟩) n0 c0) := BF.cell 0
  rw [rounds_succ]
  go_wp2_with (fail)
  refine D0.out.mono ?_
  rintro e x0 ⟨G0, d0, rfl, M0⟩
  have HV0 := Lib.hid (vint_len (n0 : Int))
  have hv0 := HV0.out.2
  have hu0 := HV0.out.1
  have HVB0 := Lib.hid (vint_byt (n0 : Int) (by omega) (by omega))
  have HP0 := Lib.hid (show vint (n0 : Int) ++ dl = part dl from by rw [show part dl = vint (dl.length : Int) ++ dl from rfl, ← HN0.out])
  have BF0 := BF.keepN M0.kp
  have KX0 := M0.kp
  have BLx0 := BL.keepN M0.kp
  have KAx0 := KA.then M0.kp
  have RG0 := Lib.hid M0.rd
  have RGO0 := Lib.hid (fun (a : Addr) (e : G0 = some a) (h : a.block = gL) => out_new M0.own BL.lt a e h)
  generalize vint (n0 : Int) = V0 at *
  obtain ⟨v0, hvl0⟩ : ∃ x, x = V0.length := ⟨_, rfl⟩
  rw [← hvl0] at hv0 hu0 RG0 ⊢
  have HVL0 := Lib.hid hvl0
  clear hvl0 M0 cF0 D0 BF BL KA
  have cL0 : World.cell? x0 ⟨gL, 0, none⟩ = some (.slice none 0 0) := BLx0.cell 0
  have fL0 := BLx0.free 0
  have BL0 : Blk (x0.setCell ⟨gL, 0, none⟩ (.slice G0 v0 d0)) gL #[.slice G0 v0 d0, .slice none 0 0, .slice none 0 0] 28 := BLx0.set 0 (.slice G0 v0 d0)
  have BFs0 := BF0.far (p := ⟨gL, 0, none⟩) (by show gF ≠ gL; have := HGL.out; omega) (.slice G0 v0 d0)
  have KA0 : Kp no w1 (x0.setCell ⟨gL, 0, none⟩ (.slice G0 v0 d0)) := KAx0.setCell (p := ⟨gL, 0, none⟩) (fun h => by have h : gL < w1.heap.size := h; have := HGL.out; omega) _
  have HRG0 := Lib.hid (RG0.out.keep (Kp.setCell (S := (· = gL)) (Kp.refl _ x0) (p := ⟨gL, 0, none⟩) (fun _ => rfl) (.slice G0 v0 d0)) (fun a e h => by have h : a.block = gL := h; exact RGO0.out a e h))
  have HKX0 := Lib.hid KX0
  clear BF0 BLx0 KAx0 RG0 KX0
  go_wp2
  clear cL0 fL0
  generalize x0.setCell ⟨gL, 0, none⟩ (.slice G0 v0 d0) = y0 at *
  have D1 := Lib.hid (appUvarint_calls (w := y0) (n1 : Int) (by omega) (by omega))
  have cF1 : World.cell? y0 ⟨gF, 1, none⟩ = some (.slice A1 n1 c1) := BFs0.cell 1
  rw [rounds_succ]
  go_wp2_with (fail)
  refine D1.out.mono ?_
  rintro e x1 ⟨G1, d1, rfl, M1⟩
  have HV1 := Lib.hid (vint_len (n1 : Int))
  have hv1 := HV1.out.2
  have hu1 := HV1.out.1
  have HVB1 := Lib.hid (vint_byt (n1 : Int) (by omega) (by omega))
  have HP1 := Lib.hid (show vint (n1 : Int) ++ l1 = part l1 from by rw [show part l1 = vint (l1.length : Int) ++ l1 from rfl, HN1.out])
  have BF1 := BFs0.keepN M1.kp
  have KX1 := M1.kp
  have BLx1 := BL0.keepN M1.kp
  have KAx1 := KA0.then M1.kp
  have RG1 := Lib.hid M1.rd
  have RGO1 := Lib.hid (fun (a : Addr) (e : G1 = some a) (h : a.block = gL) => out_new M1.own BL0.lt a e h)
  generalize vint (n1 : Int) = V1 at *
  obtain ⟨v1, hvl1⟩ : ∃ x, x = V1.length := ⟨_, rfl⟩
  rw [← hvl1] at hv1 hu1 RG1 ⊢
  have HVL1 := Lib.hid hvl1
  clear hvl1 M1 cF1 D1 BFs0 BL0 KA0
  have cL1 : World.cell? x1 ⟨gL, 1, none⟩ = some (.slice none 0 0) := BLx1.cell 1
  have fL1 := BLx1.free 1
  have BL1 : Blk (x1.setCell ⟨gL, 1, none⟩ (.slice G1 v1 d1)) gL #[.slice G0 v0 d0, .slice G1 v1 d1, .slice none 0 0] 28 := BLx1.set 1 (.slice G1 v1 d1)
  have BFs1 := BF1.far (p := ⟨gL, 1, none⟩) (by show gF ≠ gL; have := HGL.out; omega) (.slice G1 v1 d1)
  have KA1 : Kp no w1 (x1.setCell ⟨gL, 1, none⟩ (.slice G1 v1 d1)) := KAx1.setCell (p := ⟨gL, 1, none⟩) (fun h => by have h : gL < w1.heap.size := h; have := HGL.out; omega) _
  have HRG1 := Lib.hid (RG1.out.keep (Kp.setCell (S := (· = gL)) (Kp.refl _ x1) (p := ⟨gL, 1, none⟩) (fun _ => rfl) (.slice G1 v1 d1)) (fun a e h => by have h : a.block = gL := h; exact RGO1.out a e h))
  have HRG0 := Lib.hid ((HRG0.out.keepN KX1).keep (Kp.setCell (S := (· = gL)) (Kp.refl _ x1) (p := ⟨gL, 1, none⟩) (fun _ => rfl) (.slice G1 v1 d1)) (fun a e h => by have h : a.block = gL := h; exact RGO0.out a e h))
  have HKX1 := Lib.hid KX1
  clear BF1 BLx1 KAx1 RG1 KX1
  go_wp2
  clear cL1 fL1
  generalize x1.setCell ⟨gL, 1, none⟩ (.slice G1 v1 d1) = y1 at *
  have D2 := Lib.hid (appUvarint_calls (w := y1) (n2 : Int) (by omega) (by omega))
  have cF2 : World.cell? y1 ⟨gF, 2, none⟩ = some (.slice A2 n2 c2) := BFs1.cell 2
  rw [rounds_succ]
  go_wp2_with (fail)
  refine D2.out.mono ?_
  rintro e x2 ⟨G2, d2, rfl, M2⟩
  have HV2 := Lib.hid (vint_len (n2 : Int))
  have hv2 := HV2.out.2
  have hu2 := HV2.out.1
  have HVB2 := Lib.hid (vint_byt (n2 : Int) (by omega) (by omega))
  have HP2 := Lib.hid (show vint (n2 : Int) ++ l2 = part l2 from by rw [show part l2 = vint (l2.length : Int) ++ l2 from rfl, HN2.out])
  have BF2 := BFs1.keepN M2.kp
  have KX2 := M2.kp
  have BLx2 := BL1.keepN M2.kp
  have KAx2 := KA1.then M2.kp
  have RG2 := Lib.hid M2.rd
  have RGO2 := Lib.hid (fun (a : Addr) (e : G2 = some a) (h : a.block = gL) => out_new M2.own BL1.lt a e h)
  generalize vint (n2 : Int) = V2 at *
  obtain ⟨v2, hvl2⟩ : ∃ x, x = V2.length := ⟨_, rfl⟩
  rw [← hvl2] at hv2 hu2 RG2 ⊢
  have HVL2 := Lib.hid hvl2
  clear hvl2 M2 cF2 D2 BFs1 BL1 KA1
  have cL2 : World.cell? x2 ⟨gL, 2, none⟩ = some (.slice none 0 0) := BLx2.cell 2
  have fL2 := BLx2.free 2
  have BL2 : Blk (x2.setCell ⟨gL, 2, none⟩ (.slice G2 v2 d2)) gL #[.slice G0 v0 d0, .slice G1 v1 d1, .slice G2 v2 d2] 28 := BLx2.set 2 (.slice G2 v2 d2)
  have BFs2 := BF2.far (p := ⟨gL, 2, none⟩) (by show gF ≠ gL; have := HGL.out; omega) (.slice G2 v2 d2)
  have KA2 : Kp no w1 (x2.setCell ⟨gL, 2, none⟩ (.slice G2 v2 d2)) := KAx2.setCell (p := ⟨gL, 2, none⟩) (fun h => by have h : gL < w1.heap.size := h; have := HGL.out; omega) _
  have HRG2 := Lib.hid (RG2.out.keep (Kp.setCell (S := (· = gL)) (Kp.refl _ x2) (p := ⟨gL, 2, none⟩) (fun _ => rfl) (.slice G2 v2 d2)) (fun a e h => by have h : a.block = gL := h; exact RGO2.out a e h))
  have HRG0 := Lib.hid ((HRG0.out.keepN KX2).keep (Kp.setCell (S := (· = gL)) (Kp.refl _ x2) (p := ⟨gL, 2, none⟩) (fun _ => rfl) (.slice G2 v2 d2)) (fun a e h => by have h : a.block = gL := h; exact RGO0.out a e h))
  have HRG1 := Lib.hid ((HRG1.out.keepN KX2).keep (Kp.setCell (S := (· = gL)) (Kp.refl _ x2) (p := ⟨gL, 2, none⟩) (fun _ => rfl) (.slice G2 v2 d2)) (fun a e h => by have h : a.block = gL := h; exact RGO1.out a e h))
  have HKX2 := Lib.hid KX2
  clear BF2 BLx2 KAx2 RG2 KX2
  go_wp2
  clear cL2 fL2
  generalize x2.setCell ⟨gL, 2, none⟩ (.slice G2 v2 d2) = y2 at *
  obtain ⟨m, hm⟩ : ∃ m : Nat, (m : Int) = (n0 : Int) + (v0 : Int) + ((n1 : Int) + (v1 : Int)) + ((n2 : Int) + (v2 : Int)) := ⟨n0 + v0 + (n1 + v1) + (n2 + v2), by omega⟩
  rw [← hm]
  have hmn : m = n0 + v0 + (n1 + v1) + (n2 + v2) := by omega
  have HM := Lib.hid hmn
  have hm2 : m ≤ 20000 := by omega
  have hm3 : 0 ≤ m := by omega
  clear hm hmn
  obtain ⟨i8, hi8, hz8⟩ := Option.map_eq_some_iff.1 Tryz.info_byte
  simp only [Prod.mk.injEq] at hz8
  have HI8 := Lib.hid (And.intro hi8 hz8)
  clear hi8 hz8
  rw [rounds_succ]
  go_wp2_with (first | (at_make; refine wpList_make_full _ rfl (.tmp 51) (.tmp 51) 28 rfl 0 5 i8 (.int .u8 0) 1 Tryz.und_bytes HI8.out.1 HI8.out.2.1 HI8.out.2.2.1 .i64 .i64 _ _ m rfl rfl rfl rfl (by rw [HI8.out.2.2.2]; omega) (by simp only [maxLen]; omega) (Nat.zero_le _) ?_; intro w4 hrow4 hgr4; have k4' : Kp no y2 w4 := (Kp.refl _ _).grown hgr4 (fun k hk _ => by cases hk); have hsz4 : y2.heap.size < w4.heap.size := (Nw.made hrow4 : Nw .u8 w4 y2.heap.size 5 (List.replicate m 0)).lt))
  have HB4 := Lib.hid (Nw.made hrow4 : Nw .u8 w4 y2.heap.size 5 (List.replicate m 0))
  obtain ⟨gB, hgB⟩ : ∃ x, x = y2.heap.size := ⟨_, rfl⟩
  rw [← hgB] at HB4 hsz4 ⊢
  have hFB : gF < gB := by rw [hgB]; exact BFs2.lt
  have hLB : gL < gB := by rw [hgB]; exact BL2.lt
  have HRD0 := Lib.hid (HR0.out.keepN KA2)
  have HRD1 := Lib.hid (HR1.out.keepN KA2)
  have HRD2 := Lib.hid (HR2.out.keepN KA2)
  have HC0 := Lib.hid (fun (wx : World) (k : Kp (· = gB) y2 wx) => And.intro ((BFs2.keep k (show ¬ gF = gB by omega)).cell 0) (And.intro ((BL2.keep k (show ¬ gL = gB by omega)).cell 0) (And.intro (HRG0.out.keepNew k (by omega)) (HRD0.out.keepNew k (by omega)))))
  have HC1 := Lib.hid (fun (wx : World) (k : Kp (· = gB) y2 wx) => And.intro ((BFs2.keep k (show ¬ gF = gB by omega)).cell 1) (And.intro ((BL2.keep k (show ¬ gL = gB by omega)).cell 1) (And.intro (HRG1.out.keepNew k (by omega)) (HRD1.out.keepNew k (by omega)))))
  have HC2 := Lib.hid (fun (wx : World) (k : Kp (· = gB) y2 wx) => And.intro ((BFs2.keep k (show ¬ gF = gB by omega)).cell 2) (And.intro ((BL2.keep k (show ¬ gL = gB by omega)).cell 2) (And.intro (HRG2.out.keepNew k (by omega)) (HRD2.out.keepNew k (by omega)))))
  have HKY := Lib.hid (And.intro KA2 hgB)
  have kz : Kp (· = gB) y2 w4 := k4'.mono (fun _ _ h => h.elim)
  have HKZ := Lib.hid kz
  clear hgB BFs2 BL2 hrow4 hgr4 k4' kz HRG0 HRG1 HRG2 KA2 k1
  have HMM := Lib.hid (And.intro (show v0 + n0 ≤ m by have := HM.out; omega) (And.intro (show v0 + n0 + v1 + n1 ≤ m by have := HM.out; omega) (show v0 + n0 + v1 + n1 + v2 + n2 = m by have := HM.out; omega)))
  clear hw0 hw1 hw2
  refine wp_loop_rounds 4 ?_
  obtain ⟨Z0, hZ0⟩ : ∃ Z : List Int, Z = List.replicate m 0 := ⟨_, rfl⟩
  rw [← hZ0] at HB4
  have HZ0 := Lib.hid (show Z0.length = m from by rw [hZ0]; simp)
  clear hZ0
  have HX0 := Lib.hid (show Nw .u8 w4 gB 5 (([] : List Int) ++ Z0) from HB4.out)
  obtain ⟨B0, hB0⟩ : ∃ B : List Int, B = [] := ⟨_, rfl⟩
  rw [← hB0] at HX0
  have HL0 := Lib.hid (show B0.length = 0 from by rw [hB0]; rfl)
  have HE0 := Lib.hid hB0
  clear HB4 hB0
  rw [rounds_succ]
  have q := HC0.out w4 HKZ.out
  have cF : World.cell? w4 ⟨gF, 0, none⟩ = some (.slice (some ⟨gs, 0, none⟩) n0 c0) := q.1
  have cL : World.cell? w4 ⟨gL, 0, none⟩ = some (.slice G0 v0 d0) := q.2.1
  have hb1 : 0 ≤ m := by have := HMM.out;  omega
  have hb3 : 0 ≤ 20000 := by omega
  have hb4 : (0 : Int) ≤ (0 : Int) := by omega
  have hb5 : (0 : Int) ≤ (m : Int) := by omega
  obtain ⟨C0, hC, hsl⟩ := cut_at gB 0 m m 0 (by omega) (Nat.le_refl _)
  have HCC := Lib.hid (show 0 < m → C0 = some ⟨gB, 0, none⟩ from fun h => (hC h).trans (by simp))
  clear q hC
  have hsl : ∀ W : World, (Instr.slice 28 (.slice (some ⟨gB, 0, none⟩) m m) (some (.int .i64 0)) none none).run Tryz.prog W = .ok (.slice C0 (m - 0) (m - 0)) W := hsl
  have RV := Lib.hid (HC0.out (w4.drew) (HKZ.out.drew)).2.2.1
  have NB := Lib.hid (show Nw .u8 w4.drew gB 5 (B0 ++ Z0) from HX0.out.keepN ((Kp.refl _ _).drew))
  have hw : IntKind.i64.wrap ((v0 : Int)) = (v0 : Int) := by rw [IntKind.wrap_i64]; omega
  have HKD := Lib.hid (show Kp no w4 w4.drew from (Kp.refl _ _).drew)
  go_upto_region 16 with (fail)
  go_region_law (refine step_copy_into rfl (.tmp 63) (.tmp 67) 28 28 rfl 5 Tryz.und_bytes byt1_size gB (m - 0) (m - 0) C0 rfl G0 v0 d0 rfl V0 RV.out B0 Z0 5 NB.out (fun h => by rw [HL0.out]; exact HCC.out (by have := HMM.out;  omega)) (by have := HZ0.out; omega) (by rw [HZ0.out]; have := HMM.out;  omega) ?_; intro za0 HNB k5)
  have HKa0 := Lib.hid (show Kp (· = gB) y2 za0 from (HKZ.out.then HKD.out).trans k5 (fun _ _ h => h))
  obtain ⟨Z1, hZz⟩ : ∃ Z : List Int, Z = Z0.drop V0.length := ⟨_, rfl⟩
  obtain ⟨B1, hBz⟩ : ∃ B : List Int, B = B0 ++ V0 := ⟨_, rfl⟩
  rw [← hZz, ← hBz] at HNB
  have HX1 := Lib.hid HNB.out
  obtain ⟨p0, hp0⟩ : ∃ x : Nat, (x : Int) = (v0 : Int) := ⟨0 + v0, by omega⟩
  have hpn : p0 = 0 + v0 := by omega
  have HPN0 := Lib.hid hpn
  have HZ1 := Lib.hid (show Z1.length = m - p0 from by rw [hZz, List.length_drop, HZ0.out, ← HVL0.out]; omega)
  have HL1 := Lib.hid (show B1.length = p0 from by rw [hBz, List.length_append, HL0.out, ← HVL0.out]; omega)
  have HE1 := Lib.hid hBz
  have hc1 : p0 ≤ m := by have := HMM.out;  omega
  have hc4 : (0 : Int) ≤ (p0 : Int) := by omega
  have hc5 : (p0 : Int) ≤ (m : Int) := by omega
  obtain ⟨E0, hE, hsm⟩ := cut_at gB 0 m m p0 hc1 (Nat.le_refl _)
  have HEE := Lib.hid (show p0 < m → E0 = some ⟨gB, p0, none⟩ from fun h => (hE h).trans (by simp))
  have RD := Lib.hid (HC0.out za0 HKa0.out).2.2.2
  try rw [hw]
  rw [← hp0]
  clear HNB k5 hZz hBz hE hpn hw cF cL hsl hb1 hb3 hb4 hb5 HCC RV NB HKD HX0 hp0
  go_wp2_with (refine copy_into rfl (.tmp 73) (.tmp 74) 28 28 rfl 5 Tryz.und_bytes byt1_size gB (m - p0) (m - p0) E0 rfl (some ⟨gs, 0, none⟩) n0 c0 rfl dl RD.out B1 Z1 5 HX1.out (fun h => by rw [HL1.out]; exact HEE.out (by have := HMM.out; have := HPN0.out;  omega)) (by have := HZ1.out; omega) (by rw [HZ1.out]; have := HMM.out; have := HPN0.out;  omega) ?_; intro z0 HNB k5; have HKz0 := Lib.hid (show Kp (· = gB) y2 z0 from HKa0.out.trans k5 (fun _ _ h => h)); have HNc := Lib.hid HNB.out; clear HNB k5)
  obtain ⟨Z2, hZz⟩ : ∃ Z : List Int, Z = Z1.drop dl.length := ⟨_, rfl⟩
  obtain ⟨B2, hBz⟩ : ∃ B : List Int, B = B1 ++ dl := ⟨_, rfl⟩
  rw [← hZz, ← hBz] at HNc
  have HX2 := Lib.hid HNc.out
  have HRL := Lib.hid RD.out.len
  obtain ⟨o1, ho1⟩ : ∃ x : Nat, (x : Int) = (p0 : Int) + (n0 : Int) := ⟨p0 + n0, by omega⟩
  have hon : o1 = p0 + n0 := by omega
  have HON1 := Lib.hid hon
  have HZ2 := Lib.hid (show Z2.length = m - o1 from by rw [hZz, List.length_drop, HZ1.out, HRL.out]; omega)
  have HL2 := Lib.hid (show B2.length = o1 from by rw [hBz, List.length_append, HL1.out, HRL.out]; omega)
  have HE2 := Lib.hid hBz
  rw [← ho1]
  clear HNc hZz hBz hon hc1 hc4 hc5 hsm HEE RD HX1 HRL ho1
  rw [rounds_succ]
  have q := HC1.out z0 HKz0.out
  have cF : World.cell? z0 ⟨gF, 1, none⟩ = some (.slice A1 n1 c1) := q.1
  have cL : World.cell? z0 ⟨gL, 1, none⟩ = some (.slice G1 v1 d1) := q.2.1
  have hb1 : o1 ≤ m := by have := HMM.out;  have := HPN0.out; have := HON1.out; omega
  have hb3 : o1 ≤ 20000 := by omega
  have hb4 : (0 : Int) ≤ (o1 : Int) := by omega
  have hb5 : (o1 : Int) ≤ (m : Int) := by omega
  obtain ⟨C1, hC, hsl⟩ := cut_at gB 0 m m o1 (by omega) (Nat.le_refl _)
  have HCC := Lib.hid (show o1 < m → C1 = some ⟨gB, o1, none⟩ from fun h => (hC h).trans (by simp))
  clear q hC
  have RV := Lib.hid (HC1.out (z0.drew) (HKz0.out.drew)).2.2.1
  have NB := Lib.hid (show Nw .u8 z0.drew gB 5 (B2 ++ Z2) from HX2.out.keepN ((Kp.refl _ _).drew))
  have hw : IntKind.i64.wrap ((o1 : Int) + (v1 : Int)) = (o1 : Int) + (v1 : Int) := by rw [IntKind.wrap_i64]; omega
  have HKD := Lib.hid (show Kp no z0 z0.drew from (Kp.refl _ _).drew)
  go_upto_region 16 with (fail)
  go_region_law (refine step_copy_into rfl (.tmp 63) (.tmp 67) 28 28 rfl 5 Tryz.und_bytes byt1_size gB (m - o1) (m - o1) C1 rfl G1 v1 d1 rfl V1 RV.out B2 Z2 5 NB.out (fun h => by rw [HL2.out]; exact HCC.out (by have := HMM.out;  have := HPN0.out; have := HON1.out; omega)) (by have := HZ2.out; omega) (by rw [HZ2.out]; have := HMM.out;  have := HPN0.out; have := HON1.out; omega) ?_; intro za1 HNB k5)
  have HKa1 := Lib.hid (show Kp (· = gB) y2 za1 from (HKz0.out.then HKD.out).trans k5 (fun _ _ h => h))
  obtain ⟨Z3, hZz⟩ : ∃ Z : List Int, Z = Z2.drop V1.length := ⟨_, rfl⟩
  obtain ⟨B3, hBz⟩ : ∃ B : List Int, B = B2 ++ V1 := ⟨_, rfl⟩
  rw [← hZz, ← hBz] at HNB
  have HX3 := Lib.hid HNB.out
  obtain ⟨p1, hp1⟩ : ∃ x : Nat, (x : Int) = (o1 : Int) + (v1 : Int) := ⟨o1 + v1, by omega⟩
  have hpn : p1 = o1 + v1 := by omega
  have HPN1 := Lib.hid hpn
  have HZ3 := Lib.hid (show Z3.length = m - p1 from by rw [hZz, List.length_drop, HZ2.out, ← HVL1.out]; omega)
  have HL3 := Lib.hid (show B3.length = p1 from by rw [hBz, List.length_append, HL2.out, ← HVL1.out]; omega)
  have HE3 := Lib.hid hBz
  have hc1 : p1 ≤ m := by have := HMM.out;  have := HPN0.out; have := HON1.out; omega
  have hc4 : (0 : Int) ≤ (p1 : Int) := by omega
  have hc5 : (p1 : Int) ≤ (m : Int) := by omega
  obtain ⟨E1, hE, hsm⟩ := cut_at gB 0 m m p1 hc1 (Nat.le_refl _)
  have HEE := Lib.hid (show p1 < m → E1 = some ⟨gB, p1, none⟩ from fun h => (hE h).trans (by simp))
  have RD := Lib.hid (HC1.out za1 HKa1.out).2.2.2
  try rw [hw]
  rw [← hp1]
  clear HNB k5 hZz hBz hE hpn hw cF cL hsl hb1 hb3 hb4 hb5 HCC RV NB HKD HX2 hp1
  go_wp2_with (refine copy_into rfl (.tmp 73) (.tmp 74) 28 28 rfl 5 Tryz.und_bytes byt1_size gB (m - p1) (m - p1) E1 rfl A1 n1 c1 rfl l1 RD.out B3 Z3 5 HX3.out (fun h => by rw [HL3.out]; exact HEE.out (by have := HMM.out; have := HPN1.out;  have := HPN0.out; have := HON1.out; omega)) (by have := HZ3.out; omega) (by rw [HZ3.out]; have := HMM.out; have := HPN1.out;  have := HPN0.out; have := HON1.out; omega) ?_; intro z1 HNB k5; have HKz1 := Lib.hid (show Kp (· = gB) y2 z1 from HKa1.out.trans k5 (fun _ _ h => h)); have HNc := Lib.hid HNB.out; clear HNB k5)
  obtain ⟨Z4, hZz⟩ : ∃ Z : List Int, Z = Z3.drop l1.length := ⟨_, rfl⟩
  obtain ⟨B4, hBz⟩ : ∃ B : List Int, B = B3 ++ l1 := ⟨_, rfl⟩
  rw [← hZz, ← hBz] at HNc
  have HX4 := Lib.hid HNc.out
  have HRL := Lib.hid RD.out.len
  obtain ⟨o2, ho2⟩ : ∃ x : Nat, (x : Int) = (p1 : Int) + (n1 : Int) := ⟨p1 + n1, by omega⟩
  have hon : o2 = p1 + n1 := by omega
  have HON2 := Lib.hid hon
  have HZ4 := Lib.hid (show Z4.length = m - o2 from by rw [hZz, List.length_drop, HZ3.out, HRL.out]; omega)
  have HL4 := Lib.hid (show B4.length = o2 from by rw [hBz, List.length_append, HL3.out, HRL.out]; omega)
  have HE4 := Lib.hid hBz
  rw [← ho2]
  clear HNc hZz hBz hon hc1 hc4 hc5 hsm HEE RD HX3 HRL ho2
  rw [rounds_succ]
  have q := HC2.out z1 HKz1.out
  have cF : World.cell? z1 ⟨gF, 2, none⟩ = some (.slice A2 n2 c2) := q.1
  have cL : World.cell? z1 ⟨gL, 2, none⟩ = some (.slice G2 v2 d2) := q.2.1
  have hb1 : o2 ≤ m := by have := HMM.out;  have := HPN0.out; have := HON1.out; have := HPN1.out; have := HON2.out; omega
  have hb3 : o2 ≤ 20000 := by omega
  have hb4 : (0 : Int) ≤ (o2 : Int) := by omega
  have hb5 : (o2 : Int) ≤ (m : Int) := by omega
  obtain ⟨C2, hC, hsl⟩ := cut_at gB 0 m m o2 (by omega) (Nat.le_refl _)
  have HCC := Lib.hid (show o2 < m → C2 = some ⟨gB, o2, none⟩ from fun h => (hC h).trans (by simp))
  clear q hC
  have RV := Lib.hid (HC2.out (z1.drew) (HKz1.out.drew)).2.2.1
  have NB := Lib.hid (show Nw .u8 z1.drew gB 5 (B4 ++ Z4) from HX4.out.keepN ((Kp.refl _ _).drew))
  have hw : IntKind.i64.wrap ((o2 : Int) + (v2 : Int)) = (o2 : Int) + (v2 : Int) := by rw [IntKind.wrap_i64]; omega
  have HKD := Lib.hid (show Kp no z1 z1.drew from (Kp.refl _ _).drew)
  go_upto_region 16 with (fail)
  go_region_law (refine step_copy_into rfl (.tmp 63) (.tmp 67) 28 28 rfl 5 Tryz.und_bytes byt1_size gB (m - o2) (m - o2) C2 rfl G2 v2 d2 rfl V2 RV.out B4 Z4 5 NB.out (fun h => by rw [HL4.out]; exact HCC.out (by have := HMM.out;  have := HPN0.out; have := HON1.out; have := HPN1.out; have := HON2.out; omega)) (by have := HZ4.out; omega) (by rw [HZ4.out]; have := HMM.out;  have := HPN0.out; have := HON1.out; have := HPN1.out; have := HON2.out; omega) ?_; intro za2 HNB k5)
  have HKa2 := Lib.hid (show Kp (· = gB) y2 za2 from (HKz1.out.then HKD.out).trans k5 (fun _ _ h => h))
  obtain ⟨Z5, hZz⟩ : ∃ Z : List Int, Z = Z4.drop V2.length := ⟨_, rfl⟩
  obtain ⟨B5, hBz⟩ : ∃ B : List Int, B = B4 ++ V2 := ⟨_, rfl⟩
  rw [← hZz, ← hBz] at HNB
  have HX5 := Lib.hid HNB.out
  obtain ⟨p2, hp2⟩ : ∃ x : Nat, (x : Int) = (o2 : Int) + (v2 : Int) := ⟨o2 + v2, by omega⟩
  have hpn : p2 = o2 + v2 := by omega
  have HPN2 := Lib.hid hpn
  have HZ5 := Lib.hid (show Z5.length = m - p2 from by rw [hZz, List.length_drop, HZ4.out, ← HVL2.out]; omega)
  have HL5 := Lib.hid (show B5.length = p2 from by rw [hBz, List.length_append, HL4.out, ← HVL2.out]; omega)
  have HE5 := Lib.hid hBz
  have hc1 : p2 ≤ m := by have := HMM.out;  have := HPN0.out; have := HON1.out; have := HPN1.out; have := HON2.out; omega
  have hc4 : (0 : Int) ≤ (p2 : Int) := by omega
  have hc5 : (p2 : Int) ≤ (m : Int) := by omega
  obtain ⟨E2, hE, hsm⟩ := cut_at gB 0 m m p2 hc1 (Nat.le_refl _)
  have HEE := Lib.hid (show p2 < m → E2 = some ⟨gB, p2, none⟩ from fun h => (hE h).trans (by simp))
  have RD := Lib.hid (HC2.out za2 HKa2.out).2.2.2
  try rw [hw]
  rw [← hp2]
  clear HNB k5 hZz hBz hE hpn hw cF cL hsl hb1 hb3 hb4 hb5 HCC RV NB HKD HX4 hp2
  go_wp2_with (refine copy_into rfl (.tmp 73) (.tmp 74) 28 28 rfl 5 Tryz.und_bytes byt1_size gB (m - p2) (m - p2) E2 rfl A2 n2 c2 rfl l2 RD.out B5 Z5 5 HX5.out (fun h => by rw [HL5.out]; exact HEE.out (by have := HMM.out; have := HPN2.out;  have := HPN0.out; have := HON1.out; have := HPN1.out; have := HON2.out; omega)) (by have := HZ5.out; omega) (by rw [HZ5.out]; have := HMM.out; have := HPN2.out;  have := HPN0.out; have := HON1.out; have := HPN1.out; have := HON2.out; omega) ?_; intro z2 HNB k5; have HKz2 := Lib.hid (show Kp (· = gB) y2 z2 from HKa2.out.trans k5 (fun _ _ h => h)); have HNc := Lib.hid HNB.out; clear HNB k5)
  obtain ⟨Z6, hZz⟩ : ∃ Z : List Int, Z = Z5.drop l2.length := ⟨_, rfl⟩
  obtain ⟨B6, hBz⟩ : ∃ B : List Int, B = B5 ++ l2 := ⟨_, rfl⟩
  rw [← hZz, ← hBz] at HNc
  have HX6 := Lib.hid HNc.out
  have HRL := Lib.hid RD.out.len
  obtain ⟨o3, ho3⟩ : ∃ x : Nat, (x : Int) = (p2 : Int) + (n2 : Int) := ⟨p2 + n2, by omega⟩
  have hon : o3 = p2 + n2 := by omega
  have HON3 := Lib.hid hon
  have HZ6 := Lib.hid (show Z6.length = m - o3 from by rw [hZz, List.length_drop, HZ5.out, HRL.out]; omega)
  have HL6 := Lib.hid (show B6.length = o3 from by rw [hBz, List.length_append, HL5.out, HRL.out]; omega)
  have HE6 := Lib.hid hBz
  rw [← ho3]
  clear HNc hZz hBz hon hc1 hc4 hc5 hsm HEE RD HX5 HRL ho3
  have hom : o3 = m := by have := HMM.out; have := HPN0.out; have := HON1.out; have := HPN1.out; have := HON2.out; have := HPN2.out; have := HON3.out; omega
  have hct := cutTo (P := Tryz.prog) Tryz.und_bytes Tryz.size_byte (some ⟨gB, 0, none⟩) m m .i64 (o3 : Int) (by omega) (by omega) (Nat.le_refl _)
  rw [Int.toNat_natCast] at hct
  have HOM := Lib.hid hom
  clear hom
  rw [rounds_succ]
  go_wp2
  go_ret2
  have hZ : Z6 = [] := List.eq_nil_of_length_eq_zero (by rw [HZ6.out, HOM.out]; omega)
  have hB : B6 = uns dl l1 l2 := by
    rw [HE6.out, HE5.out, HE4.out, HE3.out, HE2.out, HE1.out, HE0.out]
    unfold uns
    rw [← HP0.out, ← HP1.out, ← HP2.out]
    simp
  have hN := HX6.out
  rw [hZ, List.append_nil, hB] at hN
  have hul : (uns dl l1 l2).length = o3 := by rw [← hB]; exact HL6.out
  have hyb : Byt (uns dl l1 l2) := by
    rw [← hB, HE6.out, HE5.out, HE4.out, HE3.out, HE2.out, HE1.out, HE0.out]
    exact (((((Byt.nil.app HVB0.out).app HR0.out.byt).app HVB1.out).app HR1.out.byt).app HVB2.out).app HR2.out.byt
  have hrd := hN.rd (n := o3) hul hyb (by have := HOM.out; omega)
  refine ⟨some ⟨gB, 0, none⟩, m, by rw [hul]; rfl, by rw [hul]; exact ⟨hrd.len, by have := HOM.out; omega, by omega, hrd.byt, hrd.at_⟩, fun a e => by cases e; exact hN.lt, HK1.out.then (HKY.out.1.trans HKz2.out (fun i hi e => by have e : i = gB := e; have := HKY.out.2; have := HKY.out.1.size; omega))⟩
end Go.Proofs.YtddofkeajinjpaaGreatDoor
