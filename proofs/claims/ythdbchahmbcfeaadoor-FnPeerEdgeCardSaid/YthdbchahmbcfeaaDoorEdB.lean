/- Lengths alone: bits.Mul by one, slices.Repeat of one byte; varints of one byte: their size, and how they are put. -/
import Derived.Test.YthdbchahmbcfeaaDoorNRow
import Derived.Test.YthdbchahmbcfeaaDoorShP2
import Derived.Test.YthdbchahmbcfeaaDoorQTail
import Derived.Test.YthdbchahmbcfeaaDoorShaA
import Derived.Test.YthdbchahmbcfeaaDoorShelf
import Derived.LoopN
import Derived.Laws.CopyRow
import Derived.Laws.BitsAllLaws
import Derived.Laws.Bits64b
import Derived.Deep.Cut
import Derived.Deep.CutRange
import Derived.Deep.CutBlock
import Derived.Deep.RegionWith
import Derived.Deep.RegionLaw
import Derived.BigQuiet
import Derived.BigRegion
namespace Go.Proofs.YthdbchahmbcfeaaDoor
open Go Go.RowKit
set_option linter.unusedVariables false
set_option linter.unusedSimpArgs false
set_option maxRecDepth 100000

theorem mask32 (n : Nat) (h : n < 4294967296) : bits .and .u64 (n : Int) 4294967295 = (n : Int) := by
  have h1 := bits_and_u64_nat n 4294967295 (by omega) (by omega)
  have e : n &&& 4294967295 = n % 4294967296 := Nat.and_two_pow_sub_one_eq_mod n 32
  rw [e, Nat.mod_eq_of_lt h] at h1
  exact h1
theorem mul64_one (n : Nat) (hn : n ≤ 1000) (w : World) :
    Calls Tryd.prog 19 #[.int .u64 1, .int .u64 (n : Int)] w fun e w' => e = .returned (.tuple #[.int .u64 0, .int .u64 (n : Int)]) ∧ w = w' := by
  have h1 := mask32 n (by omega)
  have h2 : (n : Int) / 4294967296 = 0 := by omega
  have h3 : bits .and .u64 1 4294967295 = 1 := by decide +kernel
  have h4 : bits .and .u64 0 4294967295 = 0 := by decide +kernel
  go_enter Tryd.func19, Tryd.ntmps19
  go_wp2
  go_ret2
  exact ⟨rfl, rfl⟩
theorem mul_one (n : Nat) (hn : n ≤ 1000) (w : World) :
    Calls Tryd.prog 9 #[.int .u64 1, .int .u64 (n : Int)] w fun e w' => e = .returned (.tuple #[.int .u64 0, .int .u64 (n : Int)]) ∧ w = w' := by
  have D := Lib.hid (mul64_one n hn w)
  go_enter Tryd.func9, Tryd.ntmps9
  go_wp2_with (first | (go_at_call 19; refine D.out.mono ?_; rintro e w1 ⟨rfl, rfl⟩))
  go_ret2
  exact ⟨rfl, rfl⟩

section
variable {P : Program} {ops : Array Oper} {rest : List Oper} {o : Oper} {a : Act} {Q : Exit → Act → World → Prop}
theorem copied {L l : List Int} (hL : Byt L) (hl : Byt l) (o m : Nat) (hm : m ≤ l.length) (hf : o + m ≤ L.length) :
    ∃ L', (nums .u8 L).take o ++ (nums .u8 l).take m ++ (nums .u8 L).drop (o + m) = nums .u8 L' ∧ Byt L' ∧ L'.length = L.length :=
  ⟨L.take o ++ l.take m ++ L.drop (o + m), by simp [nums], ((hL.take _).app (hl.take _)).app (hL.drop _), by simp; omega⟩
/-- 'copy(b[o:], x)' into a row of bytes: as many as go; which bytes the row has then is not said. -/
theorem op_copy_some {W : World} {K : Act → World → Prop} (d s : Operand) (dT sT : TypeId)
    (ho : o.op = .call { callee := .builtin .copy, args := #[d, s], argTypes := #[dT, sT] }) (elem : TypeId) (hu : P.underlying dT = some (.slice elem)) (hsz : (P.info? elem).map (·.size) = some 1)
    (g ofs dLen dCap : Nat) (hd : a.eval d = .slice (some ⟨g, ofs, none⟩) dLen dCap) (A : Option Addr) (n c : Nat) (hs : a.eval s = .slice A n c) (l : List Int) (hR : Rd W A n c l) (hn : 0 < n)
    (L : List Int) (t : TypeId) (hb : Nw .u8 W g t L) (hL : Byt L) (hf : ofs + dLen ≤ L.length) (m : Nat) (hm : min dLen n = m)
    (h : ∀ w' L', Nw .u8 w' g t L' → Byt L' → L'.length = L.length → Kp (· = g) W w' → K (a.put o.dst (.int .i64 (m : Int))) w') : Oper.wp P o a W K Q := by
  have hl := hR.len
  obtain ⟨g', o', rfl, hc⟩ := hR.at_ hn
  have hml : m ≤ l.length := by omega
  have hnl : ((nums .u8 l).take m).length = m := by rw [List.length_take, nums_length]; omega
  have hrun := run_copy_row (P := P) W dT sT o.type elem g ofs dLen dCap ⟨g', o', none⟩ n c (nums .u8 L).toArray t ((nums .u8 l).take m) hu hsz hb (by rw [hnl]; exact (show n.min dLen = m from by rw [← hm]; exact Nat.min_comm _ _).symm)
    (by
      intro j u hu
      have hj : j < m := by
        rcases Nat.lt_or_ge j m with h | h
        · exact h
        · rw [List.getElem?_eq_none (by omega)] at hu; cases hu
      rw [hR.plus j (by omega), ← hu]
      simp [nums, List.getD_eq_getElem?_getD, List.getElem?_eq_getElem (show j < l.length by omega), hj])
    (by rw [hnl]; simp [nums_length]; omega) (by intro u hu; have hu := List.mem_of_mem_take hu; simp only [nums, List.mem_map] at hu; obtain ⟨q, _, rfl⟩ := hu; rfl)
  unfold Oper.wp
  simp only [execOp, ho, resolve, invoke, builtin, Sem.run_bind, Sem.run_pure, Result.andThen_ok, List.map_toArray, List.map_cons, List.map_nil, hd, hs, hrun]
  rw [show goInt ((nums .u8 l).take m).length = .int .i64 (m : Int) from by rw [hnl]; rfl]
  rw [hnl]
  obtain ⟨L', e, hb', hl'⟩ := copied hL hR.byt ofs m hml (by omega)
  have h2 := setRow_heap W g (nums .u8 L).toArray (nums .u8 L').toArray t (0, 0) hb
  simp only [List.toList_toArray] at *
  rw [e]
  exact h _ L' h2 hb' hl' (Kp.setRow (S := (· = g)) (Kp.refl _ W) (fun _ => rfl) _)
theorem copy_some {W : World} (hgd : o.guard = none) (d s : Operand) (dT sT : TypeId)
    (ho : o.op = .call { callee := .builtin .copy, args := #[d, s], argTypes := #[dT, sT] }) (elem : TypeId) (hu : P.underlying dT = some (.slice elem)) (hsz : (P.info? elem).map (·.size) = some 1)
    (g ofs dLen dCap : Nat) (hd : a.eval d = .slice (some ⟨g, ofs, none⟩) dLen dCap) (A : Option Addr) (n c : Nat) (hs : a.eval s = .slice A n c) (l : List Int) (hR : Rd W A n c l) (hn : 0 < n)
    (L : List Int) (t : TypeId) (hb : Nw .u8 W g t L) (hL : Byt L) (hf : ofs + dLen ≤ L.length) (m : Nat) (hm : min dLen n = m)
    (h : ∀ w' L', Nw .u8 w' g t L' → Byt L' → L'.length = L.length → Kp (· = g) W w' → wpList P ops Q rest (a.put o.dst (.int .i64 (m : Int))) w') : wpList P ops Q (o :: rest) a W :=
  wpList_plain hgd fun K hK => op_copy_some d s dT sT ho elem hu hsz g ofs dLen dCap hd A n c hs l hR hn L t hb hL hf m hm fun w' L' h1 h2 h3 h4 => hK _ _ (h w' L' h1 h2 h3 h4)
theorem step_copy_some {W : World} {K : Act → World → Prop} {E : Prop} (hgd : o.guard = none) (d s : Operand) (dT sT : TypeId)
    (ho : o.op = .call { callee := .builtin .copy, args := #[d, s], argTypes := #[dT, sT] }) (elem : TypeId) (hu : P.underlying dT = some (.slice elem)) (hsz : (P.info? elem).map (·.size) = some 1)
    (g ofs dLen dCap : Nat) (hd : a.eval d = .slice (some ⟨g, ofs, none⟩) dLen dCap) (A : Option Addr) (n c : Nat) (hs : a.eval s = .slice A n c) (l : List Int) (hR : Rd W A n c l) (hn : 0 < n)
    (L : List Int) (t : TypeId) (hb : Nw .u8 W g t L) (hL : Byt L) (hf : ofs + dLen ≤ L.length) (m : Nat) (hm : min dLen n = m)
    (h : ∀ w' L', Nw .u8 w' g t L' → Byt L' → L'.length = L.length → Kp (· = g) W w' → K (a.put o.dst (.int .i64 (m : Int))) w') : if Region.wanted o (yielded ops a.tmps) = true then Oper.wp P o a W K Q else E := by
  have hw : Region.wanted o (yielded ops a.tmps) = true := by simp [Region.wanted, hgd]
  rw [if_pos hw]
  exact op_copy_some d s dT sT ho elem hu hsz g ofs dLen dCap hd A n c hs l hR hn L t hb hL hf m hm h
/-- 'b[k:]' of a row, inside it. -/
theorem cutAt {t e : TypeId} (ht : P.underlying t = some (.slice e)) (hi : (P.info? e).map (fun i => i.size) = some 1) (g o n c k : Nat) (hk : k ≤ n) (hc : k < c) (W : World) :
    (Instr.slice t (.slice (some ⟨g, o, none⟩) n c) (some (.int .i64 (k : Int))) none none).run P W = .ok (.slice (some ⟨g, o + k, none⟩) (n - k) (c - k)) W := by
  obtain ⟨i, hi, hsz⟩ := Option.map_eq_some_iff.1 hi
  have hel : P.elem t = e := by simp [Program.elem, ht]
  have hu : P.underlying t = some (.slice (P.elem t)) := by rw [hel]; exact ht
  have ha : (⟨g, o, none⟩ : Addr).add k = ⟨g, o + k, none⟩ := by unfold Addr.add; split <;> simp_all
  rw [run_slice_l W t (some ⟨g, o, none⟩) n c hu .i64 k (by omega) (by omega), hel]
  simp [sizeOf, typeInfo, hi, hsz, sliced, Result.andThen, ha]
  omega
end

theorem info_byte1 : (Tryd.prog.info? 5).map (fun i => i.size) = some 1 := by kernel_rfl
def RepP (w : World) (n : Nat) (e : Ending) (w' : World) : Prop := ∃ g L, e = .returned (.slice (some ⟨g, 0, none⟩) n n) ∧ L.length = n ∧ Byt L ∧ Nw .u8 w' g 5 L ∧ w.heap.size ≤ g ∧ Kp no w w'
set_option maxHeartbeats 1000000 in
/-- 'slices.Repeat' of one byte: so many bytes; which ones is not said. -/
theorem repeat_calls {w : World} {A : Option Addr} {c : Nat} {x : Int} (n : Nat) (hn : 1 ≤ n) (hn2 : n ≤ 1000) (hR : Rd w A 1 c [x]) :
    Calls Tryd.prog 5 #[.slice A 1 c, .int .i64 (n : Int)] w (RepP w n) := by
  have D := Lib.hid (fun W => mul_one n hn2 W)
  obtain ⟨i8, hi8, hz8⟩ := Option.map_eq_some_iff.1 Tryd.info_byte
  simp only [Prod.mk.injEq] at hz8
  have HI8 := Lib.hid (And.intro hi8 hz8)
  have HR := Lib.hid hR
  clear hi8 hz8 hR
  go_enter Tryd.func5, Tryd.ntmps5
  go_upto_block 0 with (first
    | (go_at_call 9; refine (D.out w).mono ?_; rintro e w1 ⟨rfl, rfl⟩)
    | (at_make; refine wpList_make_full _ rfl (.tmp 29) (.tmp 29) 22 rfl w.heap.size 5 i8 (.int .u8 0) 1 Tryd.und_bytes HI8.out.1 HI8.out.2.1 HI8.out.2.2.1 .i64 .i64 _ _ n rfl rfl rfl rfl (by rw [HI8.out.2.2.2]; omega) (by simp only [maxLen]; omega) (Nat.le_refl _) ?_; intro w4 hrow4 hgr4; have k4 : Kp no w w4 := (Kp.refl _ _).grown hgr4 (fun k hk _ => by cases hk); have N4 : Nw .u8 w4 w.heap.size 5 (List.replicate n 0) := Nw.made hrow4; have HR4 := Lib.hid (HR.out.keepN k4); clear hrow4 hgr4)
    | (refine copy_some rfl (.tmp 31) (.tmp 32) 22 22 rfl 5 Tryd.und_bytes info_byte1 w.heap.size 0 n n rfl A 1 c rfl [x] HR4.out (by omega) (List.replicate n 0) 5 N4 (fun y hy => by have := List.eq_of_mem_replicate hy; omega) (by simp) 1 (by omega) ?_; intro w5 L5 N5 b5 hl5 k5; have HL5 := Lib.hid (show L5.length = n from by rw [hl5]; simp); clear hl5))
  obtain ⟨g, hg⟩ : ∃ g, g = w.heap.size := ⟨_, rfl⟩
  rw [← hg] at N5 k5 ⊢
  have HG := Lib.hid hg
  have K5 : Kp no w w5 := k4.trans k5 (fun i hi h => by have h : i = g := h; omega)
  clear k4 k5 hg N4 HR4 D
  generalize decide ((9223372036854775807 : Int) < (n : Int)) = bz
  generalize decide ((n : Int) < 0) = by0
  go_wp2
  go_loopw [8] (fun v wx => ∃ (k : Nat) (L : List Int), v = .int .i64 (k : Int) ∧ 1 ≤ k ∧ k ≤ n ∧ L.length = n ∧ Byt L ∧ Nw .u8 wx g 5 L ∧ Kp no w wx) (fun v _ => n - (intOf v).toNat)
  case atStart => exact ⟨1, L5, rfl, by omega, by omega, HL5.out, b5, N5, K5⟩
  case round =>
    obtain ⟨k, L, rfl, hk1, hkn, hL, hb, hN, hK⟩ := hrel
    have HL := Lib.hid hL
    have HB := Lib.hid hb
    have HK := Lib.hid hK
    have HN := Lib.hid hN
    by_cases hlt : k < n
    · have hlti : (k : Int) < (n : Int) := by omega
      obtain ⟨m, hm⟩ : ∃ m, min (n - k) k = m := ⟨_, rfl⟩
      have hm1 : 1 ≤ m := by omega
      have hmn : k + m ≤ n := by omega
      have HM := Lib.hid hm
      have hc1 := cutAt (P := Tryd.prog) Tryd.und_bytes info_byte1 g 0 n n k (by omega) (by omega)
      have hc2 := cutTo (P := Tryd.prog) Tryd.und_bytes info_byte1 (some ⟨g, 0, none⟩) n n .i64 (k : Int) (by omega) (by omega) (Nat.le_refl _)
      simp only [Nat.zero_add, Int.toNat_natCast] at hc1 hc2
      have HD := Lib.hid (show Nw .u8 wr.drew g 5 L from Blk.drew HN.out)
      have HDR := Lib.hid ((HD.out.rd HL.out HB.out (by omega)).take k (by omega))
      have hw : IntKind.i64.wrap ((k : Int) + (m : Int)) = (k : Int) + (m : Int) := by rw [IntKind.wrap_i64]; omega
      clear hL hb hK hN hm
      go_upto_region 9 with (fail)
      go_region_law ((refine step_copy_some ?ca (.tmp 41) (.tmp 44) 22 22 ?cb 5 Tryd.und_bytes info_byte1 g k (n - k) (n - k) ?cc (some ⟨g, 0, none⟩) k n ?cd (L.take k) HDR.out hk1 L 5 HD.out HB.out ?ce m HM.out ?cf); (case ca => rfl); (case cb => rfl); (case cc => simp [Act.eval, Act.put]); (case cd => simp [Act.eval, Act.put]); (case ce => rw [HL.out]; omega); intro w6 L6 N6 b6 hl6 k6)
      all_goals
        have HL6 := Lib.hid (show L6.length = n from by rw [hl6]; exact HL.out)
        have K6 : Kp no w w6 := (HK.out.drew).trans k6 (fun i hi h => by have h : i = g := h; have := HG.out; omega)
        clear hl6 k6
        go_wp2
        simp only [Act.put, List.getElem_toArray, List.getElem_cons_succ, List.getElem_cons_zero, List.setIfInBounds_toArray, List.set_cons_succ, List.set_cons_zero]
        go_roundw
        case rel => exact ⟨k + m, L6, by go_num, by omega, by omega, HL6.out, b6, N6, K6⟩
        case measure => simp [intOf]; omega
    · obtain rfl : k = n := by omega
      have hlti : ¬ (k : Int) < (k : Int) := by omega
      have HF := Lib.hid (show RepP w k (.returned (.slice (some ⟨g, 0, none⟩) k k)) wr from ⟨g, L, rfl, hL, hb, hN, by rw [HG.out]; exact Nat.le_refl _, hK⟩)
      clear hL hb hN hK
      go_wp2
      go_ret
      exact HF.out

theorem len_small : ∀ n : Fin 128, Lib.bitLen n.val ≤ 7 := by decide +kernel
def SmallP (w : World) (e : Ending) (w' : World) : Prop := (∃ b : Nat, b ≤ 7 ∧ e = .returned (.int .i64 (b : Int))) ∧ w = w'
theorem len64_small (x : Nat) (hx : x < 128) (w : World) : Calls Tryd.prog 48 #[.int .u64 (x : Int)] w (SmallP w) :=
  (Tryd.bits_Len64 x w (by omega) (by omega)).mono fun e w' ⟨h1, h2⟩ => ⟨⟨Lib.bitLen x, len_small ⟨x, hx⟩, by simpa using h1⟩, h2.symm⟩
theorem vsize_small (x : Nat) (hx : x < 128) (w : World) : Calls Tryd.prog 40 #[.int .u64 (x : Int)] w fun e w' => e = .returned (.int .i64 1) ∧ w = w' := by
  have D := Lib.hid (len64_small x hx w)
  go_enter Tryd.func40, Tryd.ntmps40
  go_wp2_with (fail)
  refine D.out.mono ?_
  rintro e w1 ⟨⟨b, hb, rfl⟩, rfl⟩
  rcases (show b = 0 ∨ b = 1 ∨ b = 2 ∨ b = 3 ∨ b = 4 ∨ b = 5 ∨ b = 6 ∨ b = 7 by omega) with rfl | rfl | rfl | rfl | rfl | rfl | rfl | rfl
  all_goals
    clear hb
    go_wp2
    go_ret
    exact ⟨rfl, rfl⟩
theorem bput_small {w : World} {g : Nat} {L : List Int} {t : TypeId} (h : Nw .u8 w g t L) (o n c x : Nat) (hx : x < 128) (hn : 1 ≤ n) (ho : o < L.length) :
    Calls Tryd.prog 49 #[.slice (some ⟨g, o, none⟩) n c, .int .u64 (x : Int)] w fun e w' => e = .returned (.int .i64 1) ∧ Nw .u8 w' g t (L.set o (x : Int)) ∧ Kp (· = g) w w' := by
  have hh := h.set o (x : Int)
  have kk : Kp (· = g) w (w.setCell ⟨g, o, none⟩ (.int .u8 (x : Int))) := (Kp.refl (fun k => k = g) w).setCell (p := ⟨g, o, none⟩) (fun _ => rfl) _
  have hc := h.cell o ho
  have hf := h.free o
  have hx0 : (x : Int) < 128 := by omega
  have hn0 : (0 : Int) < (n : Int) := by omega
  have HH := Lib.hid (And.intro hh kk)
  generalize L.getD o 0 = u0 at hc
  clear h hh kk
  go_enter Tryd.func49, Tryd.ntmps49
  go_wp2
  refine wp_loop_rounds 1 ?_
  rw [rounds_succ]
  go_wp2
  go_ret
  exact ⟨rfl, HH.out⟩
theorem vput_small {w : World} {g : Nat} {L : List Int} {t : TypeId} (h : Nw .u8 w g t L) (o n c x : Nat) (hx : x < 128) (hn : 1 ≤ n) (ho : o < L.length) :
    Calls Tryd.prog 41 #[.slice (some ⟨g, o, none⟩) n c, .int .u64 (x : Int)] w fun e w' => e = .returned (.int .i64 1) ∧ Nw .u8 w' g t (L.set o (x : Int)) ∧ Kp (· = g) w w' := by
  have D := Lib.hid (bput_small h o n c x hx hn ho)
  clear h
  go_enter Tryd.func41, Tryd.ntmps41
  go_wp2_with (first | (go_at_call 49; refine D.out.mono ?_; rintro e w9 ⟨rfl, hN, hk⟩))
  go_ret
  exact ⟨rfl, hN, hk⟩
end Go.Proofs.YthdbchahmbcfeaaDoor
