/- gomultihash: decode, Decode, Cast. -/
import Derived.Test.YthdbchahmbcfeaaDoorMhA
namespace Go.Proofs.YthdbchahmbcfeaaDoor
open Go Go.RowKit
set_option linter.unusedVariables false
set_option linter.unusedSimpArgs false
set_option maxRecDepth 100000

theorem results_cellrow_tmp1 {P : Program} {fn : Func} {p u : Tmp} {ty : TypeId} (h : fn.results = #[.cell p ty, .tmp u]) (tmps : Array Value) (w : World) (g : Nat) (t : TypeId) (cs : Array Value) (d : TypeDesc)
    (hp : tmps.getD p undef = .pointer (some ⟨g, 0, none⟩)) (hg : Blk w g cs t)
    (hu : P.underlying ty = some d) (hd : (match d with | .struct _ | .array _ _ => true | _ => false) = true) (hi : (P.info? ty).map (·.size) = some cs.size) :
    (results fn tmps).run P w = .ok (.tuple #[.agg cs, tmps.getD u undef]) w := by
  have hp' : tmps[p]?.getD undef = .pointer (some ⟨g, 0, none⟩) := by simpa using hp
  have hg' : w.heap[g]? = some (.cells cs t (0, 0)) := hg
  simp only [results, h]
  simp [Sem.run_bind, Result.andThen, hp', asAddr, run_loadVar_row w g t ty cs (0, 0) d hg' hu hd hi]

/-- Bytes are a multihash, whole. -/
def IsMH (l : List Int) : Prop := ∃ code, MH l = some (code, (l.length : Int))
theorem rm_some {w : World} {A : Option Addr} {n c : Nat} {l : List Int} (h : Rd w A n c l) (hE : MErrs w) (hn : n ≤ 1099511627776) {code r : Int} (hm : MH l = some (code, r)) :
    Calls Tryd.prog 50 #[.slice A n c] w fun e w' => ∃ A n' c', e = .returned (.tuple #[.int .i64 r, .int .u64 code, .slice A n' c', Value.nilIface]) ∧ n' ≤ n ∧ Kp no w w' :=
  (readMh_calls h hE hn).mono fun e w' ⟨h1, h2⟩ => by unfold RmO at h1; rw [hm] at h1; obtain ⟨A, n', c', h3, h4⟩ := h1; exact ⟨A, n', c', h3, by rw [← h.len]; exact h4, h2⟩
theorem rm_none {w : World} {A : Option Addr} {n c : Nat} {l : List Int} (h : Rd w A n c l) (hE : MErrs w) (hn : n ≤ 1099511627776) (hm : MH l = none) :
    Calls Tryd.prog 50 #[.slice A n c] w fun e w' => ∃ t x, e = .returned (.tuple #[.int .i64 0, .int .u64 0, .slice none 0 0, .iface t x]) ∧ Kp no w w' :=
  (readMh_calls h hE hn).mono fun e w' ⟨h1, h2⟩ => by unfold RmO at h1; rw [hm] at h1; obtain ⟨t, x, h3⟩ := h1; exact ⟨t, x, h3, h2⟩

theorem infoD : (Tryd.prog.info? 114).map (·.size) = some 4 := by kernel_rfl

def DecO (l : List Int) (e : Ending) : Prop := ∃ (a : Int) (b : ByteArray) (i : Int) (d : Option Addr) (p q : Nat) (z : Value), e = .returned (.tuple #[.agg #[.int .u64 a, .string b, .int .i64 i, .slice d p q], z]) ∧ (IsMH l → z = Value.nilIface) ∧ (¬ IsMH l → ∃ t x, z = .iface t x)

set_option maxHeartbeats 2000000 in
theorem decode_calls {w : World} {A : Option Addr} {n c : Nat} {l : List Int} (h : Rd w A n c l) (hE : MErrs w) (hn : n ≤ 1099511627776) :
    Calls Tryd.prog 42 #[.slice A n c] w fun e w' => DecO l e ∧ Kp no w w' := by
  have hcap := h.cap
  have HL := Lib.hid h.len
  have k0 : Kp no w (w.alloc (.cells #[.int .u64 0, .string ⟨#[]⟩, .int .i64 0, .slice none 0 0] 114)) := (Kp.refl _ _).alloc _
  have hr0 := Blk.new w #[.int .u64 0, .string ⟨#[]⟩, .int .i64 0, .slice none 0 0] 114
  cases hm : MH l with
  | none =>
    have R := Lib.hid (show ¬ IsMH l from fun ⟨c, h⟩ => by rw [hm] at h; cases h)
    have D := Lib.hid (rm_none (h.keepN k0) (hE.keepN k0) hn hm)
    clear hm
    go_enter Tryd.func42, Tryd.ntmps42
    go_wp2_with (first | (go_at_call 50; refine D.out.mono ?_; rintro e w1 ⟨t, x, rfl, k1⟩; have hr1 := hr0.keepN k1; have rf0 := hr1.free 0; have rf1 := hr1.free 1; have rf2 := hr1.free 2; have rf3 := hr1.free 3; have rc0 := hr1.cell 0; have rc1 := hr1.cell 1; have rc2 := hr1.cell 2; have rc3 := hr1.cell 3))
    have k4 := (((((k0.then k1).setCell (p := ⟨w.heap.size, 0, none⟩) (fun h => by simp at h) (.int .u64 0)).setCell (p := ⟨w.heap.size, 1, none⟩) (fun h => by simp at h) (.string ⟨#[]⟩)).setCell (p := ⟨w.heap.size, 2, none⟩) (fun h => by simp at h) (.int .i64 0)).setCell (p := ⟨w.heap.size, 3, none⟩) (fun h => by simp at h) (.slice none 0 0))
    have hr4 := ((((hr1.set 0 (.int .u64 0)).set 1 (.string ⟨#[]⟩)).set 2 (.int .i64 0)).set 3 (.slice none 0 0))
    (try simp only [Exit.inBlock, Exit.then]); refine bodyPost_ret (results_cellrow_tmp1 rfl _ _ w.heap.size 114 #[.int .u64 0, .string ⟨#[]⟩, .int .i64 0, .slice none 0 0] _ rfl hr4 Tryd.underlying114 rfl infoD) rfl ?_
    exact ⟨⟨_, _, _, _, _, _, _, rfl, fun h => absurd h R.out, fun _ => ⟨_, _, rfl⟩⟩, k4⟩
  | some p =>
    obtain ⟨code, r⟩ := p
    have D := Lib.hid (rm_some (h.keepN k0) (hE.keepN k0) hn hm)
    have HM := Lib.hid hm
    clear hm
    by_cases hr : (l.length : Int) = r
    · subst hr
      rw [h.len] at D HM
      have R := Lib.hid (show IsMH l from ⟨code, by rw [h.len]; exact HM.out⟩)
      go_enter Tryd.func42, Tryd.ntmps42
      go_wp2_with (first | (go_at_call 50; refine D.out.mono ?_; rintro e w1 ⟨A1, n1, c1, rfl, hn1, k1⟩; have hr1 := hr0.keepN k1; have rf0 := hr1.free 0; have rf1 := hr1.free 1; have rf2 := hr1.free 2; have rf3 := hr1.free 3; have rc0 := hr1.cell 0; have rc1 := hr1.cell 1; have rc2 := hr1.cell 2; have rc3 := hr1.cell 3))
      have k4 := (((((((((k0.then k1).setCell (p := ⟨w.heap.size, 0, none⟩) (fun h => by simp at h) (.int .u64 code)).setCell (p := ⟨w.heap.size, 1, none⟩) (fun h => by simp at h) (.string ⟨#[]⟩)).setCell (p := ⟨w.heap.size, 2, none⟩) (fun h => by simp at h) (.int .i64 n1)).setCell (p := ⟨w.heap.size, 3, none⟩) (fun h => by simp at h) (.slice A1 n1 c1)).setCell (p := ⟨w.heap.size, 0, none⟩) (fun h => by simp at h) (.int .u64 code)).setCell (p := ⟨w.heap.size, 1, none⟩) (fun h => by simp at h) (.string ⟨#[]⟩)).setCell (p := ⟨w.heap.size, 2, none⟩) (fun h => by simp at h) (.int .i64 n1)).setCell (p := ⟨w.heap.size, 3, none⟩) (fun h => by simp at h) (.slice A1 n1 c1))
      have hr4 := ((((((((hr1.set 0 (.int .u64 code)).set 1 (.string ⟨#[]⟩)).set 2 (.int .i64 n1)).set 3 (.slice A1 n1 c1)).set 0 (.int .u64 code)).set 1 (.string ⟨#[]⟩)).set 2 (.int .i64 n1)).set 3 (.slice A1 n1 c1))
      (try simp only [Exit.inBlock, Exit.then]); refine bodyPost_ret (results_cellrow_tmp1 rfl _ _ w.heap.size 114 #[.int .u64 code, .string ⟨#[]⟩, .int .i64 n1, .slice A1 n1 c1] _ rfl hr4 Tryd.underlying114 rfl infoD) rfl ?_
      exact ⟨⟨_, _, _, _, _, _, _, rfl, fun _ => rfl, fun h => absurd R.out h⟩, k4⟩
    · have hrn : ((n : Int) != r) = true := by rw [← h.len]; simpa using hr
      have R := Lib.hid (show ¬ IsMH l from fun ⟨c, h⟩ => by rw [HM.out] at h; injection h with h; injection h with _ h; exact hr h.symm)
      clear hr
      go_enter Tryd.func42, Tryd.ntmps42
      go_wp2_with (first | (go_at_call 50; refine D.out.mono ?_; rintro e w1 ⟨A1, n1, c1, rfl, hn1, k1⟩; have hr1 := hr0.keepN k1; have rf0 := hr1.free 0; have rf1 := hr1.free 1; have rf2 := hr1.free 2; have rf3 := hr1.free 3; have rc0 := hr1.cell 0; have rc1 := hr1.cell 1; have rc2 := hr1.cell 2; have rc3 := hr1.cell 3))
      have k4 := (((((((((k0.then k1).setCell (p := ⟨w.heap.size, 0, none⟩) (fun h => by simp at h) (.int .u64 code)).setCell (p := ⟨w.heap.size, 1, none⟩) (fun h => by simp at h) (.string ⟨#[]⟩)).setCell (p := ⟨w.heap.size, 2, none⟩) (fun h => by simp at h) (.int .i64 n1)).setCell (p := ⟨w.heap.size, 3, none⟩) (fun h => by simp at h) (.slice A1 n1 c1)).setCell (p := ⟨w.heap.size, 0, none⟩) (fun h => by simp at h) (.int .u64 code)).setCell (p := ⟨w.heap.size, 1, none⟩) (fun h => by simp at h) (.string ⟨#[]⟩)).setCell (p := ⟨w.heap.size, 2, none⟩) (fun h => by simp at h) (.int .i64 n1)).setCell (p := ⟨w.heap.size, 3, none⟩) (fun h => by simp at h) (.slice A1 n1 c1))
      have hr4 := ((((((((hr1.set 0 (.int .u64 code)).set 1 (.string ⟨#[]⟩)).set 2 (.int .i64 n1)).set 3 (.slice A1 n1 c1)).set 0 (.int .u64 code)).set 1 (.string ⟨#[]⟩)).set 2 (.int .i64 n1)).set 3 (.slice A1 n1 c1))
      (try simp only [Exit.inBlock, Exit.then]); refine bodyPost_ret (results_cellrow_tmp1 rfl _ _ w.heap.size 114 #[.int .u64 code, .string ⟨#[]⟩, .int .i64 n1, .slice A1 n1 c1] _ rfl hr4 Tryd.underlying114 rfl infoD) rfl ?_
      exact ⟨⟨_, _, _, _, _, _, _, rfl, fun h => absurd h R.out, fun _ => ⟨_, _, rfl⟩⟩, k4⟩

theorem dec_yes {w : World} {A : Option Addr} {n c : Nat} {l : List Int} (h : Rd w A n c l) (hE : MErrs w) (hn : n ≤ 1099511627776) (hm : IsMH l) :
    Calls Tryd.prog 42 #[.slice A n c] w fun e w' => ∃ (a : Int) (b : ByteArray) (i : Int) (d : Option Addr) (p q : Nat), e = .returned (.tuple #[.agg #[.int .u64 a, .string b, .int .i64 i, .slice d p q], Value.nilIface]) ∧ Kp no w w' :=
  (decode_calls h hE hn).mono fun e w' ⟨⟨a, b, i, d, p, q, z, h1, h2, _⟩, h3⟩ => ⟨a, b, i, d, p, q, by rw [h1, h2 hm], h3⟩
theorem dec_no {w : World} {A : Option Addr} {n c : Nat} {l : List Int} (h : Rd w A n c l) (hE : MErrs w) (hn : n ≤ 1099511627776) (hm : ¬ IsMH l) :
    Calls Tryd.prog 42 #[.slice A n c] w fun e w' => ∃ (a : Int) (b : ByteArray) (i : Int) (d : Option Addr) (p q : Nat) (t : TypeId) (x : Value), e = .returned (.tuple #[.agg #[.int .u64 a, .string b, .int .i64 i, .slice d p q], .iface t x]) ∧ Kp no w w' :=
  (decode_calls h hE hn).mono fun e w' ⟨⟨a, b, i, d, p, q, z, h1, _, h2⟩, h3⟩ => by obtain ⟨t, x, rfl⟩ := h2 hm; exact ⟨a, b, i, d, p, q, t, x, h1, h3⟩
theorem Decode_yes {w : World} {A : Option Addr} {n c : Nat} {l : List Int} (h : Rd w A n c l) (hE : MErrs w) (hn : n ≤ 1099511627776) (hm : IsMH l) :
    Calls Tryd.prog 33 #[.slice A n c] w fun e w' => ∃ p, e = .returned (.tuple #[.pointer p, Value.nilIface]) ∧ Kp no w w' := by
  have D := Lib.hid (dec_yes h hE hn hm)
  go_enter Tryd.func33, Tryd.ntmps33
  go_wp2_with (first | (go_at_call 42; refine D.out.mono ?_; rintro e w1 ⟨a, b, i, d, p, q, rfl, k1⟩))
  go_ret2
  exact ⟨_, rfl, k1.alloc _⟩
theorem Decode_no {w : World} {A : Option Addr} {n c : Nat} {l : List Int} (h : Rd w A n c l) (hE : MErrs w) (hn : n ≤ 1099511627776) (hm : ¬ IsMH l) :
    Calls Tryd.prog 33 #[.slice A n c] w fun e w' => ∃ t x, e = .returned (.tuple #[.pointer none, .iface t x]) ∧ Kp no w w' := by
  have D := Lib.hid (dec_no h hE hn hm)
  go_enter Tryd.func33, Tryd.ntmps33
  go_wp2_with (first | (go_at_call 42; refine D.out.mono ?_; rintro e w1 ⟨a, b, i, d, p, q, t, x, rfl, k1⟩))
  go_ret2
  exact ⟨_, _, rfl, k1.alloc _⟩
/-- Cast. -/
theorem Cast_yes {w : World} {A : Option Addr} {n c : Nat} {l : List Int} (h : Rd w A n c l) (hE : MErrs w) (hn : n ≤ 1099511627776) (hm : IsMH l) :
    Calls Tryd.prog 26 #[.slice A n c] w fun e w' => e = .returned (.tuple #[.slice A n c, Value.nilIface]) ∧ Kp no w w' := by
  have D := Lib.hid (Decode_yes h hE hn hm)
  go_enter Tryd.func26, Tryd.ntmps26
  go_wp2_with (first | (go_at_call 33; refine D.out.mono ?_; rintro e w1 ⟨p, rfl, k1⟩))
  go_ret2
  exact ⟨rfl, k1⟩
theorem Cast_no {w : World} {A : Option Addr} {n c : Nat} {l : List Int} (h : Rd w A n c l) (hE : MErrs w) (hn : n ≤ 1099511627776) (hm : ¬ IsMH l) :
    Calls Tryd.prog 26 #[.slice A n c] w fun e w' => ∃ A' t x, e = .returned (.tuple #[.slice A' 0 0, .iface t x]) ∧ Kp no w w' := by
  have D := Lib.hid (Decode_no h hE hn hm)
  go_enter Tryd.func26, Tryd.ntmps26
  go_wp2_with (first | (go_at_call 33; refine D.out.mono ?_; rintro e w1 ⟨t, x, rfl, k1⟩))
  go_ret2
  exact ⟨_, t, x, rfl, k1.alloc _⟩
end Go.Proofs.YthdbchahmbcfeaaDoor
