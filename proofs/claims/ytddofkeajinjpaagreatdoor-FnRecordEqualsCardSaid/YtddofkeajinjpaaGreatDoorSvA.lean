/- The reference's fields and unsigned bytes: recordField, recordSome, RecordUnsigned; laws.recordOwn. What the record laws ask first: zzFits6, recordShort without keys, RecordSame; impl.Unsigned. -/
import Derived.Test.YtddofkeajinjpaaGreatDoorUnA
import Derived.Test.YtddofkeajinjpaaGreatDoorRowM
import Derived.Test.YtddofkeajinjpaaGreatDoorEMoreP
import Derived.Test.YtddofkeajinjpaaGreatDoorAwA
namespace Go.Proofs.YtddofkeajinjpaaGreatDoor
open Go Go.RowKit
set_option linter.unusedVariables false
set_option linter.unusedSimpArgs false
set_option maxRecDepth 100000

set_option maxHeartbeats 1000000 in
theorem recordField_calls {w : World} {A : Option Addr} {n c : Nat} {l : List Int} (h : Rd w A n c l) (hn : n ≤ 1000000000000) (f : Int) (h0 : 0 ≤ f) (h1 : f ≤ 30) :
    Calls Tryz.prog 27 #[.int .u8 f, .slice A n c] w (Made w (wb f l)) := by
  obtain rfl := h.len
  have e1 : IntKind.u8.wrap (f * 8) = f * 8 := IntWalk.u8_in _ (by omega)
  have e2 : bits .or .u8 (f * 8) 2 = f * 8 + 2 := by
    rw [u8_or _ 2 (by omega) (by omega) (by omega) (by omega)]
    have : (f * 8).toNat ||| (2 : Int).toNat = (f * 8).toNat + 2 := nat_join 3 _ 2 (by omega) (by decide)
    rw [this]; omega
  have O1 := Own.lit w 5 w.heap.size [f * 8 + 2] (Nat.le_refl _) (Byt.one (by omega) (by omega)) (by simp)
  have k1 : Kp no w (w.alloc (.cells (nums .u8 [f * 8 + 2]).toArray 5)) := (Kp.refl _ _).alloc _
  have D1 := Lib.hid (recordPart_calls (h.keepN k1) (by omega))
  have HV := Lib.hid (And.intro (part_len l) (And.intro (vint_len (l.length : Int)) hn))
  have HO1 := Lib.hid O1
  clear h hn O1
  go_enter Tryz.func27, Tryz.ntmps27
  go_wp2_with (fail)
  refine D1.out.mono ?_
  rintro e w1 ⟨A1, c1, rfl, M1⟩
  have HO := HO1.out.keepN M1.kp
  have HR1 := M1.rd
  have hsz := M1.kp.size
  have hlen : ([f * 8 + 2] : List Int).length + (part l).length ≤ 140737488355328 := by
    have := HV.out
    simp only [List.length_cons, List.length_nil]; omega
  go_wp2_with (first | (at_builtin; refine own_append w.heap.size rfl (.tmp 8) (.tmp 10) 28 5 rfl Tryz.und_bytes Tryz.info_byte (.slice (some ⟨w.heap.size, 0, none⟩) 1 1) [f * 8 + 2] (part l) A1 (part l).length c1 rfl rfl HO HR1 (by have := k1.size; omega) hlen ?_; intro v2 w2 hO2 hk2 _ _))
  go_ret
  exact Made.of (by rw [show wb f l = [f * 8 + 2] ++ part l from by simp [wb, part]]; exact hO2) ((k1.then M1.kp).own HO (Nat.le_refl _) hk2)

theorem recordSome_calls {w : World} {A : Option Addr} {n c : Nat} {l : List Int} (h : Rd w A n c l) (hn : n ≤ 1000000000000) (f : Int) (h0 : 0 ≤ f) (h1 : f ≤ 30) :
    Calls Tryz.prog 28 #[.int .u8 f, .slice A n c] w (Made w (ob f l)) := by
  obtain rfl := h.len
  have D1 := Lib.hid (recordField_calls h hn f h0 h1)
  by_cases hl : l = []
  · subst hl
    clear h D1
    go_enter Tryz.func28, Tryz.ntmps28
    go_wp2
    go_ret
    exact Made.of (by rw [show ob f [] = [] from rfl]; exact Own.nil _ _ _) (Kp.refl _ _)
  · have hz : ((l.length : Int) == 0) = false := by
      have : l.length ≠ 0 := fun e => hl (List.eq_nil_of_length_eq_zero e)
      simp; omega
    have e : ob f l = wb f l := by simp [ob, hl]
    rw [e]
    clear h hl e hn
    generalize l.length = n at *
    go_enter Tryz.func28, Tryz.ntmps28
    go_wp2_with (fail)
    refine D1.out.mono ?_
    rintro e w1 ⟨A1, c1, rfl, M1⟩
    generalize wb f l = L at *
    go_wp2
    go_ret
    exact ⟨A1, c1, rfl, M1⟩

theorem recordOwn_calls {w : World} {A : Option Addr} {n c : Nat} {l : List Int} (h : Rd w A n c l) (hn : n ≤ 1000000) :
    Calls Tryz.prog 11 #[.slice A n c] w (Made w l) := by
  obtain rfl := h.len
  have O1 := Own.lit w 5 w.heap.size [] (Nat.le_refl _) Byt.nil (by simp)
  have k1 : Kp no w (w.alloc (.cells (nums .u8 []).toArray 5)) := (Kp.refl _ _).alloc _
  have R1 := h.keepN k1
  have hs := k1.size
  have HH := Lib.hid hn
  clear h hn
  go_enter Tryz.func11, Tryz.ntmps11
  go_wp2_with (first | (at_builtin; refine own_append w.heap.size rfl (.tmp 3) (.tmp 4) 28 5 rfl Tryz.und_bytes Tryz.info_byte (.slice (some ⟨w.heap.size, 0, none⟩) 0 0) [] l A l.length c rfl rfl O1 R1 hs (by have := HH.out; simp; omega) ?_; intro v2 w2 hO2 hk2 _ _))
  go_ret
  exact Made.of hO2 (k1.own O1 (Nat.le_refl _) hk2)

set_option maxHeartbeats 4000000 in
theorem recordUnsigned_calls {w : World} {A1 A2 : Option Addr} {c1 c2 : Nat} {dl l1 l2 : List Int} (hd : Byt dl) (hdn : dl.length ≤ 5000000000) (h1 : Rd w A1 l1.length c1 l1) (hn1 : l1.length ≤ 5000000000) (h2 : Rd w A2 l2.length c2 l2) (hn2 : l2.length ≤ 5000000000) :
    Calls Tryz.prog 20 #[.agg #[.string (strOfNums dl), .slice A1 l1.length c1, .slice A2 l2.length c2]] w (Made w (uns dl l1 l2)) := by
  have hb := Blk.new w #[.string (strOfNums dl), .slice A1 l1.length c1, .slice A2 l2.length c2] 30
  have ka : Kp no w (w.alloc (.cells #[.string (strOfNums dl), .slice A1 l1.length c1, .slice A2 l2.length c2] 30)) := (Kp.refl _ _).alloc _
  rw [show uns dl l1 l2 = (part dl ++ part l1) ++ part l2 from by simp [uns]]
  go_enter Tryz.func20, Tryz.ntmps20
  go_upto_region 1 with (fail)
  generalize w.alloc (.cells #[.string (strOfNums dl), .slice A1 l1.length c1, .slice A2 l2.length c2] 30) = W1 at *
  obtain ⟨c0, W2, hcv, hRM, k2, hc0, hcm0⟩ := str_row (w := W1) hd (by omega) (t := 9) (u := 28) Tryz.und_string Tryz.und_bytes
  have hR0 := hRM.rd hd hc0 hcm0
  have D0 := Lib.hid (recordPart_calls hR0 (by omega))
  have x0 : W1.cell? ⟨w.heap.size, 0, none⟩ = some (.string (strOfNums dl)) := hb.cell 0
  have y1 := Lib.hid (fun W (k : Kp no W1 W) => show W.cell? ⟨w.heap.size, 1, none⟩ = some (.slice A1 l1.length c1) from (hb.keepN k).cell 1)
  have y2 := Lib.hid (fun W (k : Kp no W1 W) => show W.cell? ⟨w.heap.size, 2, none⟩ = some (.slice A2 l2.length c2) from (hb.keepN k).cell 2)
  have D1 := Lib.hid (fun W (k : Kp no W1 W) => recordPart_calls ((h1.keepN ka).keepN k) (by omega))
  have D2 := Lib.hid (fun W (k : Kp no W1 W) => recordPart_calls ((h2.keepN ka).keepN k) (by omega))
  have q0 := part_len dl
  have q1 := part_len l1
  have q2 := part_len l2
  have v0 := vint_len (dl.length : Int)
  have v1 := vint_len (l1.length : Int)
  have v2 := vint_len (l2.length : Int)
  have HS := Lib.hid (show (part dl).length ≤ 6000000000 ∧ (part l1).length ≤ 6000000000 ∧ (part l2).length ≤ 6000000000 from ⟨by omega, by omega, by omega⟩)
  have HKA := Lib.hid ka
  have HK2 := Lib.hid k2
  clear h1 h2 hb ka q0 q1 q2 v0 v1 v2 hRM hR0 hc0 hcm0 hd hdn hn1 hn2 k2
  generalize part dl = P0 at *
  generalize part l1 = P1 at *
  generalize part l2 = P2 at *
  generalize strOfNums dl = ds at *
  generalize dl.length = n0 at *
  generalize l1.length = m1 at *
  generalize l2.length = m2 at *
  go_wp2_with (fail)
  refine D0.out.mono ?_
  rintro e w3 ⟨B0, b0, rfl, M0⟩
  have k3 := HK2.out.then M0.kp
  have z1 := y1.out w3 k3
  have O3 := M0.own.lower HK2.out.size
  have E1 := Lib.hid (D1.out w3 k3)
  go_wp2_with (fail)
  refine E1.out.mono ?_
  rintro e w4 ⟨B1, b1, rfl, M1⟩
  have O4 := O3.keepN M1.kp
  have k4 := k3.then M1.kp
  have R4 := M1.rd
  have s4 := k4.size
  have hlen : P0.length + P1.length ≤ 140737488355328 := by have := HS.out; omega
  go_wp2_with (first | (at_builtin; refine own_append W1.heap.size rfl (.tmp 8) (.tmp 11) 28 5 rfl Tryz.und_bytes Tryz.info_byte (.slice B0 P0.length b0) P0 P1 B1 P1.length b1 rfl rfl O4 R4 s4 hlen ?_; intro v5 w5 O5 hk5 _ _; have k5 := k4.own O4 (Nat.le_refl _) hk5; have z2 := y2.out w5 k5))
  have E2 := Lib.hid (D2.out w5 k5)
  go_wp2_with (fail)
  refine E2.out.mono ?_
  rintro e w6 ⟨B2, b2, rfl, M2⟩
  have O6 := O5.keepN M2.kp
  have k6 := k5.then M2.kp
  have R6 := M2.rd
  have s6 := k6.size
  have hlen2 : (P0 ++ P1).length + P2.length ≤ 140737488355328 := by have := HS.out; simp; omega
  go_wp2_with (first | (at_builtin; refine own_append W1.heap.size rfl (.tmp 13) (.tmp 16) 28 5 rfl Tryz.und_bytes Tryz.info_byte v5 (P0 ++ P1) P2 B2 P2.length b2 rfl rfl O6 R6 s6 hlen2 ?_; intro v7 w7 O7 hk7 _ _))
  go_ret
  exact Made.of (O7.lower HKA.out.size) (HKA.out.then (k6.own O6 (Nat.le_refl _) hk7))
end Go.Proofs.YtddofkeajinjpaaGreatDoor
namespace Go.Proofs.YtddofkeajinjpaaGreatDoor
open Go Go.RowKit
set_option linter.unusedVariables false
set_option linter.unusedSimpArgs false
set_option maxRecDepth 100000

/-- A Boolean is told; if it is true, so is the sentence. -/
def TellB (p : Prop) (e : Ending) : Prop := ∃ b, e = .returned (.bool b) ∧ (b = true → p)
theorem TellB.no (p : Prop) : TellB p (.returned (.bool false)) := ⟨false, rfl, fun h => by cases h⟩
theorem TellB.yes {p : Prop} (h : p) : TellB p (.returned (.bool true)) := ⟨true, rfl, fun _ => h⟩

theorem recordSame_calls {w : World} {A B : Option Addr} {n c m d : Nat} {a b : List Int} (ha : Rd w A n c a) (hb : Rd w B m d b) :
    Calls Tryz.prog 12 #[.slice A n c, .slice B m d] w fun e w' => e = .returned (.bool (decide (a = b))) ∧ Kp no w w' := by
  have s1 := ha.str
  have s2 := hb.str
  have he := strOfNums_beq ha.byt hb.byt
  clear ha hb
  generalize decide (a = b) = q at *
  go_enter Tryz.func12, Tryz.ntmps12
  go_wp2
  go_ret
  exact ⟨rfl, Kp.refl _ _⟩

set_option maxHeartbeats 1000000 in
theorem zzFits6_calls {w : World} (s : ByteArray) (A B : Option Addr) (n c m d : Nat) :
    Calls Tryz.prog 13 #[.agg #[.string s, .slice A n c, .slice B m d]] w fun e w' => Kp no w w' ∧ TellB True e := by
  have hb := Blk.new w #[.string s, .slice A n c, .slice B m d] 30
  have ka : Kp no w (w.alloc (.cells #[.string s, .slice A n c, .slice B m d] 30)) := (Kp.refl _ _).alloc _
  have x0 := hb.cell 0
  have x1 := hb.cell 1
  have x2 := hb.cell 2
  by_cases h0 : 2147483647 < (s.size : Int)
  · go_enter Tryz.func13, Tryz.ntmps13
    go_wp2
    go_ret
    exact ⟨ka, TellB.no _⟩
  by_cases h1 : 2147483647 < (n : Int)
  · go_enter Tryz.func13, Tryz.ntmps13
    go_wp2
    go_ret
    exact ⟨ka, TellB.no _⟩
  by_cases h2 : 2147483647 < (m : Int)
  · go_enter Tryz.func13, Tryz.ntmps13
    go_wp2
    go_ret
    exact ⟨ka, TellB.no _⟩
  go_enter Tryz.func13, Tryz.ntmps13
  go_wp2
  go_ret
  exact ⟨ka, TellB.yes trivial⟩

set_option maxHeartbeats 1000000 in
theorem recordShort_none {w : World} (s : ByteArray) (A B : Option Addr) (n c m d : Nat) :
    Calls Tryz.prog 8 #[.agg #[.string s, .slice A n c, .slice B m d], .slice none 0 0] w fun e w' => Kp no w w' ∧ TellB (s.size ≤ 200 ∧ n ≤ 200 ∧ m ≤ 1000) e := by
  have hb := Blk.new w #[.string s, .slice A n c, .slice B m d] 30
  have ka : Kp no w (w.alloc (.cells #[.string s, .slice A n c, .slice B m d] 30)) := (Kp.refl _ _).alloc _
  have x0 := hb.cell 0
  have x1 := hb.cell 1
  have x2 := hb.cell 2
  have hz : (s.size ≤ 200 ∧ n ≤ 200 ∧ m ≤ 1000) ∨ 200 < (s.size : Int) ∨ ((s.size : Int) ≤ 200 ∧ 200 < (n : Int)) ∨ ((s.size : Int) ≤ 200 ∧ (n : Int) ≤ 200 ∧ 1000 < (m : Int)) := by omega
  rcases hz with hz | h0 | ⟨h0, h1⟩ | ⟨h0, h1, h2⟩
  · have h0 : (s.size : Int) ≤ 200 := by omega
    have h1 : (n : Int) ≤ 200 := by omega
    have h2 : (m : Int) ≤ 1000 := by omega
    have HZ := Lib.hid hz
    clear hz
    have b0 : decide ((s.size : Int) ≤ 200) = true := decide_eq_true h0
    have b1 : decide ((n : Int) ≤ 200) = true := decide_eq_true h1
    have b2 : decide ((m : Int) ≤ 1000) = true := decide_eq_true h2
    go_enter Tryz.func8, Tryz.ntmps8
    go_wp2
    go_loopw [9] (fun i wr => i = .int .i64 0 ∧ wr = w.alloc (.cells #[.string s, .slice A n c, .slice B m d] 30)) (fun _ _ => 0)
    case atStart => exact ⟨rfl, rfl⟩
    case round =>
      obtain ⟨rfl, rfl⟩ := hrel
      go_wp2
      go_ret
      exact ⟨ka, TellB.yes HZ.out⟩
  all_goals
    go_enter Tryz.func8, Tryz.ntmps8
    go_wp2
    go_loopw [9] (fun i wr => i = .int .i64 0 ∧ wr = w.alloc (.cells #[.string s, .slice A n c, .slice B m d] 30)) (fun _ _ => 0)
    case atStart => exact ⟨rfl, rfl⟩
    case round =>
      obtain ⟨rfl, rfl⟩ := hrel
      go_wp2
      go_ret
      first | exact ⟨ka, TellB.no _⟩ | (refine ⟨ka, _, rfl, ?_⟩; simp; omega)
end Go.Proofs.YtddofkeajinjpaaGreatDoor
