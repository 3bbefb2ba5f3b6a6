/- gomultihash.Encode of few bytes; the hashers: GetVariableHasher, Write, Sum and Size of both. Which bytes come out is not said, but how many. -/
import Derived.Test.YthdbchahmbcfeaaDoorEdB
import Derived.Test.YthdbchahmbcfeaaDoorDgA
namespace Go.Proofs.YthdbchahmbcfeaaDoor
open Go Go.RowKit
set_option linter.unusedVariables false
set_option linter.unusedSimpArgs false
set_option maxRecDepth 100000

/-- A row of so many bytes, made behind w. -/
def RowP (w : World) (n : Nat) (v : Value) (w' : World) : Prop := ∃ g L, v = .slice (some ⟨g, 0, none⟩) n n ∧ L.length = n ∧ Byt L ∧ Nw .u8 w' g 5 L ∧ w.heap.size ≤ g ∧ Kp no w w'
def EncP (w : World) (n : Nat) (e : Ending) (w' : World) : Prop := ∃ v, e = .returned (.tuple #[v, .nilIface]) ∧ RowP w n v w'
set_option maxHeartbeats 2000000 in
theorem encode_calls {w : World} {A : Option Addr} {n c : Nat} {l : List Int} (hR : Rd w A n c l) (hn : 0 < n) (hn2 : n < 128) (x : Nat) (hx : x < 128) :
    Calls Tryd.prog 32 #[.slice A n c, .int .u64 (x : Int)] w (EncP w (n + 2)) := by
  obtain ⟨i8, hi8, hz8⟩ := Option.map_eq_some_iff.1 Tryd.info_byte
  simp only [Prod.mk.injEq] at hz8
  have HI8 := Lib.hid (And.intro hi8 hz8)
  have HR := Lib.hid hR
  obtain ⟨m, hm⟩ : ∃ m, n + 2 = m := ⟨_, rfl⟩
  rw [hm]
  have HM := Lib.hid hm
  have hmi : 2 + (n : Int) = (m : Int) := by omega
  have hm3 : 3 ≤ m := by omega
  have hm2 : m ≤ 130 := by omega
  obtain ⟨g, hg⟩ : ∃ g, g = w.heap.size := ⟨_, rfl⟩
  have HG := Lib.hid hg
  have hc1 := cutAt (P := Tryd.prog) Tryd.und_bytes info_byte1 g 0 m m 1 (by omega) (by omega)
  have hc2 := cutAt (P := Tryd.prog) Tryd.und_bytes info_byte1 g 0 m m 2 (by omega) (by omega)
  simp only [Nat.zero_add] at hc1 hc2
  have hc1 : ∀ W : World, (Instr.slice 22 (.slice (some ⟨g, 0, none⟩) m m) (some (.int .i64 1)) none none).run Tryd.prog W = .ok (.slice (some ⟨g, 1, none⟩) (m - 1) (m - 1)) W := hc1
  have hc2 : ∀ W : World, (Instr.slice 22 (.slice (some ⟨g, 0, none⟩) m m) (some (.int .i64 2)) none none).run Tryd.prog W = .ok (.slice (some ⟨g, 2, none⟩) (m - 2) (m - 2)) W := hc2
  have D1 := Lib.hid (vsize_small x hx w)
  have D2 := Lib.hid (vsize_small n hn2 w)
  clear hi8 hz8 hR hm hg
  go_enter Tryd.func32, Tryd.ntmps32
  go_wp2_with (fail)
  refine D1.out.mono ?_
  rintro e w1 ⟨rfl, rfl⟩
  go_wp2_with (fail)
  refine D2.out.mono ?_
  rintro e w1 ⟨rfl, rfl⟩
  clear D1 D2
  go_wp2_with (first
    | (at_make; refine wpList_make_full _ rfl (.tmp 17) (.tmp 17) 22 rfl w.heap.size 5 i8 (.int .u8 0) 1 Tryd.und_bytes HI8.out.1 HI8.out.2.1 HI8.out.2.2.1 .i64 .i64 _ _ m rfl rfl rfl rfl (by rw [HI8.out.2.2.2]; omega) (by simp only [maxLen]; omega) (Nat.le_refl _) ?_; intro w4 hrow4 hgr4; have k4 : Kp no w w4 := (Kp.refl _ _).grown hgr4 (fun k hk _ => by cases hk); have N4 : Nw .u8 w4 w.heap.size 5 (List.replicate m 0) := Nw.made hrow4; have HR4 := Lib.hid (HR.out.keepN k4); clear hrow4 hgr4; rw [← HG.out] at N4 ⊢; obtain ⟨L4, hL4⟩ : ∃ L, L = List.replicate m (0 : Int) := ⟨_, rfl⟩; rw [← hL4] at N4; have HB4 := Lib.hid (show Byt L4 ∧ L4.length = m from ⟨fun y hy => by rw [hL4] at hy; have := List.eq_of_mem_replicate hy; omega, by rw [hL4]; simp⟩); clear hL4; have D3 := Lib.hid (vput_small N4 0 m m x hx (by omega) (by rw [HB4.out.2]; omega)); clear N4)
    | (go_at_call 41; refine D3.out.mono ?_; rintro e w5 ⟨rfl, N5, k5⟩; have K5 : Kp no w w5 := k4.trans k5 (fun i hi h => by have h : i = g := h; have := HG.out; omega); have HB5 := Lib.hid (show Byt (L4.set 0 (x : Int)) ∧ (L4.set 0 (x : Int)).length = m from ⟨HB4.out.1.set 0 (by omega) (by omega), by rw [List.length_set]; exact HB4.out.2⟩); generalize L4.set 0 (x : Int) = L5 at *; have D4 := Lib.hid (vput_small N5 1 (m - 1) (m - 1) n hn2 (by omega) (by rw [HB5.out.2]; omega)); clear D3 N5 k5 HB4)
    | (go_at_call 41; refine D4.out.mono ?_; rintro e w6 ⟨rfl, N6, k6⟩; have K6 : Kp no w w6 := K5.trans k6 (fun i hi h => by have h : i = g := h; have := HG.out; omega); have HB6 := Lib.hid (show Byt (L5.set 1 (n : Int)) ∧ (L5.set 1 (n : Int)).length = m from ⟨HB5.out.1.set 1 (by omega) (by omega), by rw [List.length_set]; exact HB5.out.2⟩); generalize L5.set 1 (n : Int) = L6 at *; have HR6 := Lib.hid (HR.out.keepN K6); clear k6)
    | (refine copy_some rfl (.tmp 33) (.tmp 34) 22 22 rfl 5 Tryd.und_bytes info_byte1 g 2 (m - 2) (m - 2) rfl A n c rfl l HR6.out hn L6 5 N6 HB6.out.1 (by rw [HB6.out.2]; omega) n (by have := HM.out; omega) ?_; intro w7 L7 N7 b7 hl7 k7; have HL7 := Lib.hid (show L7.length = m from by rw [hl7]; exact HB6.out.2); have K7 : Kp no w w7 := K6.trans k7 (fun i hi h => by have h : i = g := h; have := HG.out; omega); clear hl7 k7))
  have HF := Lib.hid (show EncP w m (.returned (.tuple #[.slice (some ⟨g, 0, none⟩) m m, .nilIface])) w7 from ⟨_, rfl, g, L7, rfl, HL7.out, b7, N7, by rw [HG.out]; exact Nat.le_refl _, K7⟩)
  clear N7 b7 K7
  go_ret2
  exact HF.out

/-- The hasher that lays its bytes down. -/
def IdH (w : World) (g : Nat) : Prop := Blk w g #[.slice none 0 0, .int .i64 0, .int .i8 0] 89
def IdF (w : World) (g n : Nat) : Prop := ∃ gb c L, Blk w g #[.slice (some ⟨gb, 0, none⟩) n c, .int .i64 0, .int .i8 0] 89 ∧ n ≤ c ∧ c ≤ 100 ∧ L.length = c ∧ Byt L ∧ Nw .u8 w gb 5 L
theorem hasherId_calls {w : World} :
    Calls Tryd.prog 24 #[.int .u64 0, .int .i64 (-1)] w fun e w' => e = .returned (.tuple #[.iface 83 (.pointer (some ⟨w.heap.size, 0, none⟩)), .nilIface]) ∧ IdH w' w.heap.size ∧ Kp no w w' := by
  have HF := Lib.hid (show IdH (w.alloc (.cells #[.slice none 0 0, .int .i64 0, .int .i8 0] 89)) w.heap.size ∧ Kp no w (w.alloc (.cells #[.slice none 0 0, .int .i64 0, .int .i8 0] 89)) from ⟨Blk.new _ _ _, (Kp.refl _ _).alloc _⟩)
  go_enter Tryd.func24, Tryd.ntmps24
  go_wp2
  go_ret2
  exact ⟨rfl, HF.out⟩
theorem hasherSha_calls {w : World} :
    Calls Tryd.prog 24 #[.int .u64 18, .int .i64 (-1)] w fun e w' => e = .returned (.tuple #[.iface 106 (.pointer (some ⟨w.heap.size, 0, none⟩)), .nilIface]) ∧ Dg w' w.heap.size ds0 ∧ Kp no w w' := by
  have D := Lib.hid (shaNew_calls (w := w))
  go_enter Tryd.func24, Tryd.ntmps24
  go_wp2_with (fail)
  refine D.out.mono ?_
  rintro e w1 ⟨rfl, h1, k1⟩
  have HF := Lib.hid (And.intro h1 k1)
  clear h1 k1
  go_wp2
  go_ret2
  exact ⟨rfl, HF.out⟩
end Go.Proofs.YthdbchahmbcfeaaDoor
