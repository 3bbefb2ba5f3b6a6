/- A key's message as it is written: (*key).marshal, Marshal, KeyBytes. -/
import Derived.Test.YtddofkeajinjpaaGreatDoorTag
import Derived.Test.YtddofkeajinjpaaGreatDoorSpecB
import Derived.Test.YtddofkeajinjpaaGreatDoorKeyE
namespace Go.Proofs.YtddofkeajinjpaaGreatDoor
open Go Go.RowKit
set_option linter.unusedVariables false
set_option linter.unusedSimpArgs false
set_option maxRecDepth 100000

theorem kb_eq (k : Int) (l : List Int) : kb k l = ([8] ++ vint (ku k) ++ [18]) ++ vint l.length ++ l := by simp [kb, wb]
/-- What Marshal gives: bytes and no error. -/
def MadeOk (w : World) (l : List Int) (e : Ending) (w' : World) : Prop := ∃ A c, e = .returned (.tuple #[.slice A l.length c, .nilIface]) ∧ MadeAt w w' A c l

/-- What KeyBytes gives. -/
def MadeT (w : World) (l : List Int) (e : Ending) (w' : World) : Prop := ∃ A c, e = .returned (.tuple #[.slice A l.length c, .bool true]) ∧ MadeAt w w' A c l
theorem MadeAt.then {w w' w'' : World} {A : Option Addr} {c : Nat} {l : List Int} (h : MadeAt w w' A c l) (k : Kp no w' w'') : MadeAt w w'' A c l := ⟨h.own.keepN k, h.rd.keepN k, h.kp.then k⟩
theorem GrownAt.kpn {w0 w w' : World} {B : Nat} {u : Value} {A : Option Addr} {c : Nat} {l0 l : List Int} {e : TypeId} (h : GrownAt w w' B u A c l) (ho : Own w e B u l0) (hb : w0.heap.size ≤ B) (k : Kp no w0 w) : Kp no w0 w' := k.own ho hb h.kp

set_option maxHeartbeats 1000000 in
theorem kmarshal_calls {w : World} {ad : Addr} {n c : Nat} {l : List Int} (h : Rd w (some ad) n c l) (hn : n ≤ 1099511620000) (hlo : Lo w.heap.size (some ad)) (g b : Nat) (T : TypeId) (k : Int) (h0 : -2147483648 ≤ k) (h1 : k ≤ 2147483647)
    (hb : Blk w g #[.pointer (some ⟨b, 0, none⟩), .slice (some ad) n c] T) (hc : w.cell? ⟨b, 0, none⟩ = some (.int .i32 k)) :
    Calls Tryz.prog 67 #[.pointer (some ⟨g, 0, none⟩)] w (MadeOk w (kb k l)) := by
  have heq := fun W : World => Lib.run_eql_slice_nil (P := Tryz.prog) W 28 5 (some ad) n c 0 0 Tryz.und_bytes
  have ek := wrap_ku k h0 h1
  have hku := ku_range k h0 h1
  have c0 := hb.cell 0
  have c1 := hb.cell 1
  have hl := h.len
  have HK := Lib.hid (kb_eq k l)
  have hv := (vint_len (ku k)).2
  have D1 := Lib.hid (AT_calls (Own.nil w 5 w.heap.size) (Nat.le_refl _) (by simp) 1 0 (by unfold tagOk; omega))
  go_enter Tryz.func67, Tryz.ntmps67
  go_wp2_with (fail)
  refine D1.out.mono ?_
  rintro e w1 ⟨A1, cc1, rfl, hM1⟩
  have k1 : Kp no w w1 := hM1.kpn (Own.nil w 5 w.heap.size) (Nat.le_refl _) (Kp.refl _ _)
  have O1 := hM1.own
  have b1 := hb.keepN k1
  have d1 := b1.cell 0
  have x1 := k1.cellN hc
  have D2 := Lib.hid (AV_calls O1 k1.size (by simp) (ku k) hku.1 hku.2)
  clear hM1
  simp only [List.nil_append, List.length_singleton, Int.reduceMul, Int.reduceAdd, List.length_cons, List.length_nil, Nat.zero_add] at D2 O1 ⊢
  go_wp2_with (fail)
  refine D2.out.mono ?_
  rintro e w2 ⟨A2, cc2, rfl, hM2⟩
  have k2 : Kp no w w2 := hM2.kpn O1 (Nat.le_refl _) k1
  have b2 := hb.keepN k2
  have d2 := b2.cell 1
  have O2 := hM2.own
  have hq : ([8] ++ vint (ku k)).length ≤ 20 := by simp; omega
  clear hM2 D2
  have D3 := Lib.hid (AT_calls O2 k2.size (by omega) 2 2 (by unfold tagOk; omega))
  generalize hqq : [8] ++ vint (ku k) = q at *
  go_wp2_with (fail)
  refine D3.out.mono ?_
  rintro e w3 ⟨A3, cc3, rfl, hM3⟩
  have k3 : Kp no w w3 := hM3.kpn O2 (Nat.le_refl _) k2
  have b3 := hb.keepN k3
  have d3 := b3.cell 1
  have O3 := hM3.own
  have hr : (q ++ [2 * 8 + 2]).length ≤ 21 := by simp; omega
  clear hM3 D3
  have D4 := Lib.hid (AB_calls O3 k3.size (by omega) (h.keepN k3) (by omega) hlo)
  generalize hrr : q ++ [2 * 8 + 2] = r at *
  go_wp2_with (fail)
  refine D4.out.mono ?_
  rintro e w4 ⟨A4, cc4, rfl, hM4⟩
  have k4 : Kp no w w4 := hM4.kpn O3 (Nat.le_refl _) k3
  have e1 : kb k l = r ++ vint n ++ l := by rw [HK.out, ← hl, ← hrr, ← hqq]; rfl
  have F := Lib.hid (show MadeOk w (kb k l) (.returned (.tuple #[.slice A4 (r ++ vint n ++ l).length cc4, .nilIface])) w4 from ⟨A4, cc4, by rw [e1], by rw [e1]; exact ⟨hM4.own, hM4.rd, k4⟩⟩)
  generalize (r ++ vint n ++ l).length = m at *
  go_wp2
  go_ret2
  exact F.out

theorem PKMarshal_calls {w : World} {ad : Addr} {n c : Nat} {l : List Int} (h : Rd w (some ad) n c l) (hn : n ≤ 1099511620000) (hlo : Lo w.heap.size (some ad)) (g b : Nat) (T : TypeId) (k : Int) (h0 : -2147483648 ≤ k) (h1 : k ≤ 2147483647)
    (hb : Blk w g #[.pointer (some ⟨b, 0, none⟩), .slice (some ad) n c] T) (hc : w.cell? ⟨b, 0, none⟩ = some (.int .i32 k)) :
    Calls Tryz.prog 62 #[.pointer (some ⟨g, 0, none⟩)] w (MadeOk w (kb k l)) := by
  have c0 := hb.cell 0
  have c1 := hb.cell 1
  have k1 : Kp no w (w.alloc (.cells #[.pointer (some ⟨b, 0, none⟩), .slice (some ad) n c] 130)) := (Kp.refl _ _).alloc _
  have D := Lib.hid (kmarshal_calls (h.keepN k1) hn (fun a ha => by have := hlo a ha; simp; omega) w.heap.size b _ k h0 h1 (Blk.new w _ _) (k1.cellN hc))
  go_enter Tryz.func62, Tryz.ntmps62
  go_wp2_with (first | (go_at_call 67; refine D.out.mono ?_; rintro e w2 ⟨A2, c2, rfl, hM2⟩))
  have hM := hM2.up k1
  go_ret2
  exact ⟨A2, c2, rfl, hM⟩

end Go.Proofs.YtddofkeajinjpaaGreatDoor
