/- A key's message as it is written: (*key).marshal, Marshal, MarshalPublicKey of a toy key; impl.toyOf. -/
import Derived.Test.YthdbchahmbcfeaaDoorTag
import Derived.Test.YthdbchahmbcfeaaDoorSpecB
import Derived.Test.YthdbchahmbcfeaaDoorKeyA
import Derived.Test.YthdbchahmbcfeaaDoorDgA
import Derived.Deep.RegionHeld3
namespace Go.Proofs.YthdbchahmbcfeaaDoor
open Go Go.RowKit
set_option linter.unusedVariables false
set_option linter.unusedSimpArgs false
set_option maxRecDepth 100000

theorem MadeAt.lo {w w' : World} {A : Option Addr} {c : Nat} {l : List Int} (h : MadeAt w w' A c l) : Lo w'.heap.size A := fun a ha => by
  have := (h.own.base a.block (by rw [ha]; rfl)).2
  omega
theorem kb_eq (k : Int) (l : List Int) : kb k l = ([8] ++ vint (ku k) ++ [18]) ++ vint l.length ++ l := by simp [kb, wb]
/-- What Marshal gives: bytes and no error. -/
def MadeOk (w : World) (l : List Int) (e : Ending) (w' : World) : Prop := ∃ A c, e = .returned (.tuple #[.slice A l.length c, .nilIface]) ∧ MadeAt w w' A c l

/-- What KeyBytes gives. -/
def MadeT (w : World) (l : List Int) (e : Ending) (w' : World) : Prop := ∃ A c, e = .returned (.tuple #[.slice A l.length c, .bool true]) ∧ MadeAt w w' A c l
theorem MadeAt.then {w w' w'' : World} {A : Option Addr} {c : Nat} {l : List Int} (h : MadeAt w w' A c l) (k : Kp no w' w'') : MadeAt w w'' A c l := ⟨h.own.keepN k, h.rd.keepN k, h.kp.then k⟩
theorem GrownAt.kpn {w0 w w' : World} {B : Nat} {u : Value} {A : Option Addr} {c : Nat} {l0 l : List Int} {e : TypeId} (h : GrownAt w w' B u A c l) (ho : Own w e B u l0) (hb : w0.heap.size ≤ B) (k : Kp no w0 w) : Kp no w0 w' := k.own ho hb h.kp

set_option maxHeartbeats 1000000 in
theorem kmarshal_calls {w : World} {ad : Addr} {n c : Nat} {l : List Int} (h : Rd w (some ad) n c l) (hn : n ≤ 1099511620000) (hlo : Lo w.heap.size (some ad)) (g b : Nat) (T : TypeId) (k : Int) (h0 : -2147483648 ≤ k) (h1 : k ≤ 2147483647)
    (hb : Blk w g #[.pointer (some ⟨b, 0, none⟩), .slice (some ad) n c] T) (hc : w.cell? ⟨b, 0, none⟩ = some (.int .i32 k)) :
    Calls Tryd.prog 29 #[.pointer (some ⟨g, 0, none⟩)] w (MadeOk w (kb k l)) := by
  have heq := fun W : World => Lib.run_eql_slice_nil (P := Tryd.prog) W 22 5 (some ad) n c 0 0 Tryd.und_bytes
  have ek := wrap_ku k h0 h1
  have hku := ku_range k h0 h1
  have c0 := hb.cell 0
  have c1 := hb.cell 1
  have hl := h.len
  have HK := Lib.hid (kb_eq k l)
  have hv := (vint_len (ku k)).2
  have D1 := Lib.hid (AT_calls (Own.nil w 5 w.heap.size) (Nat.le_refl _) (by simp) 1 0 (by unfold tagOk; omega))
  go_enter Tryd.func29, Tryd.ntmps29
  go_wp2_with (fail)
  refine D1.out.mono ?_
  rintro e w1 ⟨A1, cc1, rfl, hM1⟩
  have k1 : Kp no w w1 := hM1.kpn (Own.nil w 5 w.heap.size) (Nat.le_refl _) (Kp.refl _ _)
  have O1 := hM1.own
  have b1 := hb.keepN k1
  have d1 := b1.cell 0
  have x1 := k1.cellN hc
  have D2 := Lib.hid (AV_calls O1 k1.size (by simp) (ku k) hku.1 hku.2)
  clear hM1
  simp only [List.nil_append, List.length_singleton, Int.reduceMul, Int.reduceAdd, List.length_cons, List.length_nil, Nat.zero_add] at D2 O1 ⊢
  go_wp2_with (fail)
  refine D2.out.mono ?_
  rintro e w2 ⟨A2, cc2, rfl, hM2⟩
  have k2 : Kp no w w2 := hM2.kpn O1 (Nat.le_refl _) k1
  have b2 := hb.keepN k2
  have d2 := b2.cell 1
  have O2 := hM2.own
  have hq : ([8] ++ vint (ku k)).length ≤ 20 := by simp; omega
  clear hM2 D2
  have D3 := Lib.hid (AT_calls O2 k2.size (by omega) 2 2 (by unfold tagOk; omega))
  generalize hqq : [8] ++ vint (ku k) = q at *
  go_wp2_with (fail)
  refine D3.out.mono ?_
  rintro e w3 ⟨A3, cc3, rfl, hM3⟩
  have k3 : Kp no w w3 := hM3.kpn O2 (Nat.le_refl _) k2
  have b3 := hb.keepN k3
  have d3 := b3.cell 1
  have O3 := hM3.own
  have hr : (q ++ [2 * 8 + 2]).length ≤ 21 := by simp; omega
  clear hM3 D3
  have D4 := Lib.hid (AB_calls O3 k3.size (by omega) (h.keepN k3) (by omega) hlo)
  generalize hrr : q ++ [2 * 8 + 2] = r at *
  go_wp2_with (fail)
  refine D4.out.mono ?_
  rintro e w4 ⟨A4, cc4, rfl, hM4⟩
  have k4 : Kp no w w4 := hM4.kpn O3 (Nat.le_refl _) k3
  have e1 : kb k l = r ++ vint n ++ l := by rw [HK.out, ← hl, ← hrr, ← hqq]; rfl
  have F := Lib.hid (show MadeOk w (kb k l) (.returned (.tuple #[.slice A4 (r ++ vint n ++ l).length cc4, .nilIface])) w4 from ⟨A4, cc4, by rw [e1], by rw [e1]; exact ⟨hM4.own, hM4.rd, k4⟩⟩)
  generalize (r ++ vint n ++ l).length = m at *
  go_wp2
  go_ret2
  exact F.out

theorem PKMarshal_calls {w : World} {ad : Addr} {n c : Nat} {l : List Int} (h : Rd w (some ad) n c l) (hn : n ≤ 1099511620000) (hlo : Lo w.heap.size (some ad)) (g b : Nat) (T : TypeId) (k : Int) (h0 : -2147483648 ≤ k) (h1 : k ≤ 2147483647)
    (hb : Blk w g #[.pointer (some ⟨b, 0, none⟩), .slice (some ad) n c] T) (hc : w.cell? ⟨b, 0, none⟩ = some (.int .i32 k)) :
    Calls Tryd.prog 23 #[.pointer (some ⟨g, 0, none⟩)] w (MadeOk w (kb k l)) := by
  have c0 := hb.cell 0
  have c1 := hb.cell 1
  have k1 : Kp no w (w.alloc (.cells #[.pointer (some ⟨b, 0, none⟩), .slice (some ad) n c] 82)) := (Kp.refl _ _).alloc _
  have D := Lib.hid (kmarshal_calls (h.keepN k1) hn (fun a ha => by have := hlo a ha; simp; omega) w.heap.size b _ k h0 h1 (Blk.new w _ _) (k1.cellN hc))
  go_enter Tryd.func23, Tryd.ntmps23
  go_wp2_with (first | (go_at_call 29; refine D.out.mono ?_; rintro e w2 ⟨A2, c2, rfl, hM2⟩))
  have hM := hM2.up k1
  go_ret2
  exact ⟨A2, c2, rfl, hM⟩

def PKP (w : World) (k : Int) (A : Option Addr) (n c : Nat) (e : Ending) (w' : World) : Prop :=
  Kp no w w' ∧ ∃ gk b, e = .returned (.tuple #[.pointer (some ⟨gk, 0, none⟩), .nilIface]) ∧ Blk w' gk #[.pointer (some ⟨b, 0, none⟩), .slice A n c] 81 ∧ w'.cell? ⟨b, 0, none⟩ = some (.int .i32 k)
set_option maxHeartbeats 4000000 in
theorem pkToProto_calls {w : World} {gt : Nat} {k : Int} {A : Option Addr} {n c : Nat} (hb : Blk w gt #[.int .i32 k, .slice A n c] 64) :
    Calls Tryd.prog 22 #[.iface 28 (.pointer (some ⟨gt, 0, none⟩))] w (PKP w k A n c) := by
  have D1 := Lib.hid (toyRaw_calls hb)
  have D2 := Lib.hid (fun W (kk : Kp no w W) => toyType_calls (w := W) (hb.keepN kk))
  clear hb
  go_enter Tryd.func22, Tryd.ntmps22
  go_wp2_with (fail)
  refine D1.out.mono ?_
  rintro e w1 ⟨rfl, m1, rfl⟩
  have k1 : Kp no w (w.drewN m1) := Kp.byDraws _ _
  generalize w.drewN m1 = w1 at *
  have D2a := Lib.hid (D2.out _ k1)
  go_wp2_with (fail)
  refine D2a.out.mono ?_
  rintro e w2 ⟨rfl, rfl⟩
  have D3 := Lib.hid (Enum_calls (w := w1) k)
  go_wp2_with (fail)
  refine D3.out.mono ?_
  rintro e w2 ⟨b, rfl, hbge, hbc, k2⟩
  have kz : Kp no w2 (w2.alloc (.cells #[.pointer (some ⟨b, 0, none⟩), .slice A n c] 81)) := (Kp.refl _ _).alloc _
  have HF : Hid (PKP w k A n c (.returned (.tuple #[.pointer (some ⟨w2.heap.size, 0, none⟩), .nilIface])) (w2.alloc (.cells #[.pointer (some ⟨b, 0, none⟩), .slice A n c] 81))) :=
    Lib.hid ⟨(k1.then k2).then kz, w2.heap.size, b, rfl, Blk.new w2 _ _, kz.cellN hbc⟩
  clear hbc kz
  go_wp2
  go_ret2
  exact HF.out

def TyP (w : World) (k : Int) (d : List Int) (e : Ending) (w' : World) : Prop := Kp no w w' ∧ ∃ g, e = .returned (.tuple #[.pointer (some ⟨g, 0, none⟩), .bool true]) ∧ ToyAt w' g k d
set_option maxHeartbeats 8000000 in
theorem toyOf_calls {w : World} {A : Option Addr} {n c : Nat} {k : Int} {d : List Int} (hR : Rd w A n c d) (h0 : 0 ≤ k) (h1 : k ≤ 3) (hn : 0 < n) (hn2 : n ≤ 100000) :
    Calls Tryd.prog 7 #[.agg #[.int .i32 k, .slice A n c]] w (TyP w k d) := by
  have hl := hR.len
  have BX := Blk.new w #[.int .i32 k, .slice A n c] 32
  have ka : Kp no w (w.alloc (.cells #[.int .i32 k, .slice A n c] 32)) := (Kp.refl _ _).alloc _
  have kd : Kp no (w.alloc (.cells #[.int .i32 k, .slice A n c] 32)) (w.alloc (.cells #[.int .i32 k, .slice A n c] 32)).drew := (Kp.refl _ _).drew
  have C1 := Lib.hid (Clone_calls (w := (w.alloc (.cells #[.int .i32 k, .slice A n c] 32)).drew) ((hR.keepN ka).keepN kd) (by omega))
  have C2 := Lib.hid (fun (W : World) A1 c1 (hr : Rd W A1 d.length c1 d) (hlo : Lo W.heap.size A1) => newToy_yes (w := W) k h0 h1 hr hlo (by omega) (by omega))
  have b0 := (BX.drew).cell 0
  have q0 : (w.alloc (.cells #[.int .i32 k, .slice A n c] 32)).cell? ⟨w.heap.size, 0, none⟩ = some (.int .i32 k) := BX.cell 0
  have q1 : (w.alloc (.cells #[.int .i32 k, .slice A n c] 32)).cell? ⟨w.heap.size, 1, none⟩ = some (.slice A n c) := BX.cell 1
  have HBX := Lib.hid BX
  obtain ⟨nd, hnd⟩ : ∃ x, x = d.length := ⟨_, rfl⟩
  have HND := Lib.hid hnd
  clear hR hl BX b0 hnd
  go_enter Tryd.func7, Tryd.ntmps7
  go_upto_region 1 with (fail)
  generalize w.alloc (.cells #[.int .i32 k, .slice A n c] 32) = W0 at *
  go_cut [4, 5, 6] from 7 to 14 (fun v4 v5 _ wx => ∃ g, v4 = .pointer (some ⟨g, 0, none⟩) ∧ v5 = .nilIface ∧ ToyAt wx g k d ∧ Kp no w wx)
  case first =>
    go_region_with (first
      | (go_at_call 14; refine D7.out.mono ?_; rintro e w2 ⟨g2, rfl, hg2, ht2, k2⟩)
      | (go_at_call 15; refine C1.out.mono ?_; rintro e w1 ⟨A1, c1, rfl, M1⟩; have D7 := Lib.hid (C2.out w1 A1 c1 M1.rd M1.lo); have q0' : w1.cell? ⟨w.heap.size, 0, none⟩ = some (.int .i32 k) := M1.kp.cellN (kd.cellN q0); have k1 := M1.kp; clear M1; rw [← HND.out] at D7 ⊢))
    all_goals
      go_wp2
      go_meet
      case rel => exact ⟨g2, rfl, rfl, ht2, ((ka.then kd).then k1).then k2⟩
  case rest =>
    obtain ⟨g, rfl, rfl, ht, k1⟩ := hcut
    have HF := Lib.hid (fun nq => (show TyP w k d (.returned (.tuple #[.pointer (some ⟨g, 0, none⟩), .bool true])) (wc.drewN nq) from ⟨k1.then (Kp.byDraws _ nq), g, rfl, ht.keepN (Kp.byDraws _ nq)⟩))
    clear ht
    go_upto_region 2 with (fail)
    go_quiet (fail)
    go_wp2
    go_ret2
    exact HF.out _
/-- MarshalPublicKey of a toy key. -/
theorem marshalPK_calls {w : World} {gt : Nat} {k : Int} {d : List Int} (hT : ToyAt w gt k d) (h0 : 0 ≤ k) (h1 : k ≤ 3) (hd0 : 0 < d.length) (hd : d.length ≤ 300) :
    Calls Tryd.prog 16 #[.iface 28 (.pointer (some ⟨gt, 0, none⟩))] w (MadeOk w (kb k d)) := by
  obtain ⟨A, n, c, hbt, hR0, hL0, _⟩ := hT
  have hn0 := hR0.len
  obtain ⟨ga, oa, rfl, _⟩ := hR0.at_ (by omega)
  have D1 := Lib.hid (pkToProto_calls hbt)
  have D2 := Lib.hid (fun (W : World) (gk b : Nat) (kk : Kp no w W) (hbk : Blk W gk #[.pointer (some ⟨b, 0, none⟩), .slice (some ⟨ga, oa, none⟩) n c] 81) (hc : W.cell? ⟨b, 0, none⟩ = some (.int .i32 k)) =>
    PKMarshal_calls (w := W) (hR0.keepN kk) (by omega) (hL0.mono kk.size) gk b 81 k (by omega) (by omega) hbk hc)
  clear hbt hR0 hL0 hd0 hd hn0
  obtain ⟨l, hl⟩ : ∃ l, l = kb k d := ⟨_, rfl⟩
  rw [← hl] at D2 ⊢
  clear hl
  go_enter Tryd.func16, Tryd.ntmps16
  go_wp2_with (fail)
  refine D1.out.mono ?_
  rintro e w1 ⟨k1, gk, b, rfl, hbk, hcb⟩
  have D3 := Lib.hid (D2.out w1 gk b k1 hbk hcb)
  clear hbk hcb D2
  go_wp2_with (fail)
  refine D3.out.mono ?_
  rintro e w3 ⟨A3, c3, rfl, M3⟩
  have HF : Hid (MadeOk w l (.returned (.tuple #[.slice A3 l.length c3, .nilIface])) w3) := Lib.hid ⟨A3, c3, rfl, M3.up k1⟩
  clear M3
  generalize l.length = nl at *
  go_wp2
  go_ret2
  exact HF.out
end Go.Proofs.YthdbchahmbcfeaaDoor
