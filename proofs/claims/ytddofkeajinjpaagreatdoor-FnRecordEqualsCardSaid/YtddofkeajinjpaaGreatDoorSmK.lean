/- The reference's signature (some 32 bytes) and its envelope. FnRecordSame: Toy.Equals, Envelope.Equal, SameEnvelopes. FnRecordSame: sizes of keys, RecordKey. FnRecordSame: the reference's RecordSealed. FnRecordSame: SameEnvelopes. A key as an argument. -/
import Derived.Test.YtddofkeajinjpaaGreatDoorSvA
import Derived.Test.YtddofkeajinjpaaGreatDoorShaC
import Derived.Test.YtddofkeajinjpaaGreatDoorEMoreP
import Derived.Deep.RegionHeld3
import Derived.Test.YtddofkeajinjpaaGreatDoorAwA
import Derived.Test.YtddofkeajinjpaaGreatDoorRcK
import Derived.BigQuiet
namespace Go.Proofs.YtddofkeajinjpaaGreatDoor
open Go Go.RowKit
set_option linter.unusedVariables false
set_option linter.unusedSimpArgs false
set_option maxRecDepth 100000

theorem Rd.ofBlkN {w : World} {g : Nat} {L : List Int} {t : TypeId} {n : Nat} (h : Blk w g (nums .u8 L).toArray t) (hn : L.length = n) (hb : Byt L) (hm : n ≤ 9223372036854775807) : Rd w (some ⟨g, 0, none⟩) n n L :=
  ⟨hn, Nat.le_refl _, hm, hb, fun _ => ⟨g, 0, rfl, fun j hj => by
    rw [Nat.zero_add, h.cell j]; simp [nums, List.getD_eq_getElem?_getD, List.getElem?_eq_getElem (show j < L.length by omega)]⟩⟩
/-- Some 32 bytes are handed back. -/
def SigP (w : World) (e : Ending) (w' : World) : Prop := ∃ S C, S.length = 32 ∧ Byt S ∧ e = .returned (.slice C 32 32) ∧ Rd w' C 32 32 S ∧ Kp no w w'

set_option maxHeartbeats 4000000 in
theorem recordSignature_calls {w : World} {A B : Option Addr} {n c m d : Nat} {k : Int} {l b : List Int} (hl : Rd w A n c l) (hn : n ≤ 5000000000) (hb : Rd w B m d b) (hm : m ≤ 50000000000) :
    Calls Tryz.prog 19 #[.agg #[.int .i32 k, .slice A n c], .slice B m d] w (SigP w) := by
  obtain rfl := hl.len
  obtain rfl := hb.len
  have ka : Kp no w (w.alloc (.cells #[.int .i32 k, .slice A l.length c] 34)) := (Kp.refl _ _).alloc _
  have hx := Blk.new w #[.int .i32 k, .slice A l.length c] 34
  have HL := Lib.hid (hl.keepN ka)
  have HB := Lib.hid (hb.keepN ka)
  have HKA := Lib.hid ka
  have HN := Lib.hid (And.intro hn hm)
  clear hl hb hn hm
  go_enter Tryz.func19, Tryz.ntmps19
  go_upto_region 1 with (fail)
  generalize w.alloc (.cells #[.int .i32 k, .slice A l.length c] 34) = W1 at *
  have O0 := Own.lit W1 5 W1.heap.size [] (Nat.le_refl _) Byt.nil (by simp)
  have k0 : Kp no W1 (W1.alloc (.cells (nums .u8 []).toArray 5)) := (Kp.refl _ _).alloc _
  have x1 : (W1.alloc (.cells #[] 5)).cell? ⟨w.heap.size, 1, none⟩ = some (.slice A l.length c) := k0.cellN (hx.cell 1)
  have R0 := HL.out.keepN k0
  have s0 := k0.size
  have HLn := Lib.hid (show ∀ x : List Int, x = [] ++ l ∨ x = ([] ++ l) ++ [0] → x.length + b.length ≤ 140737488355328 ∧ x.length + 1 ≤ 140737488355328 ∧ (x ++ b).length ≤ 1000000000000 from fun x hx => by
    have := HN.out
    rcases hx with rfl | rfl <;> simp <;> omega)
  clear hx ka
  go_wp2_with (first
    | (at_builtin; refine own_append W1.heap.size rfl (.tmp 6) (.tmp 8) 28 5 rfl Tryz.und_bytes Tryz.info_byte (.slice (some ⟨W1.heap.size, 0, none⟩) 0 0) [] l A l.length c rfl rfl O0 R0 s0 (by have := HN.out; simp; omega) ?_; intro v2 w2 O2 hk2 _ _; have K2 := k0.own O0 (Nat.le_refl _) hk2; have kl : Kp no w2 (w2.alloc (.cells (nums .u8 [0]).toArray 5)) := (Kp.refl _ _).alloc _; have O2l := O2.keepN kl; have RL : Rd (w2.alloc (.cells (nums .u8 [0]).toArray 5)) (some ⟨w2.heap.size, 0, none⟩) 1 1 [0] := Rd.litm w2 5 [0] _ (Byt.one (by omega) (by omega)) (by simp); have K3 := K2.then kl; have s3 := K3.size; clear x1 O0 R0 s0)
    | (at_builtin; refine own_append W1.heap.size rfl (.tmp 9) (.tmp 10) 28 5 rfl Tryz.und_bytes Tryz.info_byte v2 ([] ++ l) [0] (some ⟨w2.heap.size, 0, none⟩) 1 1 rfl rfl O2l RL s3 (HLn.out _ (.inl rfl)).2.1 ?_; intro v4 w4 O4 hk4 _ _; have K4 := K3.own O2l (Nat.le_refl _) hk4; have RB := HB.out.keepN K4; have s4 := K4.size)
    | (at_builtin; refine own_append W1.heap.size rfl (.tmp 11) (.tmp 12) 28 5 rfl Tryz.und_bytes Tryz.info_byte v4 (([] ++ l) ++ [0]) b B b.length d rfl rfl O4 RB s4 (HLn.out _ (.inr rfl)).1 ?_; intro v5 w5 O5 hk5 _ _; have K5 := K4.own O4 (Nat.le_refl _) hk5; obtain ⟨Z, hZ⟩ : ∃ Z, Z = (([] ++ l) ++ [0]) ++ b := ⟨_, rfl⟩; rw [← hZ] at O5; have HZ := Lib.hid (show Z.length ≤ 1000000000000 from by rw [hZ]; exact (HLn.out _ (.inr rfl)).2.2); clear hZ; obtain ⟨A5, c5, rfl, R5, _, _⟩ := O5.rd; have D5 := Lib.hid (shaSum_calls R5 HZ.out))
    | (go_at_call 29; refine D5.out.mono ?_; rintro e w6 ⟨⟨S, hS0, hSb0, rfl⟩, k6⟩; have hS := Lib.hid hS0; have hSb := Lib.hid hSb0; clear hS0 hSb0; have K6 := K5.then k6; have B6 := Blk.new w6 (nums .u8 (List.replicate 32 0)).toArray 61)
    | (refine wpList_store_row rfl 61 (.tmp 5) (.tmp 14) rfl w6.heap.size (nums .u8 S) rfl rfl B6 (by simp [nums]; have := hS.out; omega) (by rw [nums_length, hS.out]; exact infoB32) (nums_one _ _) ?_; intro w7 B7 k7 hsz7; clear hsz7; have K7 : Kp no W1 w7 := (K6.alloc _).trans k7 (fun i hi h => by have h : i = _ := h; have := K6.size; omega)))
  go_ret
  exact ⟨S, _, hS.out, hSb.out, rfl, Rd.ofBlkN B7 hS.out hSb.out (by omega), HKA.out.then K7⟩
end Go.Proofs.YtddofkeajinjpaaGreatDoor
namespace Go.Proofs.YtddofkeajinjpaaGreatDoor
open Go Go.RowKit
set_option linter.unusedVariables false
set_option linter.unusedSimpArgs false
set_option maxRecDepth 100000

section
variable {P : Program} {ops : Array Oper} {o : Oper} {a : Act} {Q : Exit → Act → World → Prop} {K : Act → World → Prop}
/-- 'append(v, ys...)' in a region that draws its order. -/
theorem own_append_if {W : World} (B : Nat) (hgd : o.guard = none) (s x : Operand) (t e : TypeId)
    (ho : o.op = .call { callee := .builtin .append, args := #[s, x], argTypes := #[t, t] })
    (ht : P.underlying t = some (.slice e)) (hinfo : (P.info? e).map (fun i => (i.zero, i.size, i.bytes)) = some (some (.int .u8 0), 1, 1))
    (v : Value) (l ys : List Int) (A : Option Addr) (m c : Nat) (hs : a.eval s = v) (hx : a.eval x = .slice A m c)
    (HO : Own W e B v l) (HR : Rd W A m c ys) (hB : B ≤ W.heap.size) (hl : l.length + m ≤ 140737488355328) {E : Prop}
    (h : ∀ v1 w1, Own w1 e B v1 (l ++ ys) → Kp (Of v) W w1 → K (a.put o.dst v1) w1) :
    if Region.wanted o (yielded ops a.tmps) = true then Oper.wp P o a W K Q else E := by
  rw [if_pos (by simp [Region.wanted, hgd])]
  obtain ⟨v1, w1, hr, hown, hg, hat, hnn⟩ := run_own_append (P := P) B t e o.type ht hinfo v l ys A m c HO HR hB hl
  unfold Oper.wp execOp
  simp only [ho, resolve, invoke, builtin, Sem.run_bind, Sem.run_pure, Result.andThen_ok, List.map_toArray, List.map_cons, List.map_nil, hs, hx, hr]
  exact h v1 w1 hown ((Kp.refl _ _).grown hg fun k hk _ => hk)
end
theorem wb_le (f : Int) (l : List Int) : (wb f l).length ≤ l.length + 11 := by
  have := (vint_len (l.length : Int)).2
  simp [wb]; omega
theorem ob_le (f : Int) (l : List Int) : (ob f l).length ≤ l.length + 11 := by
  unfold ob; split
  · simp
  · exact wb_le f l
theorem kb_127 {k : Int} {d : List Int} (h0 : 0 ≤ k) (h1 : k ≤ 127) : kb k d = [8, k] ++ wb 2 d := by
  unfold kb ku
  rw [if_neg (by omega), vint_1 k (by omega)]
  simp

set_option maxHeartbeats 8000000 in
theorem recordEnvelope_calls {w : World} {A B C D : Option Addr} {c b e f : Nat} {k : Int} {d ty pl sg : List Int} (h0 : 0 ≤ k) (h1 : k ≤ 127) (hd : Rd w A d.length c d) (hdn : d.length ≤ 5000000000)
    (ht : Rd w B ty.length b ty) (htn : ty.length ≤ 5000000000) (hp : Rd w C pl.length e pl) (hpn : pl.length ≤ 5000000000) (hs : Rd w D sg.length f sg) (hsn : sg.length ≤ 5000000000) :
    Calls Tryz.prog 18 #[.agg #[.int .i32 k, .slice A d.length c], .slice B ty.length b, .slice C pl.length e, .slice D sg.length f] w (Made w (ebb k d ty pl sg)) := by
  have ka : Kp no w (w.alloc (.cells #[.int .i32 k, .slice A d.length c] 34)) := (Kp.refl _ _).alloc _
  have hx := Blk.new w #[.int .i32 k, .slice A d.length c] 34
  have ew : IntKind.u8.wrap k = k := IntWalk.u8_in _ (by omega)
  have HBK := Lib.hid (show Byt [8, k] from fun x hx => by simp at hx; omega)
  rw [show ebb k d ty pl sg = ((wb 1 ([8, k] ++ wb 2 d) ++ ob 2 ty) ++ ob 3 pl) ++ ob 5 sg from by unfold ebb; rw [kb_127 h0 h1]; simp [List.append_assoc]]
  obtain ⟨P1, hP1⟩ : ∃ x, x = wb 1 ([8, k] ++ wb 2 d) := ⟨_, rfl⟩
  rw [← hP1]
  have HP1 := Lib.hid hP1
  go_enter Tryz.func18, Tryz.ntmps18
  go_upto_region 1 with (fail)
  generalize w.alloc (.cells #[.int .i32 k, .slice A d.length c] 34) = W1 at *
  have D0 := fun W (kk : Kp no W1 W) => Lib.hid (recordField_calls ((hd.keepN ka).keepN kk) (by omega) 2 (by omega) (by omega))
  have D2 := Lib.hid (fun W (kk : Kp no W1 W) => recordSome_calls ((ht.keepN ka).keepN kk) (by omega) 2 (by omega) (by omega))
  have D3 := Lib.hid (fun W (kk : Kp no W1 W) => recordSome_calls ((hp.keepN ka).keepN kk) (by omega) 3 (by omega) (by omega))
  have D4 := Lib.hid (fun W (kk : Kp no W1 W) => recordSome_calls ((hs.keepN ka).keepN kk) (by omega) 5 (by omega) (by omega))
  have HS := Lib.hid (fun W (kk : Kp no W1 W) => show Kp no W1 W ∧ W.cell? ⟨w.heap.size, 0, none⟩ = some (.int .i32 k) ∧ W.cell? ⟨w.heap.size, 1, none⟩ = some (.slice A d.length c) from ⟨kk, (hx.keepN kk).cell 0, (hx.keepN kk).cell 1⟩)
  have kd : Kp no W1 W1.drew := (Kp.refl _ _).drew
  have kdl : Kp no W1 (W1.alloc (.cells #[.int .u8 8, .int .u8 k] 5)).drew := ((Kp.refl _ _).alloc _).drew
  have OLA : Own (W1.alloc (.cells #[.int .u8 8, .int .u8 k] 5)).drew 5 W1.heap.size (.slice (some ⟨W1.heap.size, 0, none⟩) 2 2) [8, k] := (Own.lit W1 5 W1.heap.size [8, k] (Nat.le_refl _) HBK.out (by simp)).keepN (Kp.refl _ _).drew
  have HKA := Lib.hid ka
  have HLN := Lib.hid (show (wb 2 d).length ≤ 6000000000 ∧ P1.length ≤ 6000000000 ∧ (ob 2 ty).length ≤ 6000000000 ∧ (ob 3 pl).length ≤ 6000000000 ∧ (ob 5 sg).length ≤ 6000000000 from by
    have a1 := wb_le 2 d; have a2 := wb_le 1 ([8, k] ++ wb 2 d); have a3 := ob_le 2 ty; have a4 := ob_le 3 pl; have a5 := ob_le 5 sg
    simp only [List.length_append, List.length_cons, List.length_nil] at a2
    rw [← hP1] at a2
    omega)
  clear hP1
  have OLW := Lib.hid (fun W (kk : Kp no W1 W) => Own.lit W 5 W1.heap.size [8, k] kk.size HBK.out (by simp))
  clear hd hdn ht htn hp hpn hs hsn hx ka
  generalize wb 2 d = P0 at *
  generalize ob 2 ty = P2 at *
  generalize ob 3 pl = P3 at *
  generalize ob 5 sg = P4 at *
  go_cut [9] from 11 to 18 (fun v wx => Own wx 5 W1.heap.size v ([8, k] ++ P0) ∧ Kp no W1 wx)
  case first =>
    have hl2 : ([8, k] : List Int).length + P0.length ≤ 140737488355328 := by have := HLN.out.1; simp only [List.length_cons, List.length_nil]; omega
    clear HLN D2 D3 D4
    go_region_held3 (fun W => Kp no W1 W ∧ W.cell? ⟨w.heap.size, 0, none⟩ = some (.int .i32 k) ∧ W.cell? ⟨w.heap.size, 1, none⟩ = some (.slice A d.length c))
      ((exact HS.out _ (by first | with_reducible exact kd | with_reducible exact kdl | with_reducible exact k4 | with_reducible exact k5 | with_reducible exact k4.alloc _ | with_reducible exact K9 | (trace_state; fail))))
      (first
      | (refine own_append_if W1.heap.size rfl (.tmp 14) (.tmp 17) 28 5 rfl Tryz.und_bytes Tryz.info_byte (.slice (some ⟨w4.heap.size, 0, none⟩) 2 2) [8, k] P0 A4 P0.length c4 rfl rfl (OLW.out w4 k4) (M4.rd.keepN ((Kp.refl _ _).alloc _)) (k4.alloc _).size hl2 ?_; intro v9 w9 O9 k9; have K9 := (k4.alloc _).own (OLW.out w4 k4) (Nat.le_refl _) k9)
      | (refine own_append_if W1.heap.size rfl (.tmp 14) (.tmp 17) 28 5 rfl Tryz.und_bytes Tryz.info_byte (.slice (some ⟨W1.heap.size, 0, none⟩) 2 2) [8, k] P0 A5 P0.length c5 rfl rfl (OLA.keepN M5.kp) M5.rd k5.size hl2 ?_; intro v9 w9 O9 k9; have K9 := k5.own (OLA.keepN M5.kp) (Nat.le_refl _) k9)
      | (go_at_call 27; refine (D0 _ (by with_reducible exact kdl)).out.mono ?_; rintro e w5 ⟨A5, c5, rfl, M5⟩; have k5 := kdl.then M5.kp)
      | (go_at_call 27; refine (D0 _ (by with_reducible exact kd)).out.mono ?_; rintro e w4 ⟨A4, c4, rfl, M4⟩; have k4 := kd.then M4.kp))
    all_goals
      go_wp2_with (fail)
      go_meet
      case rel => exact ⟨O9, K9⟩
  case rest =>
    obtain ⟨O2, k2⟩ := hcut
    obtain ⟨A2, c2, rfl, R2, _, _⟩ := O2.rd
    have D1 := Lib.hid (recordField_calls R2 (by have := HLN.out.1; simp only [List.length_append, List.length_cons, List.length_nil]; omega) 1 (by omega) (by omega))
    rw [← HP1.out] at D1
    have HK2 := Lib.hid k2
    clear D0 HS kd kdl OLW O2 R2 k2
    generalize hP : [8, k] ++ P0 = PP at *
    clear hP
    go_wp2_with (fail)
    refine D1.out.mono ?_
    rintro e w3 ⟨B0, b0, rfl, M0⟩
    have k3 := HK2.out.then M0.kp
    have O3 := M0.own.lower HK2.out.size
    have E2 := Lib.hid (D2.out w3 k3)
    go_wp2_with (fail)
    refine E2.out.mono ?_
    rintro e w4 ⟨B1, b1, rfl, M1⟩
    have O4 := O3.keepN M1.kp
    have k4 := k3.then M1.kp
    have R4 := M1.rd
    have s4 := k4.size
    have hlen : P1.length + P2.length ≤ 140737488355328 := by have := HLN.out; omega
    go_wp2_with (first | (at_builtin; refine own_append W1.heap.size rfl (.tmp 21) (.tmp 23) 28 5 rfl Tryz.und_bytes Tryz.info_byte (.slice B0 P1.length b0) P1 P2 B1 P2.length b1 rfl rfl O4 R4 s4 hlen ?_; intro v5 w5 O5 hk5 _ _; have k5 := k4.own O4 (Nat.le_refl _) hk5))
    have E3 := Lib.hid (D3.out w5 k5)
    go_wp2_with (fail)
    refine E3.out.mono ?_
    rintro e w6 ⟨B2, b2, rfl, M2⟩
    have O6 := O5.keepN M2.kp
    have k6 := k5.then M2.kp
    have R6 := M2.rd
    have s6 := k6.size
    have hlen2 : (P1 ++ P2).length + P3.length ≤ 140737488355328 := by have := HLN.out; simp; omega
    go_wp2_with (first | (at_builtin; refine own_append W1.heap.size rfl (.tmp 25) (.tmp 27) 28 5 rfl Tryz.und_bytes Tryz.info_byte v5 (P1 ++ P2) P3 B2 P3.length b2 rfl rfl O6 R6 s6 hlen2 ?_; intro v7 w7 O7 hk7 _ _; have k7 := k6.own O6 (Nat.le_refl _) hk7))
    have E4 := Lib.hid (D4.out w7 k7)
    go_wp2_with (fail)
    refine E4.out.mono ?_
    rintro e w8 ⟨B3, b3, rfl, M3⟩
    have O8 := O7.keepN M3.kp
    have k8 := k7.then M3.kp
    have R8 := M3.rd
    have s8 := k8.size
    have hlen3 : ((P1 ++ P2) ++ P3).length + P4.length ≤ 140737488355328 := by have := HLN.out; simp; omega
    go_wp2_with (first | (at_builtin; refine own_append W1.heap.size rfl (.tmp 29) (.tmp 31) 28 5 rfl Tryz.und_bytes Tryz.info_byte v7 ((P1 ++ P2) ++ P3) P4 B3 P4.length b3 rfl rfl O8 R8 s8 hlen3 ?_; intro v9 w9 O9 hk9 _ _))
    go_ret
    exact Made.of (O9.lower HKA.out.size) (HKA.out.then (k8.own O8 (Nat.le_refl _) hk9))
end Go.Proofs.YtddofkeajinjpaaGreatDoor
namespace Go.Proofs.YtddofkeajinjpaaGreatDoor
open Go Go.RowKit
set_option linter.unusedVariables false
set_option linter.unusedSimpArgs false
set_option maxRecDepth 100000

/-- A call in a quiet region, by a contract that says where it ends. -/
theorem quiet_eq {P : Program} {f : FuncId} {args : Array Value} {w : World} {n : Nat} {v : Value}
    (h : Calls P f args (w.drewN n) fun e w' => e = .returned v ∧ w.drewN n = w') : Calls P f args (w.drewN n) fun e w'' => e = .returned v ∧ ∃ m, w'' = w.drewN m :=
  h.mono fun _ _ ⟨he, hm⟩ => ⟨he, n, hm.symm⟩

theorem meth_equals (a : Addr) (w : World) : (method 280 77 (.pointer (some a)) "Equals").run Tryz.prog w = .ok (89, .pointer (some a)) w := by kernel_rfl
theorem meth_type (a : Addr) (w : World) : (method 280 77 (.pointer (some a)) "Type").run Tryz.prog w = .ok (93, .pointer (some a)) w := by kernel_rfl

set_option maxHeartbeats 4000000 in
theorem toyEquals_calls {w : World} {g g2 : Nat} {k k2 : Int} {d d2 : List Int} (h : ToyAt w g k d) (h2 : ToyAt w g2 k2 d2) :
    Calls Tryz.prog 89 #[.pointer (some ⟨g, 0, none⟩), .iface 77 (.pointer (some ⟨g2, 0, none⟩))] w fun e w' => e = .returned (.bool (decide (k = k2 ∧ d = d2))) ∧ ∃ m, w' = w.drewN m := by
  obtain ⟨A, n, c, hb, hR, _, _⟩ := h
  obtain ⟨A2, n2, c2, hb2, hR2, _, _⟩ := h2
  have D1 := Lib.hid (toyRaw_calls hb2)
  have D2 := Lib.hid (fun m => toyType_calls (w := w.drewN m) (hb2.keepN (Kp.byDraws _ _)))
  have D3 := Lib.hid (fun m => Equal_any (w := w.drewN m) (hR.keepN (Kp.byDraws _ _)) (hR2.keepN (Kp.byDraws _ _)))
  have HC := Lib.hid (fun m => And.intro ((hb.keepN (Kp.byDraws w m)).cell 0) ((hb.keepN (Kp.byDraws w m)).cell 1))
  clear hb hb2 hR hR2
  obtain ⟨b, hbb⟩ : ∃ b, b = decide (k = k2 ∧ d = d2) := ⟨_, rfl⟩
  rw [← hbb]
  have HBB := Lib.hid hbb
  clear hbb
  go_enter Tryz.func89, Tryz.ntmps89
  go_wp2_with (fail)
  refine D1.out.mono ?_
  rintro e w1 ⟨rfl, m1, rfl⟩
  have D4 := Lib.hid (fun m => show Calls Tryz.prog 93 #[.pointer (some ⟨g2, 0, none⟩)] ((w.drewN m1).drewN m) fun e w'' => e = .returned (.int .i32 k2) ∧ ∃ x, w'' = (w.drewN m1).drewN x from quiet_eq (by rw [World.drewN_drewN]; exact D2.out _))
  have D5 := Lib.hid (fun m => show Calls Tryz.prog 33 #[.slice A n c, .slice A2 n2 c2] ((w.drewN m1).drewN m) fun e w'' => e = .returned (.bool (decide (d = d2))) ∧ ∃ x, w'' = (w.drewN m1).drewN x from quiet_eq (by rw [World.drewN_drewN]; exact D3.out _))
  obtain ⟨x0, x1⟩ := HC.out m1
  have HM := Lib.hid (fun x => show (w.drewN m1).drewN x = w.drewN (m1 + x) from World.drewN_drewN _ _ _)
  generalize w.drewN m1 = w1 at *
  have hm := meth_type ⟨g2, 0, none⟩
  by_cases hk : k = k2
  · have HQ := Lib.hid (show b = decide (d = d2) from by rw [HBB.out]; simp [hk])
    subst hk
    rw [← HQ.out] at D5
    go_upto_region 2 with (fail)
    go_quiet ((first | (go_at_call 93; exact D4.out _) | (go_at_call 33; exact D5.out _)))
    go_wp2
    go_ret
    exact ⟨rfl, _, HM.out _⟩
  · have HQ := Lib.hid (show b = false from by rw [HBB.out]; exact decide_eq_false (fun h => hk h.1))
    have hkb : (k == k2) = false := by simpa using hk
    generalize decide (d = d2) = q at *
    clear hk
    go_upto_region 2 with (fail)
    go_quiet ((first | (go_at_call 93; exact D4.out _) | (go_at_call 33; exact D5.out _)))
    go_wp2
    go_ret
    exact ⟨by rw [HQ.out]; rfl, _, HM.out _⟩

set_option maxHeartbeats 8000000 in
theorem envEqual_calls {w : World} {g g2 : Nat} {k k2 : Int} {d ty pl sg d2 ty2 pl2 sg2 : List Int} (h : EvAt w g k d ty pl sg) (h2 : EvAt w g2 k2 d2 ty2 pl2 sg2) :
    Calls Tryz.prog 23 #[.pointer (some ⟨g, 0, none⟩), .pointer (some ⟨g2, 0, none⟩)] w fun e w' => e = .returned (.bool (((decide (k = k2 ∧ d = d2) && decide (ty = ty2)) && decide (sg = sg2)) && decide (pl = pl2))) ∧ Kp no w w' := by
  obtain ⟨gt, vt, vp, vs, v4, v5, v6, v7, hb, hT, ⟨B1, e1, rfl, r1, m1⟩, ⟨B2, e2, rfl, r2, m2⟩, ⟨B3, e3, rfl, r3, m3⟩⟩ := h
  obtain ⟨gu, ut, up, us, u4, u5, u6, u7, kb, kT, ⟨C1, f1, rfl, s1, n1⟩, ⟨C2, f2, rfl, s2, n2⟩, ⟨C3, f3, rfl, s3, n3⟩⟩ := h2
  have D1 := Lib.hid (fun m => Calls.quiet_of (toyEquals_calls (w := w.drewN m) (hT.keepN (Kp.byDraws _ _)) (kT.keepN (Kp.byDraws _ _))))
  have D2 := Lib.hid (fun m => quiet_eq (Equal_any (w := w.drewN m) (r1.keepN (Kp.byDraws _ _)) (s1.keepN (Kp.byDraws _ _))))
  have D3 := Lib.hid (fun m => quiet_eq (Equal_any (w := w.drewN m) (r3.keepN (Kp.byDraws _ _)) (s3.keepN (Kp.byDraws _ _))))
  have D4 := Lib.hid (fun m => quiet_eq (Equal_any (w := w.drewN m) (r2.keepN (Kp.byDraws _ _)) (s2.keepN (Kp.byDraws _ _))))
  obtain ⟨q1, hq1⟩ : ∃ q, decide (k = k2 ∧ d = d2) = q := ⟨_, rfl⟩
  obtain ⟨q2, hq2⟩ : ∃ q, decide (ty = ty2) = q := ⟨_, rfl⟩
  obtain ⟨q3, hq3⟩ : ∃ q, decide (sg = sg2) = q := ⟨_, rfl⟩
  obtain ⟨q4, hq4⟩ : ∃ q, decide (pl = pl2) = q := ⟨_, rfl⟩
  rw [hq1] at D1 ⊢
  rw [hq2] at D2 ⊢
  rw [hq3] at D3 ⊢
  rw [hq4] at D4 ⊢
  have x0 : w.cell? ⟨g, 0, none⟩ = some (.iface 77 (.pointer (some ⟨gt, 0, none⟩))) := hb.cell 0
  have x1 : w.cell? ⟨g, 1, none⟩ = some (.slice B1 ty.length e1) := hb.cell 1
  have x2 : w.cell? ⟨g, 2, none⟩ = some (.slice B2 pl.length e2) := hb.cell 2
  have x3 : w.cell? ⟨g, 3, none⟩ = some (.slice B3 sg.length e3) := hb.cell 3
  have z0 : w.cell? ⟨g2, 0, none⟩ = some (.iface 77 (.pointer (some ⟨gu, 0, none⟩))) := kb.cell 0
  have z1 : w.cell? ⟨g2, 1, none⟩ = some (.slice C1 ty2.length f1) := kb.cell 1
  have z2 : w.cell? ⟨g2, 2, none⟩ = some (.slice C2 pl2.length f2) := kb.cell 2
  have z3 : w.cell? ⟨g2, 3, none⟩ = some (.slice C3 sg2.length f3) := kb.cell 3
  clear hb kb hT kT r1 r2 r3 s1 s2 s3 m1 m2 m3 n1 n2 n3 hq1 hq2 hq3 hq4
  generalize ty.length = a1 at *
  generalize pl.length = a2 at *
  generalize sg.length = a3 at *
  generalize ty2.length = b1 at *
  generalize pl2.length = b2 at *
  generalize sg2.length = b3 at *
  go_enter Tryz.func23, Tryz.ntmps23
  have hm := meth_equals ⟨gt, 0, none⟩
  cases q1 with
  | false =>
    go_upto_region 3 with (fail)
    go_quiet ((first | (go_at_call 89; exact D1.out _) | (go_at_call 33; with_reducible exact D2.out _) | (go_at_call 33; with_reducible exact D3.out _) | (go_at_call 33; with_reducible exact D4.out _)))
    go_wp2
    go_ret
    exact ⟨rfl, Kp.byDraws _ _⟩
  | true =>
    cases q2 with
    | false =>
      go_upto_region 3 with (fail)
      go_quiet ((first | (go_at_call 89; exact D1.out _) | (go_at_call 33; with_reducible exact D2.out _) | (go_at_call 33; with_reducible exact D3.out _) | (go_at_call 33; with_reducible exact D4.out _)))
      go_wp2
      go_ret
      exact ⟨rfl, Kp.byDraws _ _⟩
    | true =>
      cases q3 with
      | false =>
        go_upto_region 3 with (fail)
        go_quiet ((first | (go_at_call 89; exact D1.out _) | (go_at_call 33; with_reducible exact D2.out _) | (go_at_call 33; with_reducible exact D3.out _) | (go_at_call 33; with_reducible exact D4.out _)))
        go_wp2
        go_ret
        exact ⟨rfl, Kp.byDraws _ _⟩
      | true =>
        go_upto_region 3 with (fail)
        go_quiet ((first | (go_at_call 89; exact D1.out _) | (go_at_call 33; with_reducible exact D2.out _) | (go_at_call 33; with_reducible exact D3.out _) | (go_at_call 33; with_reducible exact D4.out _)))
        go_wp2
        go_ret
        exact ⟨rfl, Kp.byDraws _ _⟩
end Go.Proofs.YtddofkeajinjpaaGreatDoor
namespace Go.Proofs.YtddofkeajinjpaaGreatDoor
open Go Go.RowKit
set_option linter.unusedVariables false
set_option linter.unusedSimpArgs false
set_option maxRecDepth 100000

theorem zzFits7_calls {w : World} (k : Int) (A : Option Addr) (n c : Nat) :
    Calls Tryz.prog 14 #[.agg #[.int .i32 k, .slice A n c]] w fun e w' => Kp no w w' ∧ TellB True e := by
  have hb := Blk.new w #[.int .i32 k, .slice A n c] 34
  have ka : Kp no w (w.alloc (.cells #[.int .i32 k, .slice A n c] 34)) := (Kp.refl _ _).alloc _
  have x1 := hb.cell 1
  by_cases h0 : 2147483647 < (n : Int)
  · go_enter Tryz.func14, Tryz.ntmps14
    go_wp2
    go_ret
    exact ⟨ka, TellB.no _⟩
  go_enter Tryz.func14, Tryz.ntmps14
  go_wp2
  go_ret
  exact ⟨ka, TellB.yes trivial⟩

set_option maxHeartbeats 4000000 in
theorem recordShort_keys {w : World} (s : ByteArray) (A B : Option Addr) (n c m d g N cap : Nat) (K : Nat → Int) (KA : Nat → Option Addr) (Kn Kc : Nat → Nat) (hN : N ≤ 1000)
    (hc : ∀ i, i < N → w.cell? ⟨g, i * 2, none⟩ = some (.int .i32 (K i)) ∧ w.cell? ⟨g, i * 2 + 1, none⟩ = some (.slice (KA i) (Kn i) (Kc i))) :
    Calls Tryz.prog 8 #[.agg #[.string s, .slice A n c, .slice B m d], .slice (some ⟨g, 0, none⟩) N cap] w fun e w' => Kp no w w' ∧ TellB ((s.size ≤ 200 ∧ n ≤ 200 ∧ m ≤ 1000) ∧ ∀ i, i < N → Kn i ≤ 200) e := by
  have hb := Blk.new w #[.string s, .slice A n c, .slice B m d] 30
  have ka : Kp no w (w.alloc (.cells #[.string s, .slice A n c, .slice B m d] 30)) := (Kp.refl _ _).alloc _
  have HC := Lib.hid (fun W (k : Kp no w W) i (hi : i < N) => And.intro (k.cellN (hc i hi).1) (k.cellN (hc i hi).2))
  have HB := Lib.hid hb
  have HKA := Lib.hid ka
  clear hc hb ka
  go_enter Tryz.func8, Tryz.ntmps8
  go_upto_region 1 with (fail)
  generalize w.alloc (.cells #[.string s, .slice A n c, .slice B m d] 30) = W1 at *
  go_wp2
  go_loopw [9] (fun iv wr => ∃ i : Nat, iv = .int .i64 i ∧ i ≤ N ∧ Hid (∀ j, j < i → Kn j ≤ 200) ∧ Kp no W1 wr) (fun iv _ => N - (intOf iv).toNat)
  case atStart => exact ⟨0, rfl, Nat.zero_le _, Lib.hid (fun j h => absurd h (Nat.not_lt_zero j)), Kp.refl _ _⟩
  case round =>
    obtain ⟨i, rfl, hi, HJ, k1⟩ := hrel
    by_cases hlt : i < N
    · obtain ⟨c0, c1⟩ := HC.out wr (HKA.out.then k1) i hlt
      have kz : Kp no wr (wr.alloc (.cells #[.int .i32 (K i), .slice (KA i) (Kn i) (Kc i)] 34)) := (Kp.refl _ _).alloc _
      obtain ⟨z, hz⟩ : ∃ z, z = Kn i := ⟨_, rfl⟩
      rw [← hz] at c1 kz
      have HZ := Lib.hid hz
      clear hz
      by_cases h2 : 200 < (z : Int)
      · go_wp2
        go_ret
        exact ⟨HKA.out.then (k1.then kz), TellB.no _⟩
      · have h2b : decide (200 < (z : Int)) = false := decide_eq_false h2
        have HZL := Lib.hid (show z ≤ 200 from by omega)
        clear h2
        go_wp2
        go_roundw
        case rel => exact ⟨i + 1, by go_num, hlt, Lib.hid (fun j hj => by
          rcases Nat.lt_or_ge j i with h | h
          · exact HJ.out j h
          · obtain rfl : j = i := by omega
            rw [← HZ.out]; exact HZL.out), k1.then kz⟩
        case measure => simp [intOf]; omega
    · obtain rfl : i = N := by omega
      have kk := Lib.hid (HKA.out.then k1)
      have x0 : wr.cell? ⟨w.heap.size, 0, none⟩ = some (.string s) := (HB.out.keepN k1).cell 0
      have x1 : wr.cell? ⟨w.heap.size, 1, none⟩ = some (.slice A n c) := (HB.out.keepN k1).cell 1
      have x2 : wr.cell? ⟨w.heap.size, 2, none⟩ = some (.slice B m d) := (HB.out.keepN k1).cell 2
      have hz : (s.size ≤ 200 ∧ n ≤ 200 ∧ m ≤ 1000) ∨ 200 < (s.size : Int) ∨ ((s.size : Int) ≤ 200 ∧ 200 < (n : Int)) ∨ ((s.size : Int) ≤ 200 ∧ (n : Int) ≤ 200 ∧ 1000 < (m : Int)) := by omega
      rcases hz with hz | h0 | ⟨h0, h1⟩ | ⟨h0, h1, h2⟩
      · have h0 : (s.size : Int) ≤ 200 := by omega
        have h1 : (n : Int) ≤ 200 := by omega
        have h2 : (m : Int) ≤ 1000 := by omega
        have HZ := Lib.hid hz
        clear hz
        have b0 : decide ((s.size : Int) ≤ 200) = true := decide_eq_true h0
        have b1 : decide ((n : Int) ≤ 200) = true := decide_eq_true h1
        have b2 : decide ((m : Int) ≤ 1000) = true := decide_eq_true h2
        go_wp2
        go_ret
        exact ⟨kk.out, TellB.yes ⟨HZ.out, HJ.out⟩⟩
      all_goals
        try have b2 : decide ((m : Int) ≤ 1000) = false := decide_eq_false (by omega)
        go_wp2
        go_ret
        exact ⟨kk.out, TellB.no _⟩

set_option maxHeartbeats 4000000 in
theorem recordKey_calls {w : World} (k : Int) (A : Option Addr) (n c : Nat) :
    Calls Tryz.prog 17 #[.agg #[.int .i32 k, .slice A n c]] w fun e w' => e = .returned (.bool (decide (0 ≤ k ∧ k ≤ 3 ∧ 0 < n))) ∧ Kp no w w' := by
  have hb := Blk.new w #[.int .i32 k, .slice A n c] 34
  have ka : Kp no w (w.alloc (.cells #[.int .i32 k, .slice A n c] 34)) := (Kp.refl _ _).alloc _
  have x0 := hb.cell 0
  have x1 := hb.cell 1
  have HKA := Lib.hid ka
  obtain ⟨q, hq⟩ : ∃ q, q = decide (0 ≤ k ∧ k ≤ 3 ∧ 0 < n) := ⟨_, rfl⟩
  rw [← hq]
  have HQ := Lib.hid hq
  clear hq hb ka
  by_cases h0 : 0 ≤ k
  · by_cases h1 : k ≤ 3
    · by_cases h2 : 0 < n
      · obtain rfl : q = true := by rw [HQ.out]; exact decide_eq_true ⟨h0, h1, h2⟩
        have h3 : (0 : Int) < (n : Int) := by omega
        go_enter Tryz.func17, Tryz.ntmps17
        go_wp2
        go_ret
        exact ⟨rfl, HKA.out⟩
      · obtain rfl : q = false := by rw [HQ.out]; exact decide_eq_false (fun h => h2 h.2.2)
        obtain rfl : n = 0 := by omega
        clear h2
        go_enter Tryz.func17, Tryz.ntmps17
        go_wp2
        go_ret
        exact ⟨rfl, HKA.out⟩
    · obtain rfl : q = false := by rw [HQ.out]; exact decide_eq_false (fun h => h1 h.2.1)
      have h1b : decide (k ≤ 3) = false := decide_eq_false h1
      clear h1
      go_enter Tryz.func17, Tryz.ntmps17
      go_wp2
      go_ret
      exact ⟨rfl, HKA.out⟩
  · obtain rfl : q = false := by rw [HQ.out]; exact decide_eq_false (fun h => h0 h.1)
    have h0b : decide (0 ≤ k) = false := decide_eq_false h0
    clear h0
    go_enter Tryz.func17, Tryz.ntmps17
    go_wp2
    go_ret
    exact ⟨rfl, HKA.out⟩
end Go.Proofs.YtddofkeajinjpaaGreatDoor
namespace Go.Proofs.YtddofkeajinjpaaGreatDoor
open Go Go.RowKit
set_option linter.unusedVariables false
set_option linter.unusedSimpArgs false
set_option maxRecDepth 100000

/-- What RecordSealed tells. -/
def SeP (w : World) (dl ty pl d : List Int) (k : Int) (e : Ending) (w' : World) : Prop :=
  Kp no w w' ∧ if 0 < dl.length ∧ 0 < ty.length ∧ 0 ≤ k ∧ k ≤ 3 ∧ 0 < d.length then
    ∃ S L C c, S.length = 32 ∧ Byt S ∧ L = ebb k d ty pl S ∧ e = .returned (.tuple #[.slice C L.length c, .bool true]) ∧ Rd w' C L.length c L ∧ ∀ a, C = some a → w.heap.size ≤ a.block ∧ a.block < w'.heap.size
  else e = .returned (.tuple #[.slice none 0 0, .bool false])

set_option maxHeartbeats 16000000 in
theorem recordSealed_calls {w : World} {A B D : Option Addr} {c b f : Nat} {k : Int} {dl ty pl d : List Int} (hdl : Byt dl) (z : dl.length ≤ 5000000000 ∧ ty.length ≤ 5000000000 ∧ pl.length ≤ 5000000000) (z2 : d.length ≤ 5000000000)
    (ht : Rd w A ty.length c ty) (hp : Rd w B pl.length b pl) (hd : Rd w D d.length f d) :
    Calls Tryz.prog 7 #[.agg #[.string (strOfNums dl), .slice A ty.length c, .slice B pl.length b], .agg #[.int .i32 k, .slice D d.length f]] w (SeP w dl ty pl d k) := by
  have k0 : Kp no w ((w.alloc (.cells #[.string (strOfNums dl), .slice A ty.length c, .slice B pl.length b] 30)).alloc (.cells #[.int .i32 k, .slice D d.length f] 34)) := ((Kp.refl _ _).alloc _).alloc _
  have hbx := (Blk.new w #[.string (strOfNums dl), .slice A ty.length c, .slice B pl.length b] 30).alloc (.cells #[.int .i32 k, .slice D d.length f] 34)
  have hbz := Blk.new (w.alloc (.cells #[.string (strOfNums dl), .slice A ty.length c, .slice B pl.length b] 30)) #[.int .i32 k, .slice D d.length f] 34
  rw [show (w.alloc (.cells #[.string (strOfNums dl), .slice A ty.length c, .slice B pl.length b] 30)).heap.size = w.heap.size + 1 from by simp] at hbz
  have HB := Lib.hid (fun W (kk : Kp no ((w.alloc (.cells #[.string (strOfNums dl), .slice A ty.length c, .slice B pl.length b] 30)).alloc (.cells #[.int .i32 k, .slice D d.length f] 34)) W) => And.intro ((hbx.keepN kk).cell 0) (And.intro ((hbx.keepN kk).cell 1) (And.intro ((hbx.keepN kk).cell 2) (And.intro ((hbz.keepN kk).cell 0) ((hbz.keepN kk).cell 1)))))
  have D1 := Lib.hid (fun W (kk : Kp no w W) => recordUnsigned_calls (w := W) hdl (by omega) (ht.keepN kk) (by omega) (hp.keepN kk) (by omega))
  have HUL := Lib.hid (show (uns dl ty pl).length ≤ 50000000000 from by
    have a1 := part_len dl; have a2 := part_len ty; have a3 := part_len pl
    have v1 := vint_len (dl.length : Int); have v2 := vint_len (ty.length : Int); have v3 := vint_len (pl.length : Int)
    unfold uns; simp only [List.length_append]; omega)
  have D2 := Lib.hid (fun W (kk : Kp no w W) Q qc (RQ : Rd W Q (uns dl ty pl).length qc (uns dl ty pl)) => recordSignature_calls (k := k) (hd.keepN kk) (by omega) RQ HUL.out)
  have D3 := Lib.hid (fun W (kk : Kp no w W) S C (hS : Hid (List.length S = 32)) (RS : Rd W C 32 32 S) (q0 : 0 ≤ k) (q1 : k ≤ 3) =>
    show Calls Tryz.prog 18 #[.agg #[.int .i32 k, .slice D d.length f], .slice A ty.length c, .slice B pl.length b, .slice C 32 32] W (fun e w' => ∃ L E ec, Hid (L = ebb k d ty pl S) ∧ e = .returned (.slice E L.length ec) ∧ MadeAt W w' E ec L) from by
      have := recordEnvelope_calls (sg := S) (D := C) (f := 32) q0 (by omega) (hd.keepN kk) (by omega) (ht.keepN kk) (by omega) (hp.keepN kk) (by omega) (by rw [hS.out]; exact RS) (by rw [hS.out]; omega)
      rw [hS.out] at this
      exact this.mono fun e w' ⟨E, ec, he, M⟩ => ⟨_, E, ec, Lib.hid rfl, he, M⟩)
  have DK := Lib.hid (fun W => recordKey_calls (w := W) k D d.length f)
  have HNO := Lib.hid (fun (w' : World) (hk : Kp no w w') (h : ¬ (0 < dl.length ∧ 0 < ty.length ∧ 0 ≤ k ∧ k ≤ 3 ∧ 0 < d.length)) => show SeP w dl ty pl d k (.returned (.tuple #[.slice none 0 0, .bool false])) w' from ⟨hk, by rw [if_neg h]⟩)
  have HYES := Lib.hid (fun (w' : World) (hk : Kp no w w') (h : 0 < dl.length ∧ 0 < ty.length ∧ 0 ≤ k ∧ k ≤ 3 ∧ 0 < d.length) S L C c (hS : Hid (List.length S = 32)) (hSb : Hid (Byt S)) (hL : Hid (L = ebb k d ty pl S)) (R : Rd w' C L.length c L) (hfr : Hid (∀ a, C = some a → w.heap.size ≤ a.block ∧ a.block < w'.heap.size)) => show SeP w dl ty pl d k (.returned (.tuple #[.slice C L.length c, .bool true])) w' from ⟨hk, by rw [if_pos h]; exact ⟨S, L, C, c, hS.out, hSb.out, hL.out, rfl, R, hfr.out⟩⟩)
  have hdb : (strOfNums dl).toList.isEmpty = decide (dl.length = 0) := by
    rw [Lib.toList_data, strOfNums_data]
    cases dl with
    | nil => rfl
    | cons x xs => rfl
  obtain ⟨K0, hK0⟩ : ∃ P : Prop, P = (0 < dl.length ∧ 0 < ty.length ∧ 0 ≤ k ∧ k ≤ 3 ∧ 0 < d.length) := ⟨_, rfl⟩
  rw [← hK0] at HNO HYES
  have HK := Lib.hid hK0
  have HKQ := Lib.hid (show decide (0 ≤ k ∧ k ≤ 3 ∧ 0 < d.length) = true → 0 ≤ k ∧ k ≤ 3 ∧ 0 < d.length from fun h => of_decide_eq_true h)
  clear hK0 hdl z z2 ht hp hd hbx hbz
  generalize uns dl ty pl = U at *
  obtain ⟨q, hq⟩ : ∃ q, q = decide (0 ≤ k ∧ k ≤ 3 ∧ 0 < d.length) := ⟨_, rfl⟩
  rw [← hq] at DK HKQ
  have HQ := Lib.hid hq
  clear hq
  generalize hds : strOfNums dl = ds at *
  clear hds
  obtain ⟨n0, hn0⟩ : ∃ n, n = dl.length := ⟨_, rfl⟩
  rw [← hn0] at HK hdb
  clear hn0
  obtain ⟨n1, hn1⟩ : ∃ n, n = ty.length := ⟨_, rfl⟩
  rw [← hn1] at HK HB D1 D3 k0 ⊢
  clear hn1
  obtain ⟨x0, x1, x2, x3, x4⟩ := HB.out _ (Kp.refl _ _)
  go_enter Tryz.func7, Tryz.ntmps7
  go_upto_region 1 with (fail)
  generalize (w.alloc (.cells #[.string ds, .slice A n1 c, .slice B pl.length b] 30)).alloc (.cells #[.int .i32 k, .slice D d.length f] 34) = W1 at *
  by_cases h0 : n0 = 0
  · have h0b : decide (n0 = 0) = true := decide_eq_true h0
    have HF := Lib.hid (HNO.out W1 k0 (by rw [HK.out]; rintro ⟨h, _⟩; omega))
    rw [h0b] at hdb
    clear h0 h0b
    go_wp2
    go_ret2
    exact HF.out
  have h0b : decide (n0 = 0) = false := decide_eq_false h0
  rw [h0b] at hdb
  have H0 := Lib.hid h0
  clear h0 h0b
  by_cases h1 : n1 = 0
  · have HF := Lib.hid (HNO.out W1 k0 (by rw [HK.out]; rintro ⟨_, h, _⟩; omega))
    subst h1
    go_wp2
    go_ret2
    exact HF.out
  have h1b : ((n1 : Int) == 0) = false := by simp; omega
  have H1 := Lib.hid h1
  clear h1
  have DK1 := Lib.hid (DK.out W1)
  go_wp2_with (fail)
  refine DK1.out.mono ?_
  rintro e w1 ⟨rfl, k1⟩
  cases q with
  | false =>
    have HF := Lib.hid (HNO.out w1 (k0.then k1) (by rw [HK.out]; rintro ⟨_, _, h⟩; exact absurd (decide_eq_true h) (by rw [← HQ.out]; simp)))
    go_wp2
    go_ret2
    exact HF.out
  | true =>
    have HZ := Lib.hid (HKQ.out rfl)
    have E1 := Lib.hid (fun W (kk : Kp no W1 W) => D1.out W (k0.then kk))
    have E2 := Lib.hid (fun W (kk : Kp no W1 W) => D2.out W (k0.then kk))
    have E3 := Lib.hid (fun W (kk : Kp no W1 W) S C hS RS => D3.out W (k0.then kk) S C hS RS HZ.out.1 HZ.out.2.1)
    have HY := Lib.hid (fun w' (kk : Kp no W1 w') => HYES.out w' (k0.then kk) (by rw [HK.out]; exact ⟨by have := H0.out; omega, by have := H1.out; omega, HZ.out⟩))
    have HS := Lib.hid (fun W (kk : Kp no W1 W) => show Kp no W1 W ∧ W.cell? ⟨w.heap.size, 0, none⟩ = some (.string ds) ∧ W.cell? ⟨w.heap.size, 1, none⟩ = some (.slice A n1 c) ∧ W.cell? ⟨w.heap.size, 2, none⟩ = some (.slice B pl.length b) ∧ W.cell? ⟨w.heap.size + 1, 0, none⟩ = some (.int .i32 k) ∧ W.cell? ⟨w.heap.size + 1, 1, none⟩ = some (.slice D d.length f) from ⟨kk, HB.out W kk⟩)
    have kd : Kp no W1 w1.drew := k1.then (Kp.refl _ _).drew
    clear x0 x1 x2 x3 x4 D1 D2 D3 DK DK1 HNO HYES k1 HB
    generalize pl.length = n2 at *
    generalize d.length = n3 at *
    go_upto_region 3 with (fail)
    go_region_held3 (fun W => Kp no W1 W ∧ W.cell? ⟨w.heap.size, 0, none⟩ = some (.string ds) ∧ W.cell? ⟨w.heap.size, 1, none⟩ = some (.slice A n1 c) ∧ W.cell? ⟨w.heap.size, 2, none⟩ = some (.slice B n2 b) ∧ W.cell? ⟨w.heap.size + 1, 0, none⟩ = some (.int .i32 k) ∧ W.cell? ⟨w.heap.size + 1, 1, none⟩ = some (.slice D n3 f))
      ((exact HS.out _ (by first | with_reducible exact kd | with_reducible exact k5 | with_reducible exact k6 | with_reducible exact k7)))
      (first
      | (go_at_call 18; refine (E3.out w6 k6 S C hSl RS).mono ?_; rintro e w7 ⟨L, E, ec, hL, rfl, M7⟩; have k7 := k6.then M7.kp)
      | (go_at_call 19; refine (E2.out w5 k5 Q qc R5).mono ?_; rintro e w6 ⟨S, C, hS0, hSb0, rfl, RS, k56⟩; have k6 := k5.then k56; have hSl := Lib.hid hS0; have hSb := Lib.hid hSb0; clear hS0 hSb0)
      | (go_at_call 20; refine (E1.out w1.drew kd).mono ?_; rintro e w5 ⟨Q, qc, rfl, M5⟩; have k5 := kd.then M5.kp; have R5 := M5.rd))
    all_goals
      have HF := Lib.hid (HY.out w7 k7 S L E ec hSl hSb hL M7.rd (Lib.hid (fun a ha => by
        have h1 := M7.own.base a.block (by rw [ha]; rfl)
        have h2 := k6.size
        have h3 := k0.size
        exact ⟨by omega, h1.2⟩)))
      clear M7 hL RS
      generalize L.length = nl at *
      go_wp2_with (fail)
      go_ret2
      exact HF.out
end Go.Proofs.YtddofkeajinjpaaGreatDoor
namespace Go.Proofs.YtddofkeajinjpaaGreatDoor
open Go Go.RowKit
set_option linter.unusedVariables false
set_option linter.unusedSimpArgs false
set_option maxRecDepth 100000

/-- What is read of a message as an envelope whose key is one. -/
structure EvL (l : List Int) (k : Int) (d ty pl sg : List Int) : Prop where
  st : efin (whole estep l ES.zero) = .ok ⟨some (some k, some d), ty, pl, sg⟩
  byt : Byt l
  len : l.length ≤ 40000
  k0 : 0 ≤ k
  k1 : k ≤ 3
  d0 : 0 < d.length
  dn : d.length ≤ 1000
theorem EvL.same {l l2 : List Int} {k k2 : Int} {d d2 ty ty2 pl pl2 sg sg2 : List Int} (h : EvL l k d ty pl sg) (h2 : EvL l2 k2 d2 ty2 pl2 sg2) (e : l = l2) : k = k2 ∧ d = d2 ∧ ty = ty2 ∧ pl = pl2 ∧ sg = sg2 := by
  subst e
  have := h.st.symm.trans h2.st
  simp only [R3.ok.injEq, ES.mk.injEq, Option.some.injEq, Prod.mk.injEq] at this
  exact ⟨this.1.1, this.1.2, this.2.1, this.2.2.1, this.2.2.2⟩
theorem EvL.ebb {k : Int} {d ty pl sg : List Int} (h0 : 0 ≤ k) (h1 : k ≤ 3) (d0 : 0 < d.length) (hd : Byt d) (ht : Byt ty) (hp : Byt pl) (hs : Byt sg) (nd : d.length ≤ 300) (nt : ty.length ≤ 10000) (np : pl.length ≤ 10000) (ns : sg.length ≤ 10000) :
    EvL (Proofs.YtddofkeajinjpaaGreatDoor.ebb k d ty pl sg) k d ty pl sg :=
  have h := efin_ebb (k := k) h0 (by omega) hd ht hp hs nd nt np ns
  ⟨h.1, h.2.1, h.2.2, h0, h1, d0, by omega⟩
theorem same_bool {k k2 : Int} {d d2 ty ty2 pl pl2 sg sg2 : List Int} (h : EvL (Proofs.YtddofkeajinjpaaGreatDoor.ebb k d ty pl sg) k d ty pl sg) (h2 : EvL (Proofs.YtddofkeajinjpaaGreatDoor.ebb k2 d2 ty2 pl2 sg2) k2 d2 ty2 pl2 sg2) :
    (((decide (k = k2 ∧ d = d2) && decide (ty = ty2)) && decide (sg = sg2)) && decide (pl = pl2)) = decide (Proofs.YtddofkeajinjpaaGreatDoor.ebb k d ty pl sg = Proofs.YtddofkeajinjpaaGreatDoor.ebb k2 d2 ty2 pl2 sg2) := by
  by_cases e : Proofs.YtddofkeajinjpaaGreatDoor.ebb k d ty pl sg = Proofs.YtddofkeajinjpaaGreatDoor.ebb k2 d2 ty2 pl2 sg2
  · rw [decide_eq_true e]
    obtain ⟨rfl, rfl, rfl, rfl, rfl⟩ := h.same h2 e
    simp
  · rw [decide_eq_false e, Bool.eq_false_iff]
    intro hh
    simp only [Bool.and_eq_true, decide_eq_true_eq] at hh
    obtain ⟨⟨⟨⟨rfl, rfl⟩, rfl⟩, rfl⟩, rfl⟩ := hh
    exact e rfl

set_option maxHeartbeats 4000000 in
/-- A message that is torn is no envelope. -/
theorem unmarshal_bad {w : World} {A : Option Addr} {n c : Nat} {l : List Int} (h : Rd w A n c l) (hn : n ≤ 1099511627776) (hE : EErrs w) (hlo : Lo w.heap.size A)
    (hst : efin (whole estep l ES.zero) = .bad) :
    Calls Tryz.prog 21 #[.slice A n c] w fun e w' => Kp no w w' ∧ ∃ t v, e = .returned (.tuple #[.pointer none, .iface t v]) := by
  have ka : Kp no w (w.alloc (.cells #[.pointer none, .slice none 0 0, .slice none 0 0, .slice none 0 0] 65)) := (Kp.refl _ _).alloc _
  have B0 := Blk.new w #[.pointer none, .slice none 0 0, .slice none 0 0, .slice none 0 0] 65
  have D1 := Lib.hid (EUnmarshal_calls (h.keepN ka) hn (hE.keepN ka) w.heap.size 65 hE.k.sz _ _ _ _ B0 (fun a e => by have h1 := hlo a e; intro h2; have h2 : a.block = w.heap.size := h2; omega) (hlo.mono ka.size))
  have HST := Lib.hid hst
  clear h hE hlo hst B0
  go_enter Tryz.func21, Tryz.ntmps21
  go_wp2_with (fail)
  refine D1.out.mono ?_
  rintro e w1 ⟨k1, pk, vt, vp, vs, st, b1, est, hf⟩
  have hf2 := hf.2
  rw [HST.out] at hf2
  obtain ⟨t, v, rfl⟩ := hf2
  have hk1 : Kp no w w1 := ka.trans k1 (fun i hi h => by have h : i = w.heap.size := h; omega)
  have HF := Lib.hid (show Kp no w w1 ∧ ∃ t' v', Ending.returned (.tuple #[.pointer none, .iface t v]) = .returned (.tuple #[.pointer none, .iface t' v']) from ⟨hk1, t, v, rfl⟩)
  clear hf est b1
  go_wp2
  go_ret2
  exact HF.out
theorem torn_bad : efin (whole estep [255] ES.zero) = .bad := by
  have hw : wf [255] = .bad := (From.start [255]).bad (Byt.one (by omega) (by omega)) (by simp) (hd_none (by unfold tag; simp [rv]))
  have : whole estep [255] ES.zero = .bad := by unfold whole; rw [hw]
  rw [this]; rfl

/-- What is asked of the world to read envelopes. -/
structure UnW (w : World) : Prop where
  e : EErrs w
  b : IsErr w 10
theorem UnW.keepN {w w' : World} (h : UnW w) (k : Kp no w w') : UnW w' := ⟨h.e.keepN k, h.b.keepN k⟩

set_option maxHeartbeats 8000000 in
theorem sameEnvelopes_calls {w : World} {A B : Option Addr} {c b : Nat} {l l2 : List Int} {k k2 : Int} {d d2 ty ty2 pl pl2 sg sg2 : List Int} (hW : UnW w) (hA : Rd w A l.length c l) (hB : Rd w B l2.length b l2) (h : EvL l k d ty pl sg) (h2 : EvL l2 k2 d2 ty2 pl2 sg2) :
    Calls Tryz.prog 10 #[.slice A l.length c, .slice B l2.length b] w fun e w' => e = .returned (.tuple #[.bool (((decide (k = k2 ∧ d = d2) && decide (ty = ty2)) && decide (sg = sg2)) && decide (pl = pl2)), .bool true]) ∧ Kp no w w' := by
  have HL := Lib.hid (And.intro h.len h2.len)
  have D1 := Lib.hid (Clone_calls hA (by have := HL.out; omega))
  have D2 := Lib.hid (fun W (kk : Kp no w W) => Clone_calls (hB.keepN kk) (by have := HL.out; omega))
  have U1 := Lib.hid (fun W W1 A1 c1 (kk : Kp no w W) (M : MadeAt W W1 A1 c1 l) => unmarshal_calls (w := W1) M.rd (by have := HL.out.1; omega) ((hW.keepN kk).keepN M.kp).e M.lo ((hW.keepN kk).keepN M.kp).b h.st (by have := h.dn; omega))
  have U2 := Lib.hid (fun W W1 A1 c1 (kk : Kp no w W) (M : MadeAt W W1 A1 c1 l2) => unmarshal_calls (w := W1) M.rd (by have := HL.out.2; omega) ((hW.keepN kk).keepN M.kp).e M.lo ((hW.keepN kk).keepN M.kp).b h2.st (by have := h2.dn; omega))
  have HP := Lib.hid (And.intro (show 0 ≤ k ∧ k ≤ 3 ∧ 0 < d.length from ⟨h.k0, h.k1, h.d0⟩) (show 0 ≤ k2 ∧ k2 ≤ 3 ∧ 0 < d2.length from ⟨h2.k0, h2.k1, h2.d0⟩))
  clear hA hB h h2 hW
  generalize hq : (((decide (k = k2 ∧ d = d2) && decide (ty = ty2)) && decide (sg = sg2)) && decide (pl = pl2)) = q at *
  have HQ := Lib.hid hq
  clear hq
  obtain ⟨n1, hn1⟩ : ∃ n, n = l.length := ⟨_, rfl⟩
  obtain ⟨n2, hn2⟩ : ∃ n, n = l2.length := ⟨_, rfl⟩
  rw [← hn1] at D1 U1 ⊢
  rw [← hn2] at D2 U2 ⊢
  have HN1 := Lib.hid hn1
  have HN2 := Lib.hid hn2
  clear hn1 hn2
  go_enter Tryz.func10, Tryz.ntmps10
  go_wp2_with (fail)
  refine D1.out.mono ?_
  rintro e w1 ⟨A1, c1, rfl, M1⟩
  have k1 := M1.kp
  have E1 := Lib.hid (U1.out w w1 A1 c1 (Kp.refl _ _) M1)
  rw [← HN1.out]
  clear M1
  go_wp2_with (fail)
  refine E1.out.mono ?_
  rintro e w2 ⟨k12, hr⟩
  rw [if_pos HP.out.1] at hr
  obtain ⟨g, rfl, _, hV⟩ := hr
  have k2' := k1.then k12
  have HV := Lib.hid hV
  clear hV
  have D3 := Lib.hid (D2.out w2 k2')
  go_wp2_with (fail)
  refine D3.out.mono ?_
  rintro e w3 ⟨A3, c3, rfl, M3⟩
  have k3 := k2'.then M3.kp
  have E2 := Lib.hid (U2.out w2 w3 A3 c3 k2' M3)
  have HV3 := Lib.hid (HV.out.keepN M3.kp)
  rw [← HN2.out]
  clear M3
  go_wp2_with (fail)
  refine E2.out.mono ?_
  rintro e w4 ⟨k34, hr⟩
  rw [if_pos HP.out.2] at hr
  obtain ⟨g2, rfl, _, hV2⟩ := hr
  have k4 := k3.then k34
  have E3 := Lib.hid (envEqual_calls (HV3.out.keepN k34) hV2)
  rw [HQ.out] at E3
  clear hV2
  go_wp2_with (fail)
  refine E3.out.mono ?_
  rintro e w5 ⟨rfl, k45⟩
  go_wp2
  go_ret2
  exact ⟨rfl, k4.then k45⟩

set_option maxHeartbeats 8000000 in
theorem sameEnvelopes_torn {w : World} {A B : Option Addr} {c b : Nat} {l : List Int} {k : Int} {d ty pl sg : List Int} (hW : UnW w) (hA : Rd w A l.length c l) (hB : Rd w B 1 b [255]) (h : EvL l k d ty pl sg) :
    Calls Tryz.prog 10 #[.slice A l.length c, .slice B 1 b] w fun e w' => e = .returned (.tuple #[.bool false, .bool false]) ∧ Kp no w w' := by
  have HL := Lib.hid h.len
  have D1 := Lib.hid (Clone_calls hA (by have := HL.out; omega))
  have D2 := Lib.hid (fun W (kk : Kp no w W) => Clone_calls (hB.keepN kk) (by omega))
  have U1 := Lib.hid (fun W W1 A1 c1 (kk : Kp no w W) (M : MadeAt W W1 A1 c1 l) => unmarshal_calls (w := W1) M.rd (by have := HL.out; omega) ((hW.keepN kk).keepN M.kp).e M.lo ((hW.keepN kk).keepN M.kp).b h.st (by have := h.dn; omega))
  have U2 := Lib.hid (fun W W1 A1 c1 (kk : Kp no w W) (M : MadeAt W W1 A1 c1 [255]) => unmarshal_bad (w := W1) (n := 1) M.rd (by omega) ((hW.keepN kk).keepN M.kp).e M.lo torn_bad)
  have HP := Lib.hid (show 0 ≤ k ∧ k ≤ 3 ∧ 0 < d.length from ⟨h.k0, h.k1, h.d0⟩)
  clear hA hB h hW
  obtain ⟨n1, hn1⟩ : ∃ n, n = l.length := ⟨_, rfl⟩
  rw [← hn1] at D1 U1 ⊢
  have HN1 := Lib.hid hn1
  clear hn1
  go_enter Tryz.func10, Tryz.ntmps10
  go_wp2_with (fail)
  refine D1.out.mono ?_
  rintro e w1 ⟨A1, c1, rfl, M1⟩
  have k1 := M1.kp
  have E1 := Lib.hid (U1.out w w1 A1 c1 (Kp.refl _ _) M1)
  rw [← HN1.out]
  clear M1
  go_wp2_with (fail)
  refine E1.out.mono ?_
  rintro e w2 ⟨k12, hr⟩
  rw [if_pos HP.out] at hr
  obtain ⟨g, rfl, _, hV⟩ := hr
  have k2' := k1.then k12
  clear hV
  have D3 := Lib.hid (D2.out w2 k2')
  go_wp2_with (fail)
  refine D3.out.mono ?_
  rintro e w3 ⟨A3, c3, rfl, M3⟩
  have k3 := k2'.then M3.kp
  have E2 := Lib.hid (U2.out w2 w3 A3 c3 k2' M3)
  clear M3
  go_wp2_with (fail)
  refine E2.out.mono ?_
  rintro e w4 ⟨k34, t, v, rfl⟩
  go_wp2
  go_ret2
  exact ⟨rfl, k3.then k34⟩
end Go.Proofs.YtddofkeajinjpaaGreatDoor
namespace Go.Proofs.YtddofkeajinjpaaGreatDoor
open Go Go.ChangeShapes Go.WideShapes Go.ChangeAt Go.RowKit
set_option linter.unusedVariables false
set_option maxRecDepth 100000

/-- A key of the statements' as an argument. -/
structure ToV where
  k : Int
  A : Option Addr
  c : Nat
  d : List Int
def ToV.cells (x : ToV) : Array Value := #[.int .i32 x.k, .slice x.A x.d.length x.c]
structure ToV.At (x : ToV) (w : World) : Prop where
  d : Rd w x.A x.d.length x.c x.d
theorem cellsT : Tryz.prog.cellsOf 34 = 2 := by kernel_rfl
theorem typesT : Tryz.prog.cellTypes Tryz.prog.depth 34 = some [21, 28] := by kernel_rfl
theorem Toy_arg {H : Type} {enc : TypeId × Value → H} {W : World} {base : Nat} {v : Value} {d : DataW H} {p : List MemPlace}
    (hv : Value.okWide Tryz.prog W .any base 34 v) (h : DataW.Trod enc Tryz.prog W 0 (fun _ => true) true 34 v d p) :
    ∃ x : ToV, v = .agg x.cells ∧ x.At W := by
  unfold Value.okWide at hv
  rw [Tryz.underlying34] at hv
  obtain ⟨cs, rfl, hsz, ts, hts, _, hrow⟩ := hv
  obtain rfl : ts = [21, 28] := Option.some.inj (hts.symm.trans typesT)
  rw [cellsT] at hsz
  obtain ⟨fuel, hf⟩ := h
  obtain ⟨xs, n, rfl, hx, hlen, hxl, hat⟩ := DataW.trod_struct Tryz.underlying34 hf
  obtain ⟨l⟩ := cs
  have hl : l.length = 2 := hsz
  match l, hl with
  | [v0, v1], _ =>
    have hx3 : xs.length = 2 := hxl
    obtain ⟨u0, hu0, o0⟩ := hrow 0 v0 rfl
    obtain ⟨u1, hu1, o1⟩ := hrow 1 v1 rfl
    obtain rfl : u0 = 21 := by simpa using hu0.symm
    obtain rfl : u1 = 28 := by simpa using hu1.symm
    have a1 : DataW.trod enc Tryz.prog W 0 (fun _ => true) true n 28 (([v0, v1].drop 1).take (Tryz.prog.cellsOf 28)) = xs[1]? := hat 1 _ rfl
    rw [cellsB, List.getElem?_eq_getElem (by omega)] at a1
    obtain ⟨A0, n0, c0, l0, rfl, r0, _⟩ := field_bytes o1 a1
    have hs : ∃ z, v0 = .int .i32 z := by
      simp only [Cell.okWide, Cell.ok, Tryz.underlying21] at o0
      cases v0 <;> simp_all
    obtain ⟨z, rfl⟩ := hs
    obtain rfl := r0.len
    exact ⟨⟨z, A0, c0, l0⟩, rfl, ⟨r0⟩⟩
end Go.Proofs.YtddofkeajinjpaaGreatDoor
