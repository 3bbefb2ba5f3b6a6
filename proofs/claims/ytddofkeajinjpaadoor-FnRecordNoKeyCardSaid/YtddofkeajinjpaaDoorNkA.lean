/- The reference's signature (some 32 bytes) and its envelope. -/
import Derived.Test.YtddofkeajinjpaaDoorSvA
import Derived.Test.YtddofkeajinjpaaDoorShaC
import Derived.Test.YtddofkeajinjpaaDoorEMoreP
import Derived.Deep.RegionHeld3
namespace Go.Proofs.YtddofkeajinjpaaDoor
open Go Go.RowKit
set_option linter.unusedVariables false
set_option linter.unusedSimpArgs false
set_option maxRecDepth 100000

theorem Rd.ofBlkN {w : World} {g : Nat} {L : List Int} {t : TypeId} {n : Nat} (h : Blk w g (nums .u8 L).toArray t) (hn : L.length = n) (hb : Byt L) (hm : n ≤ 9223372036854775807) : Rd w (some ⟨g, 0, none⟩) n n L :=
  ⟨hn, Nat.le_refl _, hm, hb, fun _ => ⟨g, 0, rfl, fun j hj => by
    rw [Nat.zero_add, h.cell j]; simp [nums, List.getD_eq_getElem?_getD, List.getElem?_eq_getElem (show j < L.length by omega)]⟩⟩
/-- Some 32 bytes are handed back. -/
def SigP (w : World) (e : Ending) (w' : World) : Prop := ∃ S C, S.length = 32 ∧ Byt S ∧ e = .returned (.slice C 32 32) ∧ Rd w' C 32 32 S ∧ Kp no w w'

set_option maxHeartbeats 4000000 in
theorem recordSignature_calls {w : World} {A B : Option Addr} {n c m d : Nat} {k : Int} {l b : List Int} (hl : Rd w A n c l) (hn : n ≤ 10000) (hb : Rd w B m d b) (hm : m ≤ 100000) :
    Calls Tryd.prog 13 #[.agg #[.int .i32 k, .slice A n c], .slice B m d] w (SigP w) := by
  obtain rfl := hl.len
  obtain rfl := hb.len
  have ka : Kp no w (w.alloc (.cells #[.int .i32 k, .slice A l.length c] 30)) := (Kp.refl _ _).alloc _
  have hx := Blk.new w #[.int .i32 k, .slice A l.length c] 30
  have HL := Lib.hid (hl.keepN ka)
  have HB := Lib.hid (hb.keepN ka)
  have HKA := Lib.hid ka
  have HN := Lib.hid (And.intro hn hm)
  clear hl hb hn hm
  go_enter Tryd.func13, Tryd.ntmps13
  go_upto_region 1 with (fail)
  generalize w.alloc (.cells #[.int .i32 k, .slice A l.length c] 30) = W1 at *
  have O0 := Own.lit W1 5 W1.heap.size [] (Nat.le_refl _) Byt.nil (by simp)
  have k0 : Kp no W1 (W1.alloc (.cells (nums .u8 []).toArray 5)) := (Kp.refl _ _).alloc _
  have x1 : (W1.alloc (.cells #[] 5)).cell? ⟨w.heap.size, 1, none⟩ = some (.slice A l.length c) := k0.cellN (hx.cell 1)
  have R0 := HL.out.keepN k0
  have s0 := k0.size
  have HLn := Lib.hid (show ∀ x : List Int, x = [] ++ l ∨ x = ([] ++ l) ++ [0] → x.length + b.length ≤ 140737488355328 ∧ x.length + 1 ≤ 140737488355328 ∧ (x ++ b).length ≤ 1000000 from fun x hx => by
    have := HN.out
    rcases hx with rfl | rfl <;> simp <;> omega)
  clear hx ka
  go_wp2_with (first
    | (at_builtin; refine own_append W1.heap.size rfl (.tmp 6) (.tmp 8) 22 5 rfl Tryd.und_bytes Tryd.info_byte (.slice (some ⟨W1.heap.size, 0, none⟩) 0 0) [] l A l.length c rfl rfl O0 R0 s0 (by have := HN.out; simp; omega) ?_; intro v2 w2 O2 hk2 _ _; have K2 := k0.own O0 (Nat.le_refl _) hk2; have kl : Kp no w2 (w2.alloc (.cells (nums .u8 [0]).toArray 5)) := (Kp.refl _ _).alloc _; have O2l := O2.keepN kl; have RL : Rd (w2.alloc (.cells (nums .u8 [0]).toArray 5)) (some ⟨w2.heap.size, 0, none⟩) 1 1 [0] := Rd.litm w2 5 [0] _ (Byt.one (by omega) (by omega)) (by simp); have K3 := K2.then kl; have s3 := K3.size; clear x1 O0 R0 s0)
    | (at_builtin; refine own_append W1.heap.size rfl (.tmp 9) (.tmp 10) 22 5 rfl Tryd.und_bytes Tryd.info_byte v2 ([] ++ l) [0] (some ⟨w2.heap.size, 0, none⟩) 1 1 rfl rfl O2l RL s3 (HLn.out _ (.inl rfl)).2.1 ?_; intro v4 w4 O4 hk4 _ _; have K4 := K3.own O2l (Nat.le_refl _) hk4; have RB := HB.out.keepN K4; have s4 := K4.size)
    | (at_builtin; refine own_append W1.heap.size rfl (.tmp 11) (.tmp 12) 22 5 rfl Tryd.und_bytes Tryd.info_byte v4 (([] ++ l) ++ [0]) b B b.length d rfl rfl O4 RB s4 (HLn.out _ (.inr rfl)).1 ?_; intro v5 w5 O5 hk5 _ _; have K5 := K4.own O4 (Nat.le_refl _) hk5; obtain ⟨Z, hZ⟩ : ∃ Z, Z = (([] ++ l) ++ [0]) ++ b := ⟨_, rfl⟩; rw [← hZ] at O5; have HZ := Lib.hid (show Z.length ≤ 1000000 from by rw [hZ]; exact (HLn.out _ (.inr rfl)).2.2); clear hZ; obtain ⟨A5, c5, rfl, R5, _, _⟩ := O5.rd; have D5 := Lib.hid (shaSum_calls R5 HZ.out))
    | (go_at_call 29; refine D5.out.mono ?_; rintro e w6 ⟨⟨S, hS0, hSb0, rfl⟩, k6⟩; have hS := Lib.hid hS0; have hSb := Lib.hid hSb0; clear hS0 hSb0; have K6 := K5.then k6; have B6 := Blk.new w6 (nums .u8 (List.replicate 32 0)).toArray 56)
    | (refine wpList_store_row rfl 56 (.tmp 5) (.tmp 14) rfl w6.heap.size (nums .u8 S) rfl rfl B6 (by simp [nums]; have := hS.out; omega) (by rw [nums_length, hS.out]; exact infoB32) (nums_one _ _) ?_; intro w7 B7 k7 hsz7; clear hsz7; have K7 : Kp no W1 w7 := (K6.alloc _).trans k7 (fun i hi h => by have h : i = _ := h; have := K6.size; omega)))
  go_ret
  exact ⟨S, _, hS.out, hSb.out, rfl, Rd.ofBlkN B7 hS.out hSb.out (by omega), HKA.out.then K7⟩
end Go.Proofs.YtddofkeajinjpaaDoor
namespace Go.Proofs.YtddofkeajinjpaaDoor
open Go Go.RowKit
set_option linter.unusedVariables false
set_option linter.unusedSimpArgs false
set_option maxRecDepth 100000

section
variable {P : Program} {ops : Array Oper} {o : Oper} {a : Act} {Q : Exit → Act → World → Prop} {K : Act → World → Prop}
/-- 'append(v, ys...)' in a region that draws its order. -/
theorem own_append_if {W : World} (B : Nat) (hgd : o.guard = none) (s x : Operand) (t e : TypeId)
    (ho : o.op = .call { callee := .builtin .append, args := #[s, x], argTypes := #[t, t] })
    (ht : P.underlying t = some (.slice e)) (hinfo : (P.info? e).map (fun i => (i.zero, i.size, i.bytes)) = some (some (.int .u8 0), 1, 1))
    (v : Value) (l ys : List Int) (A : Option Addr) (m c : Nat) (hs : a.eval s = v) (hx : a.eval x = .slice A m c)
    (HO : Own W e B v l) (HR : Rd W A m c ys) (hB : B ≤ W.heap.size) (hl : l.length + m ≤ 140737488355328) {E : Prop}
    (h : ∀ v1 w1, Own w1 e B v1 (l ++ ys) → Kp (Of v) W w1 → K (a.put o.dst v1) w1) :
    if Region.wanted o (yielded ops a.tmps) = true then Oper.wp P o a W K Q else E := by
  rw [if_pos (by simp [Region.wanted, hgd])]
  obtain ⟨v1, w1, hr, hown, hg, hat, hnn⟩ := run_own_append (P := P) B t e o.type ht hinfo v l ys A m c HO HR hB hl
  unfold Oper.wp execOp
  simp only [ho, resolve, invoke, builtin, Sem.run_bind, Sem.run_pure, Result.andThen_ok, List.map_toArray, List.map_cons, List.map_nil, hs, hx, hr]
  exact h v1 w1 hown ((Kp.refl _ _).grown hg fun k hk _ => hk)
end
theorem wb_le (f : Int) (l : List Int) : (wb f l).length ≤ l.length + 11 := by
  have := (vint_len (l.length : Int)).2
  simp [wb]; omega
theorem ob_le (f : Int) (l : List Int) : (ob f l).length ≤ l.length + 11 := by
  unfold ob; split
  · simp
  · exact wb_le f l
theorem kb_127 {k : Int} {d : List Int} (h0 : 0 ≤ k) (h1 : k ≤ 127) : kb k d = [8, k] ++ wb 2 d := by
  unfold kb ku
  rw [if_neg (by omega), vint_1 k (by omega)]
  simp

set_option maxHeartbeats 8000000 in
theorem recordEnvelope_calls {w : World} {A B C D : Option Addr} {c b e f : Nat} {k : Int} {d ty pl sg : List Int} (h0 : 0 ≤ k) (h1 : k ≤ 127) (hd : Rd w A d.length c d) (hdn : d.length ≤ 1000)
    (ht : Rd w B ty.length b ty) (htn : ty.length ≤ 10000) (hp : Rd w C pl.length e pl) (hpn : pl.length ≤ 10000) (hs : Rd w D sg.length f sg) (hsn : sg.length ≤ 10000) :
    Calls Tryd.prog 15 #[.agg #[.int .i32 k, .slice A d.length c], .slice B ty.length b, .slice C pl.length e, .slice D sg.length f] w (Made w (ebb k d ty pl sg)) := by
  have ka : Kp no w (w.alloc (.cells #[.int .i32 k, .slice A d.length c] 30)) := (Kp.refl _ _).alloc _
  have hx := Blk.new w #[.int .i32 k, .slice A d.length c] 30
  have ew : IntKind.u8.wrap k = k := IntWalk.u8_in _ (by omega)
  have HBK := Lib.hid (show Byt [8, k] from fun x hx => by simp at hx; omega)
  rw [show ebb k d ty pl sg = ((wb 1 ([8, k] ++ wb 2 d) ++ ob 2 ty) ++ ob 3 pl) ++ ob 5 sg from by unfold ebb; rw [kb_127 h0 h1]; simp [List.append_assoc]]
  obtain ⟨P1, hP1⟩ : ∃ x, x = wb 1 ([8, k] ++ wb 2 d) := ⟨_, rfl⟩
  rw [← hP1]
  have HP1 := Lib.hid hP1
  go_enter Tryd.func15, Tryd.ntmps15
  go_upto_region 1 with (fail)
  generalize w.alloc (.cells #[.int .i32 k, .slice A d.length c] 30) = W1 at *
  have D0 := fun W (kk : Kp no W1 W) => Lib.hid (recordField_calls ((hd.keepN ka).keepN kk) (by omega) 2 (by omega) (by omega))
  have D2 := Lib.hid (fun W (kk : Kp no W1 W) => recordSome_calls ((ht.keepN ka).keepN kk) (by omega) 2 (by omega) (by omega))
  have D3 := Lib.hid (fun W (kk : Kp no W1 W) => recordSome_calls ((hp.keepN ka).keepN kk) (by omega) 3 (by omega) (by omega))
  have D4 := Lib.hid (fun W (kk : Kp no W1 W) => recordSome_calls ((hs.keepN ka).keepN kk) (by omega) 5 (by omega) (by omega))
  have HS := Lib.hid (fun W (kk : Kp no W1 W) => show Kp no W1 W ∧ W.cell? ⟨w.heap.size, 0, none⟩ = some (.int .i32 k) ∧ W.cell? ⟨w.heap.size, 1, none⟩ = some (.slice A d.length c) from ⟨kk, (hx.keepN kk).cell 0, (hx.keepN kk).cell 1⟩)
  have kd : Kp no W1 W1.drew := (Kp.refl _ _).drew
  have kdl : Kp no W1 (W1.alloc (.cells #[.int .u8 8, .int .u8 k] 5)).drew := ((Kp.refl _ _).alloc _).drew
  have OLA : Own (W1.alloc (.cells #[.int .u8 8, .int .u8 k] 5)).drew 5 W1.heap.size (.slice (some ⟨W1.heap.size, 0, none⟩) 2 2) [8, k] := (Own.lit W1 5 W1.heap.size [8, k] (Nat.le_refl _) HBK.out (by simp)).keepN (Kp.refl _ _).drew
  have HKA := Lib.hid ka
  have HLN := Lib.hid (show (wb 2 d).length ≤ 1011 ∧ P1.length ≤ 1100 ∧ (ob 2 ty).length ≤ 10011 ∧ (ob 3 pl).length ≤ 10011 ∧ (ob 5 sg).length ≤ 10011 from by
    have a1 := wb_le 2 d; have a2 := wb_le 1 ([8, k] ++ wb 2 d); have a3 := ob_le 2 ty; have a4 := ob_le 3 pl; have a5 := ob_le 5 sg
    simp only [List.length_append, List.length_cons, List.length_nil] at a2
    rw [← hP1] at a2
    omega)
  clear hP1
  have OLW := Lib.hid (fun W (kk : Kp no W1 W) => Own.lit W 5 W1.heap.size [8, k] kk.size HBK.out (by simp))
  clear hd hdn ht htn hp hpn hs hsn hx ka
  generalize wb 2 d = P0 at *
  generalize ob 2 ty = P2 at *
  generalize ob 3 pl = P3 at *
  generalize ob 5 sg = P4 at *
  go_cut [9] from 11 to 18 (fun v wx => Own wx 5 W1.heap.size v ([8, k] ++ P0) ∧ Kp no W1 wx)
  case first =>
    have hl2 : ([8, k] : List Int).length + P0.length ≤ 140737488355328 := by have := HLN.out.1; simp only [List.length_cons, List.length_nil]; omega
    clear HLN D2 D3 D4
    go_region_held3 (fun W => Kp no W1 W ∧ W.cell? ⟨w.heap.size, 0, none⟩ = some (.int .i32 k) ∧ W.cell? ⟨w.heap.size, 1, none⟩ = some (.slice A d.length c))
      ((exact HS.out _ (by first | with_reducible exact kd | with_reducible exact kdl | with_reducible exact k4 | with_reducible exact k5 | with_reducible exact k4.alloc _ | with_reducible exact K9 | (trace_state; fail))))
      (first
      | (refine own_append_if W1.heap.size rfl (.tmp 14) (.tmp 17) 22 5 rfl Tryd.und_bytes Tryd.info_byte (.slice (some ⟨w4.heap.size, 0, none⟩) 2 2) [8, k] P0 A4 P0.length c4 rfl rfl (OLW.out w4 k4) (M4.rd.keepN ((Kp.refl _ _).alloc _)) (k4.alloc _).size hl2 ?_; intro v9 w9 O9 k9; have K9 := (k4.alloc _).own (OLW.out w4 k4) (Nat.le_refl _) k9)
      | (refine own_append_if W1.heap.size rfl (.tmp 14) (.tmp 17) 22 5 rfl Tryd.und_bytes Tryd.info_byte (.slice (some ⟨W1.heap.size, 0, none⟩) 2 2) [8, k] P0 A5 P0.length c5 rfl rfl (OLA.keepN M5.kp) M5.rd k5.size hl2 ?_; intro v9 w9 O9 k9; have K9 := k5.own (OLA.keepN M5.kp) (Nat.le_refl _) k9)
      | (go_at_call 31; refine (D0 _ (by with_reducible exact kdl)).out.mono ?_; rintro e w5 ⟨A5, c5, rfl, M5⟩; have k5 := kdl.then M5.kp)
      | (go_at_call 31; refine (D0 _ (by with_reducible exact kd)).out.mono ?_; rintro e w4 ⟨A4, c4, rfl, M4⟩; have k4 := kd.then M4.kp))
    all_goals
      go_wp2_with (fail)
      go_meet
      case rel => exact ⟨O9, K9⟩
  case rest =>
    obtain ⟨O2, k2⟩ := hcut
    obtain ⟨A2, c2, rfl, R2, _, _⟩ := O2.rd
    have D1 := Lib.hid (recordField_calls R2 (by have := HLN.out.1; simp only [List.length_append, List.length_cons, List.length_nil]; omega) 1 (by omega) (by omega))
    rw [← HP1.out] at D1
    have HK2 := Lib.hid k2
    clear D0 HS kd kdl OLW O2 R2 k2
    generalize hP : [8, k] ++ P0 = PP at *
    clear hP
    go_wp2_with (fail)
    refine D1.out.mono ?_
    rintro e w3 ⟨B0, b0, rfl, M0⟩
    have k3 := HK2.out.then M0.kp
    have O3 := M0.own.lower HK2.out.size
    have E2 := Lib.hid (D2.out w3 k3)
    go_wp2_with (fail)
    refine E2.out.mono ?_
    rintro e w4 ⟨B1, b1, rfl, M1⟩
    have O4 := O3.keepN M1.kp
    have k4 := k3.then M1.kp
    have R4 := M1.rd
    have s4 := k4.size
    have hlen : P1.length + P2.length ≤ 140737488355328 := by have := HLN.out; omega
    go_wp2_with (first | (at_builtin; refine own_append W1.heap.size rfl (.tmp 21) (.tmp 23) 22 5 rfl Tryd.und_bytes Tryd.info_byte (.slice B0 P1.length b0) P1 P2 B1 P2.length b1 rfl rfl O4 R4 s4 hlen ?_; intro v5 w5 O5 hk5 _ _; have k5 := k4.own O4 (Nat.le_refl _) hk5))
    have E3 := Lib.hid (D3.out w5 k5)
    go_wp2_with (fail)
    refine E3.out.mono ?_
    rintro e w6 ⟨B2, b2, rfl, M2⟩
    have O6 := O5.keepN M2.kp
    have k6 := k5.then M2.kp
    have R6 := M2.rd
    have s6 := k6.size
    have hlen2 : (P1 ++ P2).length + P3.length ≤ 140737488355328 := by have := HLN.out; simp; omega
    go_wp2_with (first | (at_builtin; refine own_append W1.heap.size rfl (.tmp 25) (.tmp 27) 22 5 rfl Tryd.und_bytes Tryd.info_byte v5 (P1 ++ P2) P3 B2 P3.length b2 rfl rfl O6 R6 s6 hlen2 ?_; intro v7 w7 O7 hk7 _ _; have k7 := k6.own O6 (Nat.le_refl _) hk7))
    have E4 := Lib.hid (D4.out w7 k7)
    go_wp2_with (fail)
    refine E4.out.mono ?_
    rintro e w8 ⟨B3, b3, rfl, M3⟩
    have O8 := O7.keepN M3.kp
    have k8 := k7.then M3.kp
    have R8 := M3.rd
    have s8 := k8.size
    have hlen3 : ((P1 ++ P2) ++ P3).length + P4.length ≤ 140737488355328 := by have := HLN.out; simp; omega
    go_wp2_with (first | (at_builtin; refine own_append W1.heap.size rfl (.tmp 29) (.tmp 31) 22 5 rfl Tryd.und_bytes Tryd.info_byte v7 ((P1 ++ P2) ++ P3) P4 B3 P4.length b3 rfl rfl O8 R8 s8 hlen3 ?_; intro v9 w9 O9 hk9 _ _))
    go_ret
    exact Made.of (O9.lower HKA.out.size) (HKA.out.then (k8.own O8 (Nat.le_refl _) hk9))
end Go.Proofs.YtddofkeajinjpaaDoor
