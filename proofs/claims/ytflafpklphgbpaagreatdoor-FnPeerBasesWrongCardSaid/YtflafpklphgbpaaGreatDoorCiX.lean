/- cid.CidFromBytes, Cast; peer.FromCid of CIDs that are none, or of another kind. cid.Cast; peer.FromCid. -/
import Derived.Test.YtflafpklphgbpaaGreatDoorMhX
import Derived.Test.YtflafpklphgbpaaGreatDoorQTail
import Derived.Test.YtflafpklphgbpaaGreatDoorShaA
import Derived.Deep.Cut
import Derived.Deep.CutRange
import Derived.Deep.CutBlock
import Derived.Deep.Quiet
import Derived.BigQuiet
import Derived.Test.YtflafpklphgbpaaGreatDoorNuA
namespace Go.Proofs.YtflafpklphgbpaaGreatDoor
open Go Go.RowKit
set_option linter.unusedVariables false
set_option linter.unusedSimpArgs false
set_option maxRecDepth 100000

theorem results_tmp_cellrow_tmp {P : Program} {fn : Func} {q p r : Tmp} {ty : TypeId} (h : fn.results = #[.tmp q, .cell p ty, .tmp r]) (tmps : Array Value) (w : World) (g : Nat) (t : TypeId) (cs : Array Value) (d : TypeDesc)
    (hp : tmps.getD p undef = .pointer (some ⟨g, 0, none⟩)) (hg : Blk w g cs t)
    (hu : P.underlying ty = some d) (hd : (match d with | .struct _ | .array _ _ => true | _ => false) = true) (hi : (P.info? ty).map (·.size) = some cs.size) :
    (results fn tmps).run P w = .ok (.tuple #[tmps.getD q undef, .agg cs, tmps.getD r undef]) w := by
  have hp' : tmps[p]?.getD undef = .pointer (some ⟨g, 0, none⟩) := by simpa using hp
  have hg' : w.heap[g]? = some (.cells cs t (0, 0)) := hg
  simp only [results, h]
  simp [Sem.run_bind, Result.andThen, hp', asAddr, run_loadVar_row w g t ty cs (0, 0) d hg' hu hd hi]
theorem infoC : (Tryz.prog.info? 57).map (·.size) = some 1 := by kernel_rfl

theorem mhf_none {w : World} {A : Option Addr} {n c : Nat} {l : List Int} (h : Rd w A n c l) (hE : MErrs w) (hn : n ≤ 1099511627776) (hm : MH l = none) :
    Calls Tryz.prog 82 #[.slice A n c] w fun e w' => ∃ t x, e = .returned (.tuple #[.int .i64 0, .slice none 0 0, .iface t x]) ∧ Kp no w w' := by
  have D := Lib.hid (rm_none h hE hn hm)
  go_enter Tryz.func82, Tryz.ntmps82
  go_wp2_with (first | (go_at_call 85; refine D.out.mono ?_; rintro e w1 ⟨t, x, rfl, k1⟩))
  go_ret3
  exact ⟨t, x, rfl, k1⟩
theorem mhf_some {w : World} {A : Option Addr} {n c : Nat} {l : List Int} (h : Rd w A n c l) (hE : MErrs w) (hn : n ≤ 1099511627776) {code r : Int} (hm : MH l = some (code, r)) (hr0 : 0 ≤ r) (hr : r ≤ n) :
    Calls Tryz.prog 82 #[.slice A n c] w fun e w' => ∃ A' n' c', e = .returned (.tuple #[.int .i64 r, .slice A' n' c', Value.nilIface]) ∧ Kp no w w' := by
  have D := Lib.hid (rm_some h hE hn hm)
  have hct := cutTo (P := Tryz.prog) Tryz.und_bytes Tryz.size_byte A n c .i64 r hr0 hr h.cap
  go_enter Tryz.func82, Tryz.ntmps82
  go_wp2_with (first | (go_at_call 85; refine D.out.mono ?_; rintro e w1 ⟨A', n', c', rfl, hn', k1⟩))
  go_region
  all_goals
    go_wp2
    go_ret3
    exact ⟨_, _, _, rfl, k1.drew⟩

/-- Bytes of no CID: the first number is missing. -/
theorem cidFrom_bad1 {w : World} {A : Option Addr} {n c : Nat} {d : List Int} (h : Rd w A n c d) (hE : MErrs w) (hn : n ≤ 2) (hf : FU d = none) :
    Calls Tryz.prog 58 #[.slice A n c] w fun e w' => ∃ t x, e = .returned (.tuple #[.int .i64 0, .agg #[.string ⟨#[]⟩], .iface t x]) ∧ Kp no w w' := by
  have ka : Kp no w (w.alloc (.cells #[.string ⟨#[]⟩] 57)) := (Kp.refl _ _).alloc _
  have B0 := Blk.new w #[.string ⟨#[]⟩] 57
  have D := Lib.hid (fu_none (h.keepN ka) (hE.keepN ka) hf)
  have hn2 : ¬ (2 : Int) < n := by omega
  go_enter Tryz.func58, Tryz.ntmps58
  go_wp2_with (first | (go_at_call 62; refine D.out.mono ?_; rintro e w1 ⟨t, x, rfl, k1⟩; have B1 := B0.keepN k1; have c1 := B1.cell 0; have f1 := B1.free 0; have K1 := ka.then k1))
  (try simp only [Exit.inBlock, Exit.then]); refine bodyPost_ret (results_tmp_cellrow_tmp rfl _ _ w.heap.size 57 #[.string ⟨#[]⟩] _ rfl (B1.set 0 (.string ⟨#[]⟩)) Tryz.underlying57 rfl infoC) rfl ?_
  exact ⟨_, _, rfl, K1.setCell (p := ⟨w.heap.size, 0, none⟩) (fun hh => by have hh : w.heap.size < w.heap.size := hh; omega) _⟩
theorem FU_small {x : Int} (r : List Int) (h0 : 0 ≤ x) (h1 : x < 128) : FU (x :: r) = some (x, 1) := by
  have hv : vint x = [x] := by simp [vint, vi, h1]
  have hr : rv 10 (x :: r) = some (x, 1) := by simp [rv, h1]
  unfold FU
  rw [hr]
  simp [hv]
theorem FU_nil : FU [] = none := by simp [FU, rv]

/-- .. the second number is missing. -/
theorem cidFrom_bad2 {w : World} {A : Option Addr} {c : Nat} (h : Rd w A 1 c [1]) (hE : MErrs w) :
    Calls Tryz.prog 58 #[.slice A 1 c] w fun e w' => ∃ t x, e = .returned (.tuple #[.int .i64 0, .agg #[.string ⟨#[]⟩], .iface t x]) ∧ Kp no w w' := by
  have ka : Kp no w (w.alloc (.cells #[.string ⟨#[]⟩] 57)) := (Kp.refl _ _).alloc _
  have B0 := Blk.new w #[.string ⟨#[]⟩] 57
  have hf := FU_small (x := 1) [] (by omega) (by omega)
  have D := Lib.hid (fu_some (h.keepN ka) (hE.keepN ka) hf)
  obtain ⟨A', R', _, _, hcut⟩ := (h.keepN ka).cutFrom (P := Tryz.prog) Tryz.und_bytes Tryz.size_byte .i64 1 (by omega) (by omega)
  have D2 := fun W (k : Kp no (w.alloc (.cells #[.string ⟨#[]⟩] 57)) W) => Lib.hid (fu_none (R'.keepN k) (hE.keepN (ka.then k)) FU_nil)
  clear hf R' h
  go_enter Tryz.func58, Tryz.ntmps58
  go_wp2_with (first
    | (go_at_call 62; refine (D2 w1 (by with_reducible exact k1)).out.mono ?_; rintro e w2 ⟨t, x, rfl, k2⟩; have B2 := B0.keepN (k1.then k2); have c1 := B2.cell 0; have f1 := B2.free 0; have K2 := (ka.then k1).then k2)
    | (go_at_call 62; refine D.out.mono ?_; rintro e w1 ⟨rfl, k1⟩))
  (try simp only [Exit.inBlock, Exit.then]); refine bodyPost_ret (results_tmp_cellrow_tmp rfl _ _ w.heap.size 57 #[.string ⟨#[]⟩] _ rfl (B2.set 0 (.string ⟨#[]⟩)) Tryz.underlying57 rfl infoC) rfl ?_
  exact ⟨_, _, rfl, K2.setCell (p := ⟨w.heap.size, 0, none⟩) (fun hh => by have hh : w.heap.size < w.heap.size := hh; omega) _⟩

/-- .. the multihash is none. -/
theorem cidFrom_bad3 {w : World} {A : Option Addr} {n c : Nat} {y : Int} {p : List Int} (h : Rd w A n c (1 :: y :: p)) (hE : MErrs w) (hn : n ≤ 1099511627776) (h0 : 0 ≤ y) (h1 : y < 128) (hm : MH p = none) :
    Calls Tryz.prog 58 #[.slice A n c] w fun e w' => ∃ t x, e = .returned (.tuple #[.int .i64 0, .agg #[.string ⟨#[]⟩], .iface t x]) ∧ Kp no w w' := by
  have ka : Kp no w (w.alloc (.cells #[.string ⟨#[]⟩] 57)) := (Kp.refl _ _).alloc _
  have B0 := Blk.new w #[.string ⟨#[]⟩] 57
  have hlen := h.len
  simp only [List.length_cons] at hlen
  have D := Lib.hid (fu_some (h.keepN ka) (hE.keepN ka) (FU_small (x := 1) _ (by omega) (by omega)))
  obtain ⟨A', R', _, _, hcut⟩ := (h.keepN ka).cutFrom (P := Tryz.prog) Tryz.und_bytes Tryz.size_byte .i64 1 (by omega) (by omega)
  obtain ⟨A2, R2, _, _, hcut2⟩ := (h.keepN ka).cutFrom (P := Tryz.prog) Tryz.und_bytes Tryz.size_byte .i64 2 (by omega) (by omega)
  have e1 : (1 : Int).toNat = 1 := rfl
  have e2 : (2 : Int).toNat = 2 := rfl
  rw [e1] at R' hcut
  rw [e2] at R2 hcut2
  have D2 := fun W (k : Kp no (w.alloc (.cells #[.string ⟨#[]⟩] 57)) W) => Lib.hid (fu_some (R'.keepN k) (hE.keepN (ka.then k)) (FU_small (x := y) p h0 h1))
  have D3 := fun W (k : Kp no (w.alloc (.cells #[.string ⟨#[]⟩] 57)) W) => Lib.hid (mhf_none (R2.keepN k) (hE.keepN (ka.then k)) (by omega) hm)
  have hg := h.at_ (by omega)
  have hcap := h.cap
  clear e1 e2 R' R2 h
  have HLEN := Lib.hid hlen
  clear hlen
  have HG := Lib.hid hg
  clear hg
  by_cases h2 : (2 : Int) < n
  · obtain ⟨g, o, rfl, hc⟩ := HG.out
    have c0 := ka.cellN (hc 0 (by omega))
    simp only [List.getD_cons_zero, Nat.add_zero] at c0
    clear hc
    go_enter Tryz.func58, Tryz.ntmps58
    go_wp2_with (first
      | (go_at_call 82; refine (D3 w2 (by with_reducible exact k2)).out.mono ?_; rintro e w3 ⟨t, x, rfl, k3⟩; have B3 := B0.keepN (k2.then k3); have cc := B3.cell 0; have ff := B3.free 0; have K3 := (ka.then k2).then k3)
      | (go_at_call 62; refine (D2 w1 (by with_reducible exact k1)).out.mono ?_; rintro e w2 ⟨rfl, hk2⟩; have k2 := k1.then hk2)
      | (go_at_call 62; refine D.out.mono ?_; rintro e w1 ⟨rfl, k1⟩))
    (try simp only [Exit.inBlock, Exit.then]); refine bodyPost_ret (results_tmp_cellrow_tmp rfl _ _ w.heap.size 57 #[.string ⟨#[]⟩] _ rfl (B3.set 0 (.string ⟨#[]⟩)) Tryz.underlying57 rfl infoC) rfl ?_
    exact ⟨_, _, rfl, K3.setCell (p := ⟨w.heap.size, 0, none⟩) (fun hh => by have hh : w.heap.size < w.heap.size := hh; omega) _⟩
  · go_enter Tryz.func58, Tryz.ntmps58
    go_wp2_with (first
      | (go_at_call 82; refine (D3 w2 (by with_reducible exact k2)).out.mono ?_; rintro e w3 ⟨t, x, rfl, k3⟩; have B3 := B0.keepN (k2.then k3); have cc := B3.cell 0; have ff := B3.free 0; have K3 := (ka.then k2).then k3)
      | (go_at_call 62; refine (D2 w1 (by with_reducible exact k1)).out.mono ?_; rintro e w2 ⟨rfl, hk2⟩; have k2 := k1.then hk2)
      | (go_at_call 62; refine D.out.mono ?_; rintro e w1 ⟨rfl, k1⟩))
    (try simp only [Exit.inBlock, Exit.then]); refine bodyPost_ret (results_tmp_cellrow_tmp rfl _ _ w.heap.size 57 #[.string ⟨#[]⟩] _ rfl (B3.set 0 (.string ⟨#[]⟩)) Tryz.underlying57 rfl infoC) rfl ?_
    exact ⟨_, _, rfl, K3.setCell (p := ⟨w.heap.size, 0, none⟩) (fun hh => by have hh : w.heap.size < w.heap.size := hh; omega) _⟩

/-- A CID of the version 1, whole. -/
theorem cidFrom_good {w : World} {A : Option Addr} {n c : Nat} {y : Int} {p : List Int} (h : Rd w A n c (1 :: y :: p)) (hE : MErrs w) (hn : n ≤ 1099511627776) (h0 : 0 ≤ y) (h1 : y < 128) (hm : IsMH p) (hp : 1 ≤ p.length) :
    Calls Tryz.prog 58 #[.slice A n c] w fun e w' => e = .returned (.tuple #[.int .i64 n, .agg #[.string (strOfNums (1 :: y :: p))], Value.nilIface]) ∧ Kp no w w' := by
  have ka : Kp no w (w.alloc (.cells #[.string ⟨#[]⟩] 57)) := (Kp.refl _ _).alloc _
  have B0 := Blk.new w #[.string ⟨#[]⟩] 57
  have hlen := h.len
  simp only [List.length_cons] at hlen
  obtain ⟨code, hm⟩ := hm
  have D := Lib.hid (fu_some (h.keepN ka) (hE.keepN ka) (FU_small (x := 1) _ (by omega) (by omega)))
  obtain ⟨A', R', _, _, hcut⟩ := (h.keepN ka).cutFrom (P := Tryz.prog) Tryz.und_bytes Tryz.size_byte .i64 1 (by omega) (by omega)
  obtain ⟨A2, R2, _, _, hcut2⟩ := (h.keepN ka).cutFrom (P := Tryz.prog) Tryz.und_bytes Tryz.size_byte .i64 2 (by omega) (by omega)
  obtain ⟨A3, R3, _, _, hcut3⟩ := (h.keepN ka).cut (P := Tryz.prog) Tryz.und_bytes Tryz.size_byte .i64 .i64 0 n (by omega) (by omega) (by omega)
  have e1 : (1 : Int).toNat = 1 := rfl
  have e2 : (2 : Int).toNat = 2 := rfl
  have e0 : (0 : Int).toNat = 0 := rfl
  have en : (n : Int).toNat = n := by simp
  rw [e1] at R' hcut
  rw [e2] at R2 hcut2
  rw [e0, en, Nat.sub_zero, Nat.sub_zero, List.drop_zero, List.take_of_length_le (by simp; omega)] at R3
  rw [e0, en, Nat.sub_zero, Nat.sub_zero] at hcut3
  have D2 := fun W (k : Kp no (w.alloc (.cells #[.string ⟨#[]⟩] 57)) W) => Lib.hid (fu_some (R'.keepN k) (hE.keepN (ka.then k)) (FU_small (x := y) p h0 h1))
  have D3 := fun W (k : Kp no (w.alloc (.cells #[.string ⟨#[]⟩] 57)) W) => Lib.hid (mhf_some (R2.keepN k) (hE.keepN (ka.then k)) (by omega) hm (by omega) (by omega))
  have C3 := fun W (k : Kp no (w.alloc (.cells #[.string ⟨#[]⟩] 57)) W) => (R3.keepN k).strT Tryz.und_bytes Tryz.und_string
  have hg := h.at_ (by omega)
  have hcap := h.cap
  have hpl : (2 : Int) + (p.length : Int) = n := by omega
  clear e1 e2 e0 en R' R2 R3 h hm
  have HLEN := Lib.hid hlen
  obtain ⟨g, o, rfl, hc⟩ := hg
  have c0 := ka.cellN (hc 0 (by omega))
  simp only [List.getD_cons_zero, Nat.add_zero] at c0
  have h2 : (2 : Int) < n := by omega
  clear hc hlen
  generalize (p.length : Int) = q at *
  have HH := Lib.hid hpl
  generalize strOfNums (1 :: y :: p) = S at *
  go_enter Tryz.func58, Tryz.ntmps58
  go_wp2_with (first
    | (go_at_call 82; refine (D3 w2 (by with_reducible exact k2)).out.mono ?_; rintro e w3 ⟨t, x, x2, rfl, hk3⟩; have k3 := k2.then hk3; have B3 := B0.keepN k3; have cc := B3.cell 0; have ff := B3.free 0; have K3 := ka.then k3; have c3 := fun m => C3 (w3.drewN m) (k3.drewN m))
    | (go_at_call 62; refine (D2 w1 (by with_reducible exact k1)).out.mono ?_; rintro e w2 ⟨rfl, hk2⟩; have k2 := k1.then hk2)
    | (go_at_call 62; refine D.out.mono ?_; rintro e w1 ⟨rfl, k1⟩))
  refine wp_region_quiet_tail 7 (by kernel_rfl) (by kernel_rfl) ?_
  simp only [List.take_succ_cons, List.take_zero, List.drop_succ_cons, List.drop_zero]
  repeat (go_big_quiet_step (fail))
  refine wpQuiet_nil ?_
  rintro _ ⟨nq, rfl⟩
  have B4 := B3.keepN (Kp.byDraws w3 nq)
  have c4 := B4.cell 0
  have f4 := B4.free 0
  go_wp2
  (try simp only [Exit.inBlock, Exit.then]); refine bodyPost_ret (results_tmp_cellrow_tmp rfl _ _ w.heap.size 57 #[.string S] _ rfl (B4.set 0 (.string S)) Tryz.underlying57 rfl infoC) rfl ?_
  exact ⟨rfl, (K3.drewN nq).setCell (p := ⟨w.heap.size, 0, none⟩) (fun hh => by have hh : w.heap.size < w.heap.size := hh; omega) _⟩
end Go.Proofs.YtflafpklphgbpaaGreatDoor
namespace Go.Proofs.YtflafpklphgbpaaGreatDoor
open Go Go.RowKit
set_option linter.unusedVariables false
set_option linter.unusedSimpArgs false
set_option maxRecDepth 100000

theorem Tryz.und_mh : Tryz.prog.underlying 52 = some (.slice 5) := by kernel_rfl
/-- A CID of the version 0. -/
theorem cidFrom_v0 {w : World} {A : Option Addr} {c : Nat} {p : List Int} (h : Rd w A 34 c (18 :: 32 :: p)) (hE : MErrs w) (hm : IsMH (18 :: 32 :: p)) :
    Calls Tryz.prog 58 #[.slice A 34 c] w fun e w' => e = .returned (.tuple #[.int .i64 34, .agg #[.string (strOfNums (18 :: 32 :: p))], Value.nilIface]) ∧ Kp no w w' := by
  have ka : Kp no w (w.alloc (.cells #[.string ⟨#[]⟩] 57)) := (Kp.refl _ _).alloc _
  have B0 := Blk.new w #[.string ⟨#[]⟩] 57
  have hcut := cutTo (P := Tryz.prog) Tryz.und_bytes Tryz.size_byte A 34 c .i64 34 (by omega) (by omega) h.cap
  have e34 : (34 : Int).toNat = 34 := rfl
  rw [e34] at hcut
  have D := Lib.hid (Cast_yes (h.keepN ka) (hE.keepN ka) (by omega) hm)
  have C3 := fun W (k : Kp no w W) => (h.keepN k).strT Tryz.und_mh Tryz.und_string
  have hg := h.at_ (by omega)
  have hcap := h.cap
  obtain ⟨g, o, rfl, hc⟩ := hg
  have c0 := ka.cellN (hc 0 (by omega))
  have c1 := ka.cellN (hc 1 (by omega))
  simp only [List.getD_cons_zero, Nat.add_zero, List.getD_cons_succ] at c0 c1
  clear hc h
  generalize strOfNums (18 :: 32 :: p) = S at *
  go_enter Tryz.func58, Tryz.ntmps58
  go_wp2_with (first
    | (go_at_call 34; refine D.out.mono ?_; rintro e w1 ⟨rfl, k1⟩; have K1 := ka.then k1; have B1 := B0.keepN k1; have c3 := fun m => C3 (w1.drewN m) (K1.drewN m)))
  refine wp_region_quiet_tail 4 (by kernel_rfl) (by kernel_rfl) ?_
  simp only [List.take_succ_cons, List.take_zero, List.drop_succ_cons, List.drop_zero]
  repeat (go_big_quiet_step (fail))
  refine wpQuiet_nil ?_
  rintro _ ⟨nq, rfl⟩
  have B4 := B1.keepN (Kp.byDraws w1 nq)
  have c4 := B4.cell 0
  have f4 := B4.free 0
  go_wp2
  (try simp only [Exit.inBlock, Exit.then]); refine bodyPost_ret (results_tmp_cellrow_tmp rfl _ _ w.heap.size 57 #[.string S] _ rfl (B4.set 0 (.string S)) Tryz.underlying57 rfl infoC) rfl ?_
  exact ⟨rfl, (K1.drewN nq).setCell (p := ⟨w.heap.size, 0, none⟩) (fun hh => by have hh : w.heap.size < w.heap.size := hh; omega) _⟩

def CidBad (w : World) (e : Ending) (w' : World) : Prop := ∃ t x, e = .returned (.tuple #[.int .i64 0, .agg #[.string ⟨#[]⟩], .iface t x]) ∧ Kp no w w'
theorem cidCast_bad {w : World} {A : Option Addr} {n c : Nat} (D : ∀ W, Kp no w W → Calls Tryz.prog 58 #[.slice A n c] W (CidBad W)) :
    Calls Tryz.prog 37 #[.slice A n c] w fun e w' => ∃ t x, e = .returned (.tuple #[.agg #[.string ⟨#[]⟩], .iface t x]) ∧ Kp no w w' := by
  have ka : Kp no w (w.alloc (.cells #[.string ⟨#[]⟩] 57)) := (Kp.refl _ _).alloc _
  have B0 := Blk.new w #[.string ⟨#[]⟩] 57
  have D1 := Lib.hid (D _ ka)
  clear D
  go_enter Tryz.func37, Tryz.ntmps37
  go_wp2_with (first
    | (go_at_call 58; refine D1.out.mono ?_; rintro e w1 ⟨t, x, rfl, k1⟩; have K1 := ka.then k1; have B1 := B0.keepN k1; have hlt := B1.lt; have c1 := B1.cell 0; have f1 := B1.free 0))
  (try simp only [Exit.inBlock, Exit.then]); refine bodyPost_ret (results_cellrow_tmp1 rfl _ _ w.heap.size 57 #[.string ⟨#[]⟩] _ rfl ((B1.set 0 (.string ⟨#[]⟩)).alloc _) Tryz.underlying57 rfl infoC) rfl ?_
  exact ⟨_, _, rfl, (K1.setCell (p := ⟨w.heap.size, 0, none⟩) (fun hh => by have hh : w.heap.size < w.heap.size := hh; omega) _).alloc _⟩
theorem cidCast_good {w : World} {A : Option Addr} {n c : Nat} {S : ByteArray} (D : ∀ W, Kp no w W → Calls Tryz.prog 58 #[.slice A n c] W fun e w' => e = .returned (.tuple #[.int .i64 n, .agg #[.string S], Value.nilIface]) ∧ Kp no W w') :
    Calls Tryz.prog 37 #[.slice A n c] w fun e w' => e = .returned (.tuple #[.agg #[.string S], Value.nilIface]) ∧ Kp no w w' := by
  have ka : Kp no w (w.alloc (.cells #[.string ⟨#[]⟩] 57)) := (Kp.refl _ _).alloc _
  have B0 := Blk.new w #[.string ⟨#[]⟩] 57
  have D1 := Lib.hid (D _ ka)
  clear D
  go_enter Tryz.func37, Tryz.ntmps37
  go_wp2_with (first
    | (go_at_call 58; refine D1.out.mono ?_; rintro e w1 ⟨rfl, k1⟩; have K1 := ka.then k1; have B1 := B0.keepN k1; have hlt := B1.lt; have c1 := B1.cell 0; have f1 := B1.free 0))
  (try simp only [Exit.inBlock, Exit.then]); refine bodyPost_ret (results_cellrow_tmp1 rfl _ _ w.heap.size 57 #[.string S] _ rfl ((B1.set 0 (.string S)).alloc _) Tryz.underlying57 rfl infoC) rfl ?_
  exact ⟨rfl, (K1.setCell (p := ⟨w.heap.size, 0, none⟩) (fun hh => by have hh : w.heap.size < w.heap.size := hh; omega) _).alloc _⟩

/-! ### A CID's version, and its codec -/
theorem strOfNums_get {l : List Int} (i : Nat) (hi : i < l.length) (hb : Byt l) : ∀ h : i < (strOfNums l).size, (((strOfNums l)[i]'h).toNat : Int) = l.getD i 0 := fun h => by
  have h1 : (strOfNums l).data.toList[i]'(by simpa using h) = (l.map (fun n => UInt8.ofNat n.toNat))[i]'(by simpa using hi) := by simp [strOfNums_data]
  have h2 : (strOfNums l)[i]'h = UInt8.ofNat l[i].toNat := by simp at h1; exact h1
  rw [h2]
  have hx := hb l[i] (List.getElem_mem hi)
  simp only [List.getD_eq_getElem?_getD, List.getElem?_eq_getElem hi, UInt8.toNat_ofNat', Option.getD_some]
  omega
theorem ver1_calls {w : World} {x : Int} {r : List Int} (hb : Byt (x :: r)) (hl : r.length ≤ 1099511627776) (h0 : x ≠ 18) :
    Calls Tryz.prog 59 #[.agg #[.string (strOfNums (x :: r))]] w fun e w' => e = .returned (.int .u64 1) ∧ Kp no w w' := by
  have hs := strOfNums_size (x :: r)
  simp only [List.length_cons] at hs
  have hg : ∀ h : 0 < (strOfNums (x :: r)).size, (((strOfNums (x :: r))[0]'h).toNat : Int) = x := fun h => by have := strOfNums_get 0 (by simp) hb h; simpa using this
  have hx : (x == 18) = false := beq_eq_false_iff_ne.2 h0
  generalize strOfNums (x :: r) = S at *
  clear hb
  go_enter Tryz.func59, Tryz.ntmps59
  by_cases h34 : r.length = 33
  · have hs2 : S.size = 34 := by omega
    have hs3 : (S.size : Int) = 34 := by omega
    clear hs
    go_wp2
    go_ret
    exact ⟨rfl, (Kp.refl _ _).alloc _⟩
  · have hs2 : ((S.size : Int) == 34) = false := by simp; omega
    have hs3 : ¬ (S.size : Int) = 34 := by omega
    clear hs
    go_wp2
    go_ret
    exact ⟨rfl, (Kp.refl _ _).alloc _⟩
theorem ver0_calls {w : World} {p : List Int} (hb : Byt (18 :: 32 :: p)) (hl : p.length = 32) :
    Calls Tryz.prog 59 #[.agg #[.string (strOfNums (18 :: 32 :: p))]] w fun e w' => e = .returned (.int .u64 0) ∧ Kp no w w' := by
  have hs := strOfNums_size (18 :: 32 :: p)
  simp only [List.length_cons, hl] at hs
  have hg : ∀ h : 0 < (strOfNums (18 :: 32 :: p)).size, (((strOfNums (18 :: 32 :: p))[0]'h).toNat : Int) = 18 := fun h => by have := strOfNums_get 0 (by simp) hb h; simpa using this
  have hg1 : ∀ h : 1 < (strOfNums (18 :: 32 :: p)).size, (((strOfNums (18 :: 32 :: p))[1]'h).toNat : Int) = 32 := fun h => by have := strOfNums_get 1 (by simp) hb h; simpa using this
  generalize strOfNums (18 :: 32 :: p) = S at *
  have hs2 : S.size = 34 := by omega
  clear hb hs
  go_enter Tryz.func59, Tryz.ntmps59
  go_wp2
  go_ret
  exact ⟨rfl, (Kp.refl _ _).alloc _⟩
theorem or0_u64 (x : Int) (h0 : 0 ≤ x) (h1 : x < 128) : bits .or .u64 0 x = x := by
  have := u64_join 0 1 (by decide) 0 x (by omega) (by omega) (by omega) (by omega) (by omega)
  simpa using this
/-- A small number at the head of a text. -/
theorem cuv_small {w : World} {x : Int} {r : List Int} (hb : Byt (x :: r)) (hl : r.length ≤ 1099511627776) (h1 : x < 128) :
    Calls Tryz.prog 60 #[.string (strOfNums (x :: r))] w fun e w' => e = .returned (.tuple #[.int .u64 x, .int .i64 1, Value.nilIface]) ∧ Kp no w w' := by
  have hs := strOfNums_size (x :: r)
  simp only [List.length_cons] at hs
  have h0 := (hb x (by simp)).1
  have hg : ∀ h : 0 < (strOfNums (x :: r)).size, (((strOfNums (x :: r))[0]'h).toNat : Int) = x := fun h => by have := strOfNums_get 0 (by simp) hb h; simpa using this
  generalize strOfNums (x :: r) = S at *
  clear hb
  have hs1 : 0 < S.size := by omega
  have hs2 : (0 : Int) < (S.size : Int) := by omega
  have ho : bits .or .u64 0 x = x := or0_u64 x h0 (by omega)
  go_enter Tryz.func60, Tryz.ntmps60
  go_wp2
  go_loop [5, 6, 7, 8] (fun a b i y => a = .int .u64 0 ∧ b = .int .u64 0 ∧ i = .int .i64 0) (fun _ _ _ _ => 0)
  case atStart => exact ⟨rfl, rfl, rfl⟩
  case round =>
    obtain ⟨rfl, rfl, rfl⟩ := hrel
    go_wp2
    all_goals
      go_ret3
      exact ⟨rfl, Kp.refl _ _⟩
theorem str_tail {x : Int} {r : List Int} : (strOfNums (x :: r)).extract 1 (strOfNums (x :: r)).size = strOfNums r := by
  have h : (strOfNums (x :: r)).data.toList = UInt8.ofNat x.toNat :: (strOfNums r).data.toList := by rw [strOfNums_data, strOfNums_data]; rfl
  apply ByteArray.ext
  apply Array.toList_inj.1
  rw [ByteArray.data_extract, Array.toList_extract, h]
  have hs : (strOfNums (x :: r)).size = r.length + 1 := by rw [strOfNums_size]; rfl
  have hl : (strOfNums r).data.toList.length = r.length := by rw [strOfNums_data]; simp
  rw [hs]
  simp [List.extract]
  exact List.take_of_length_le (by omega)
theorem type1_calls {w : World} {y : Int} {p : List Int} (hb : Byt (1 :: y :: p)) (hl : p.length ≤ 1000000) (h1 : y < 128) :
    Calls Tryz.prog 38 #[.agg #[.string (strOfNums (1 :: y :: p))]] w fun e w' => e = .returned (.int .u64 y) ∧ Kp no w w' := by
  have ka : Kp no w (w.alloc (.cells #[.string (strOfNums (1 :: y :: p))] 57)) := (Kp.refl _ _).alloc _
  have B0 := Blk.new w #[.string (strOfNums (1 :: y :: p))] 57
  have hbt : Byt (y :: p) := fun z hz => hb z (List.mem_cons_of_mem _ hz)
  have D1 := fun W => Lib.hid (ver1_calls (w := W) hb (by simp; omega) (by omega))
  have D2 := fun W => Lib.hid (cuv_small (w := W) hb (by simp; omega) (by omega))
  have D3 := fun W => Lib.hid (cuv_small (w := W) hbt (by omega) h1)
  have ht := str_tail (x := 1) (r := y :: p)
  have hs := strOfNums_size (1 :: y :: p)
  simp only [List.length_cons] at hs
  generalize strOfNums (1 :: y :: p) = S at *
  rw [← ht] at D3
  have hs1 : (1 : Int) ≤ (S.size : Int) := by omega
  have hs2 : 1 ≤ S.size := by omega
  clear hb hbt ht hs
  go_enter Tryz.func38, Tryz.ntmps38
  go_wp2_with (first
    | (go_at_call 59; refine (D1 _).out.mono ?_; rintro e w1 ⟨rfl, k1⟩; have c1 := (B0.keepN k1).cell 0)
    | (go_at_call 60; refine (D3 w2).out.mono ?_; rintro e w3 ⟨rfl, k3⟩)
    | (go_at_call 60; refine (D2 w1).out.mono ?_; rintro e w2 ⟨rfl, k2⟩; clear D2; have c2 := (B0.keepN (k1.then k2)).cell 0))
  go_ret
  exact ⟨rfl, ((ka.then k1).then k2).then k3⟩
theorem type0_calls {w : World} {p : List Int} (hb : Byt (18 :: 32 :: p)) (hl : p.length = 32) :
    Calls Tryz.prog 38 #[.agg #[.string (strOfNums (18 :: 32 :: p))]] w fun e w' => e = .returned (.int .u64 112) ∧ Kp no w w' := by
  have ka : Kp no w (w.alloc (.cells #[.string (strOfNums (18 :: 32 :: p))] 57)) := (Kp.refl _ _).alloc _
  have D1 := fun W => Lib.hid (ver0_calls (w := W) hb hl)
  generalize strOfNums (18 :: 32 :: p) = S at *
  clear hb
  go_enter Tryz.func38, Tryz.ntmps38
  go_wp2_with (first
    | (go_at_call 59; refine (D1 _).out.mono ?_; rintro e w1 ⟨rfl, k1⟩))
  go_ret
  exact ⟨rfl, ka.then k1⟩
theorem errNew_calls {w : World} (s : ByteArray) : Calls Tryz.prog 24 #[.string s] w fun e w' => ∃ t x, e = .returned (.iface t x) ∧ Kp no w w' := by
  go_enter Tryz.func24, Tryz.ntmps24
  go_wp2
  go_ret
  exact ⟨_, _, rfl, (Kp.refl _ _).alloc _⟩
/-- A CID of another codec than that of keys is of no ID. -/
theorem fromCid_other {w : World} {S : ByteArray} {y : Int} (hy : y ≠ 114) (D : ∀ W, Calls Tryz.prog 38 #[.agg #[.string S]] W fun e w' => e = .returned (.int .u64 y) ∧ Kp no W w') :
    Calls Tryz.prog 26 #[.agg #[.string S]] w fun e w' => ∃ t x, e = .returned (.tuple #[.string ⟨#[]⟩, .iface t x]) ∧ Kp no w w' := by
  have ka : Kp no w (w.alloc (.cells #[.string S] 57)) := (Kp.refl _ _).alloc _
  have D1 := fun W => Lib.hid (D W)
  have hyb : (y == 114) = false := beq_eq_false_iff_ne.2 hy
  have hyb2 : (y != 114) = true := by simp [hy]
  clear D
  go_enter Tryz.func26, Tryz.ntmps26
  go_wp2_with (first
    | (go_at_call 38; refine (D1 _).out.mono ?_; rintro e w1 ⟨rfl, k1⟩)
    | (go_at_call 24; refine (errNew_calls _).mono ?_; rintro e w2 ⟨t, x, rfl, k2⟩))
  go_ret2
  exact ⟨_, _, rfl, (ka.then k1).then k2⟩
end Go.Proofs.YtflafpklphgbpaaGreatDoor
