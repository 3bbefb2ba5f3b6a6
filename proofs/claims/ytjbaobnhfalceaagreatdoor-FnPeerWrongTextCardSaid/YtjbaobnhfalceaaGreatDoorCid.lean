/- cid.CidFromBytes, Cast; peer.FromCid of CIDs that are none, or of another kind. -/
import Derived.Test.YtjbaobnhfalceaaGreatDoorMhC
import Derived.Test.YtjbaobnhfalceaaGreatDoorQTail
import Derived.Test.YtjbaobnhfalceaaGreatDoorShaA
import Derived.Deep.Cut
import Derived.Deep.CutRange
import Derived.Deep.CutBlock
import Derived.Deep.Quiet
import Derived.BigQuiet
namespace Go.Proofs.YtjbaobnhfalceaaGreatDoor
open Go Go.RowKit
set_option linter.unusedVariables false
set_option linter.unusedSimpArgs false
set_option maxRecDepth 100000

theorem results_tmp_cellrow_tmp {P : Program} {fn : Func} {q p r : Tmp} {ty : TypeId} (h : fn.results = #[.tmp q, .cell p ty, .tmp r]) (tmps : Array Value) (w : World) (g : Nat) (t : TypeId) (cs : Array Value) (d : TypeDesc)
    (hp : tmps.getD p undef = .pointer (some ⟨g, 0, none⟩)) (hg : Blk w g cs t)
    (hu : P.underlying ty = some d) (hd : (match d with | .struct _ | .array _ _ => true | _ => false) = true) (hi : (P.info? ty).map (·.size) = some cs.size) :
    (results fn tmps).run P w = .ok (.tuple #[tmps.getD q undef, .agg cs, tmps.getD r undef]) w := by
  have hp' : tmps[p]?.getD undef = .pointer (some ⟨g, 0, none⟩) := by simpa using hp
  have hg' : w.heap[g]? = some (.cells cs t (0, 0)) := hg
  simp only [results, h]
  simp [Sem.run_bind, Result.andThen, hp', asAddr, run_loadVar_row w g t ty cs (0, 0) d hg' hu hd hi]
theorem infoC : (Tryz.prog.info? 60).map (·.size) = some 1 := by kernel_rfl

theorem mhf_none {w : World} {A : Option Addr} {n c : Nat} {l : List Int} (h : Rd w A n c l) (hE : MErrs w) (hn : n ≤ 1099511627776) (hm : MH l = none) :
    Calls Tryz.prog 86 #[.slice A n c] w fun e w' => ∃ t x, e = .returned (.tuple #[.int .i64 0, .slice none 0 0, .iface t x]) ∧ Kp no w w' := by
  have D := Lib.hid (rm_none h hE hn hm)
  go_enter Tryz.func86, Tryz.ntmps86
  go_wp2_with (first | (go_at_call 88; refine D.out.mono ?_; rintro e w1 ⟨t, x, rfl, k1⟩))
  go_ret3
  exact ⟨t, x, rfl, k1⟩
theorem mhf_some {w : World} {A : Option Addr} {n c : Nat} {l : List Int} (h : Rd w A n c l) (hE : MErrs w) (hn : n ≤ 1099511627776) {code r : Int} (hm : MH l = some (code, r)) (hr0 : 0 ≤ r) (hr : r ≤ n) :
    Calls Tryz.prog 86 #[.slice A n c] w fun e w' => ∃ A' n' c', e = .returned (.tuple #[.int .i64 r, .slice A' n' c', Value.nilIface]) ∧ Kp no w w' := by
  have D := Lib.hid (rm_some h hE hn hm)
  have hct := cutTo (P := Tryz.prog) Tryz.und_bytes Tryz.size_byte A n c .i64 r hr0 hr h.cap
  go_enter Tryz.func86, Tryz.ntmps86
  go_wp2_with (first | (go_at_call 88; refine D.out.mono ?_; rintro e w1 ⟨A', n', c', rfl, hn', k1⟩))
  go_region
  all_goals
    go_wp2
    go_ret3
    exact ⟨_, _, _, rfl, k1.drew⟩

/-- Bytes of no CID: the first number is missing. -/
theorem cidFrom_bad1 {w : World} {A : Option Addr} {n c : Nat} {d : List Int} (h : Rd w A n c d) (hE : MErrs w) (hn : n ≤ 2) (hf : FU d = none) :
    Calls Tryz.prog 62 #[.slice A n c] w fun e w' => ∃ t x, e = .returned (.tuple #[.int .i64 0, .agg #[.string ⟨#[]⟩], .iface t x]) ∧ Kp no w w' := by
  have ka : Kp no w (w.alloc (.cells #[.string ⟨#[]⟩] 60)) := (Kp.refl _ _).alloc _
  have B0 := Blk.new w #[.string ⟨#[]⟩] 60
  have D := Lib.hid (fu_none (h.keepN ka) (hE.keepN ka) hf)
  have hn2 : ¬ (2 : Int) < n := by omega
  go_enter Tryz.func62, Tryz.ntmps62
  go_wp2_with (first | (go_at_call 66; refine D.out.mono ?_; rintro e w1 ⟨t, x, rfl, k1⟩; have B1 := B0.keepN k1; have c1 := B1.cell 0; have f1 := B1.free 0; have K1 := ka.then k1))
  (try simp only [Exit.inBlock, Exit.then]); refine bodyPost_ret (results_tmp_cellrow_tmp rfl _ _ w.heap.size 60 #[.string ⟨#[]⟩] _ rfl (B1.set 0 (.string ⟨#[]⟩)) Tryz.underlying60 rfl infoC) rfl ?_
  exact ⟨_, _, rfl, K1.setCell (p := ⟨w.heap.size, 0, none⟩) (fun hh => by have hh : w.heap.size < w.heap.size := hh; omega) _⟩
theorem FU_small {x : Int} (r : List Int) (h0 : 0 ≤ x) (h1 : x < 128) : FU (x :: r) = some (x, 1) := by
  have hv : vint x = [x] := by simp [vint, vi, h1]
  have hr : rv 10 (x :: r) = some (x, 1) := by simp [rv, h1]
  unfold FU
  rw [hr]
  simp [hv]
theorem FU_nil : FU [] = none := by simp [FU, rv]

/-- .. the second number is missing. -/
theorem cidFrom_bad2 {w : World} {A : Option Addr} {c : Nat} (h : Rd w A 1 c [1]) (hE : MErrs w) :
    Calls Tryz.prog 62 #[.slice A 1 c] w fun e w' => ∃ t x, e = .returned (.tuple #[.int .i64 0, .agg #[.string ⟨#[]⟩], .iface t x]) ∧ Kp no w w' := by
  have ka : Kp no w (w.alloc (.cells #[.string ⟨#[]⟩] 60)) := (Kp.refl _ _).alloc _
  have B0 := Blk.new w #[.string ⟨#[]⟩] 60
  have hf := FU_small (x := 1) [] (by omega) (by omega)
  have D := Lib.hid (fu_some (h.keepN ka) (hE.keepN ka) hf)
  obtain ⟨A', R', _, _, hcut⟩ := (h.keepN ka).cutFrom (P := Tryz.prog) Tryz.und_bytes Tryz.size_byte .i64 1 (by omega) (by omega)
  have D2 := fun W (k : Kp no (w.alloc (.cells #[.string ⟨#[]⟩] 60)) W) => Lib.hid (fu_none (R'.keepN k) (hE.keepN (ka.then k)) FU_nil)
  clear hf R' h
  go_enter Tryz.func62, Tryz.ntmps62
  go_wp2_with (first
    | (go_at_call 66; refine (D2 w1 (by with_reducible exact k1)).out.mono ?_; rintro e w2 ⟨t, x, rfl, k2⟩; have B2 := B0.keepN (k1.then k2); have c1 := B2.cell 0; have f1 := B2.free 0; have K2 := (ka.then k1).then k2)
    | (go_at_call 66; refine D.out.mono ?_; rintro e w1 ⟨rfl, k1⟩))
  (try simp only [Exit.inBlock, Exit.then]); refine bodyPost_ret (results_tmp_cellrow_tmp rfl _ _ w.heap.size 60 #[.string ⟨#[]⟩] _ rfl (B2.set 0 (.string ⟨#[]⟩)) Tryz.underlying60 rfl infoC) rfl ?_
  exact ⟨_, _, rfl, K2.setCell (p := ⟨w.heap.size, 0, none⟩) (fun hh => by have hh : w.heap.size < w.heap.size := hh; omega) _⟩

/-- .. the multihash is none. -/
theorem cidFrom_bad3 {w : World} {A : Option Addr} {n c : Nat} {y : Int} {p : List Int} (h : Rd w A n c (1 :: y :: p)) (hE : MErrs w) (hn : n ≤ 1099511627776) (h0 : 0 ≤ y) (h1 : y < 128) (hm : MH p = none) :
    Calls Tryz.prog 62 #[.slice A n c] w fun e w' => ∃ t x, e = .returned (.tuple #[.int .i64 0, .agg #[.string ⟨#[]⟩], .iface t x]) ∧ Kp no w w' := by
  have ka : Kp no w (w.alloc (.cells #[.string ⟨#[]⟩] 60)) := (Kp.refl _ _).alloc _
  have B0 := Blk.new w #[.string ⟨#[]⟩] 60
  have hlen := h.len
  simp only [List.length_cons] at hlen
  have D := Lib.hid (fu_some (h.keepN ka) (hE.keepN ka) (FU_small (x := 1) _ (by omega) (by omega)))
  obtain ⟨A', R', _, _, hcut⟩ := (h.keepN ka).cutFrom (P := Tryz.prog) Tryz.und_bytes Tryz.size_byte .i64 1 (by omega) (by omega)
  obtain ⟨A2, R2, _, _, hcut2⟩ := (h.keepN ka).cutFrom (P := Tryz.prog) Tryz.und_bytes Tryz.size_byte .i64 2 (by omega) (by omega)
  have e1 : (1 : Int).toNat = 1 := rfl
  have e2 : (2 : Int).toNat = 2 := rfl
  rw [e1] at R' hcut
  rw [e2] at R2 hcut2
  have D2 := fun W (k : Kp no (w.alloc (.cells #[.string ⟨#[]⟩] 60)) W) => Lib.hid (fu_some (R'.keepN k) (hE.keepN (ka.then k)) (FU_small (x := y) p h0 h1))
  have D3 := fun W (k : Kp no (w.alloc (.cells #[.string ⟨#[]⟩] 60)) W) => Lib.hid (mhf_none (R2.keepN k) (hE.keepN (ka.then k)) (by omega) hm)
  have hg := h.at_ (by omega)
  have hcap := h.cap
  clear e1 e2 R' R2 h
  have HLEN := Lib.hid hlen
  clear hlen
  have HG := Lib.hid hg
  clear hg
  by_cases h2 : (2 : Int) < n
  · obtain ⟨g, o, rfl, hc⟩ := HG.out
    have c0 := ka.cellN (hc 0 (by omega))
    simp only [List.getD_cons_zero, Nat.add_zero] at c0
    clear hc
    go_enter Tryz.func62, Tryz.ntmps62
    go_wp2_with (first
      | (go_at_call 86; refine (D3 w2 (by with_reducible exact k2)).out.mono ?_; rintro e w3 ⟨t, x, rfl, k3⟩; have B3 := B0.keepN (k2.then k3); have cc := B3.cell 0; have ff := B3.free 0; have K3 := (ka.then k2).then k3)
      | (go_at_call 66; refine (D2 w1 (by with_reducible exact k1)).out.mono ?_; rintro e w2 ⟨rfl, hk2⟩; have k2 := k1.then hk2)
      | (go_at_call 66; refine D.out.mono ?_; rintro e w1 ⟨rfl, k1⟩))
    (try simp only [Exit.inBlock, Exit.then]); refine bodyPost_ret (results_tmp_cellrow_tmp rfl _ _ w.heap.size 60 #[.string ⟨#[]⟩] _ rfl (B3.set 0 (.string ⟨#[]⟩)) Tryz.underlying60 rfl infoC) rfl ?_
    exact ⟨_, _, rfl, K3.setCell (p := ⟨w.heap.size, 0, none⟩) (fun hh => by have hh : w.heap.size < w.heap.size := hh; omega) _⟩
  · go_enter Tryz.func62, Tryz.ntmps62
    go_wp2_with (first
      | (go_at_call 86; refine (D3 w2 (by with_reducible exact k2)).out.mono ?_; rintro e w3 ⟨t, x, rfl, k3⟩; have B3 := B0.keepN (k2.then k3); have cc := B3.cell 0; have ff := B3.free 0; have K3 := (ka.then k2).then k3)
      | (go_at_call 66; refine (D2 w1 (by with_reducible exact k1)).out.mono ?_; rintro e w2 ⟨rfl, hk2⟩; have k2 := k1.then hk2)
      | (go_at_call 66; refine D.out.mono ?_; rintro e w1 ⟨rfl, k1⟩))
    (try simp only [Exit.inBlock, Exit.then]); refine bodyPost_ret (results_tmp_cellrow_tmp rfl _ _ w.heap.size 60 #[.string ⟨#[]⟩] _ rfl (B3.set 0 (.string ⟨#[]⟩)) Tryz.underlying60 rfl infoC) rfl ?_
    exact ⟨_, _, rfl, K3.setCell (p := ⟨w.heap.size, 0, none⟩) (fun hh => by have hh : w.heap.size < w.heap.size := hh; omega) _⟩

/-- A CID of the version 1, whole. -/
theorem cidFrom_good {w : World} {A : Option Addr} {n c : Nat} {y : Int} {p : List Int} (h : Rd w A n c (1 :: y :: p)) (hE : MErrs w) (hn : n ≤ 1099511627776) (h0 : 0 ≤ y) (h1 : y < 128) (hm : IsMH p) (hp : 1 ≤ p.length) :
    Calls Tryz.prog 62 #[.slice A n c] w fun e w' => e = .returned (.tuple #[.int .i64 n, .agg #[.string (strOfNums (1 :: y :: p))], Value.nilIface]) ∧ Kp no w w' := by
  have ka : Kp no w (w.alloc (.cells #[.string ⟨#[]⟩] 60)) := (Kp.refl _ _).alloc _
  have B0 := Blk.new w #[.string ⟨#[]⟩] 60
  have hlen := h.len
  simp only [List.length_cons] at hlen
  obtain ⟨code, hm⟩ := hm
  have D := Lib.hid (fu_some (h.keepN ka) (hE.keepN ka) (FU_small (x := 1) _ (by omega) (by omega)))
  obtain ⟨A', R', _, _, hcut⟩ := (h.keepN ka).cutFrom (P := Tryz.prog) Tryz.und_bytes Tryz.size_byte .i64 1 (by omega) (by omega)
  obtain ⟨A2, R2, _, _, hcut2⟩ := (h.keepN ka).cutFrom (P := Tryz.prog) Tryz.und_bytes Tryz.size_byte .i64 2 (by omega) (by omega)
  obtain ⟨A3, R3, _, _, hcut3⟩ := (h.keepN ka).cut (P := Tryz.prog) Tryz.und_bytes Tryz.size_byte .i64 .i64 0 n (by omega) (by omega) (by omega)
  have e1 : (1 : Int).toNat = 1 := rfl
  have e2 : (2 : Int).toNat = 2 := rfl
  have e0 : (0 : Int).toNat = 0 := rfl
  have en : (n : Int).toNat = n := by simp
  rw [e1] at R' hcut
  rw [e2] at R2 hcut2
  rw [e0, en, Nat.sub_zero, Nat.sub_zero, List.drop_zero, List.take_of_length_le (by simp; omega)] at R3
  rw [e0, en, Nat.sub_zero, Nat.sub_zero] at hcut3
  have D2 := fun W (k : Kp no (w.alloc (.cells #[.string ⟨#[]⟩] 60)) W) => Lib.hid (fu_some (R'.keepN k) (hE.keepN (ka.then k)) (FU_small (x := y) p h0 h1))
  have D3 := fun W (k : Kp no (w.alloc (.cells #[.string ⟨#[]⟩] 60)) W) => Lib.hid (mhf_some (R2.keepN k) (hE.keepN (ka.then k)) (by omega) hm (by omega) (by omega))
  have C3 := fun W (k : Kp no (w.alloc (.cells #[.string ⟨#[]⟩] 60)) W) => (R3.keepN k).strT Tryz.und_bytes Tryz.und_string
  have hg := h.at_ (by omega)
  have hcap := h.cap
  have hpl : (2 : Int) + (p.length : Int) = n := by omega
  clear e1 e2 e0 en R' R2 R3 h hm
  have HLEN := Lib.hid hlen
  obtain ⟨g, o, rfl, hc⟩ := hg
  have c0 := ka.cellN (hc 0 (by omega))
  simp only [List.getD_cons_zero, Nat.add_zero] at c0
  have h2 : (2 : Int) < n := by omega
  clear hc hlen
  generalize (p.length : Int) = q at *
  have HH := Lib.hid hpl
  generalize strOfNums (1 :: y :: p) = S at *
  go_enter Tryz.func62, Tryz.ntmps62
  go_wp2_with (first
    | (go_at_call 86; refine (D3 w2 (by with_reducible exact k2)).out.mono ?_; rintro e w3 ⟨t, x, x2, rfl, hk3⟩; have k3 := k2.then hk3; have B3 := B0.keepN k3; have cc := B3.cell 0; have ff := B3.free 0; have K3 := ka.then k3; have c3 := fun m => C3 (w3.drewN m) (k3.drewN m))
    | (go_at_call 66; refine (D2 w1 (by with_reducible exact k1)).out.mono ?_; rintro e w2 ⟨rfl, hk2⟩; have k2 := k1.then hk2)
    | (go_at_call 66; refine D.out.mono ?_; rintro e w1 ⟨rfl, k1⟩))
  refine wp_region_quiet_tail 7 (by kernel_rfl) (by kernel_rfl) ?_
  simp only [List.take_succ_cons, List.take_zero, List.drop_succ_cons, List.drop_zero]
  repeat (go_big_quiet_step (fail))
  refine wpQuiet_nil ?_
  rintro _ ⟨nq, rfl⟩
  have B4 := B3.keepN (Kp.byDraws w3 nq)
  have c4 := B4.cell 0
  have f4 := B4.free 0
  go_wp2
  (try simp only [Exit.inBlock, Exit.then]); refine bodyPost_ret (results_tmp_cellrow_tmp rfl _ _ w.heap.size 60 #[.string S] _ rfl (B4.set 0 (.string S)) Tryz.underlying60 rfl infoC) rfl ?_
  exact ⟨rfl, (K3.drewN nq).setCell (p := ⟨w.heap.size, 0, none⟩) (fun hh => by have hh : w.heap.size < w.heap.size := hh; omega) _⟩
end Go.Proofs.YtjbaobnhfalceaaGreatDoor
