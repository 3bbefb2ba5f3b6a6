/- cid.Cast; peer.FromCid. -/
import Derived.Test.YtjbaobnhfalceaaGreatDoorCid
import Derived.Test.YtjbaobnhfalceaaGreatDoorNum
namespace Go.Proofs.YtjbaobnhfalceaaGreatDoor
open Go Go.RowKit
set_option linter.unusedVariables false
set_option linter.unusedSimpArgs false
set_option maxRecDepth 100000

theorem Tryz.und_mh : Tryz.prog.underlying 55 = some (.slice 5) := by kernel_rfl
/-- A CID of the version 0. -/
theorem cidFrom_v0 {w : World} {A : Option Addr} {c : Nat} {p : List Int} (h : Rd w A 34 c (18 :: 32 :: p)) (hE : MErrs w) (hm : IsMH (18 :: 32 :: p)) :
    Calls Tryz.prog 62 #[.slice A 34 c] w fun e w' => e = .returned (.tuple #[.int .i64 34, .agg #[.string (strOfNums (18 :: 32 :: p))], Value.nilIface]) ∧ Kp no w w' := by
  have ka : Kp no w (w.alloc (.cells #[.string ⟨#[]⟩] 60)) := (Kp.refl _ _).alloc _
  have B0 := Blk.new w #[.string ⟨#[]⟩] 60
  have hcut := cutTo (P := Tryz.prog) Tryz.und_bytes Tryz.size_byte A 34 c .i64 34 (by omega) (by omega) h.cap
  have e34 : (34 : Int).toNat = 34 := rfl
  rw [e34] at hcut
  have D := Lib.hid (Cast_yes (h.keepN ka) (hE.keepN ka) (by omega) hm)
  have C3 := fun W (k : Kp no w W) => (h.keepN k).strT Tryz.und_mh Tryz.und_string
  have hg := h.at_ (by omega)
  have hcap := h.cap
  obtain ⟨g, o, rfl, hc⟩ := hg
  have c0 := ka.cellN (hc 0 (by omega))
  have c1 := ka.cellN (hc 1 (by omega))
  simp only [List.getD_cons_zero, Nat.add_zero, List.getD_cons_succ] at c0 c1
  clear hc h
  generalize strOfNums (18 :: 32 :: p) = S at *
  go_enter Tryz.func62, Tryz.ntmps62
  go_wp2_with (first
    | (go_at_call 38; refine D.out.mono ?_; rintro e w1 ⟨rfl, k1⟩; have K1 := ka.then k1; have B1 := B0.keepN k1; have c3 := fun m => C3 (w1.drewN m) (K1.drewN m)))
  refine wp_region_quiet_tail 4 (by kernel_rfl) (by kernel_rfl) ?_
  simp only [List.take_succ_cons, List.take_zero, List.drop_succ_cons, List.drop_zero]
  repeat (go_big_quiet_step (fail))
  refine wpQuiet_nil ?_
  rintro _ ⟨nq, rfl⟩
  have B4 := B1.keepN (Kp.byDraws w1 nq)
  have c4 := B4.cell 0
  have f4 := B4.free 0
  go_wp2
  (try simp only [Exit.inBlock, Exit.then]); refine bodyPost_ret (results_tmp_cellrow_tmp rfl _ _ w.heap.size 60 #[.string S] _ rfl (B4.set 0 (.string S)) Tryz.underlying60 rfl infoC) rfl ?_
  exact ⟨rfl, (K1.drewN nq).setCell (p := ⟨w.heap.size, 0, none⟩) (fun hh => by have hh : w.heap.size < w.heap.size := hh; omega) _⟩

def CidBad (w : World) (e : Ending) (w' : World) : Prop := ∃ t x, e = .returned (.tuple #[.int .i64 0, .agg #[.string ⟨#[]⟩], .iface t x]) ∧ Kp no w w'
theorem cidCast_bad {w : World} {A : Option Addr} {n c : Nat} (D : ∀ W, Kp no w W → Calls Tryz.prog 62 #[.slice A n c] W (CidBad W)) :
    Calls Tryz.prog 41 #[.slice A n c] w fun e w' => ∃ t x, e = .returned (.tuple #[.agg #[.string ⟨#[]⟩], .iface t x]) ∧ Kp no w w' := by
  have ka : Kp no w (w.alloc (.cells #[.string ⟨#[]⟩] 60)) := (Kp.refl _ _).alloc _
  have B0 := Blk.new w #[.string ⟨#[]⟩] 60
  have D1 := Lib.hid (D _ ka)
  clear D
  go_enter Tryz.func41, Tryz.ntmps41
  go_wp2_with (first
    | (go_at_call 62; refine D1.out.mono ?_; rintro e w1 ⟨t, x, rfl, k1⟩; have K1 := ka.then k1; have B1 := B0.keepN k1; have hlt := B1.lt; have c1 := B1.cell 0; have f1 := B1.free 0))
  (try simp only [Exit.inBlock, Exit.then]); refine bodyPost_ret (results_cellrow_tmp1 rfl _ _ w.heap.size 60 #[.string ⟨#[]⟩] _ rfl ((B1.set 0 (.string ⟨#[]⟩)).alloc _) Tryz.underlying60 rfl infoC) rfl ?_
  exact ⟨_, _, rfl, (K1.setCell (p := ⟨w.heap.size, 0, none⟩) (fun hh => by have hh : w.heap.size < w.heap.size := hh; omega) _).alloc _⟩
theorem cidCast_good {w : World} {A : Option Addr} {n c : Nat} {S : ByteArray} (D : ∀ W, Kp no w W → Calls Tryz.prog 62 #[.slice A n c] W fun e w' => e = .returned (.tuple #[.int .i64 n, .agg #[.string S], Value.nilIface]) ∧ Kp no W w') :
    Calls Tryz.prog 41 #[.slice A n c] w fun e w' => e = .returned (.tuple #[.agg #[.string S], Value.nilIface]) ∧ Kp no w w' := by
  have ka : Kp no w (w.alloc (.cells #[.string ⟨#[]⟩] 60)) := (Kp.refl _ _).alloc _
  have B0 := Blk.new w #[.string ⟨#[]⟩] 60
  have D1 := Lib.hid (D _ ka)
  clear D
  go_enter Tryz.func41, Tryz.ntmps41
  go_wp2_with (first
    | (go_at_call 62; refine D1.out.mono ?_; rintro e w1 ⟨rfl, k1⟩; have K1 := ka.then k1; have B1 := B0.keepN k1; have hlt := B1.lt; have c1 := B1.cell 0; have f1 := B1.free 0))
  (try simp only [Exit.inBlock, Exit.then]); refine bodyPost_ret (results_cellrow_tmp1 rfl _ _ w.heap.size 60 #[.string S] _ rfl ((B1.set 0 (.string S)).alloc _) Tryz.underlying60 rfl infoC) rfl ?_
  exact ⟨rfl, (K1.setCell (p := ⟨w.heap.size, 0, none⟩) (fun hh => by have hh : w.heap.size < w.heap.size := hh; omega) _).alloc _⟩

/-! ### A CID's version, and its codec -/
theorem strOfNums_get {l : List Int} (i : Nat) (hi : i < l.length) (hb : Byt l) : ∀ h : i < (strOfNums l).size, (((strOfNums l)[i]'h).toNat : Int) = l.getD i 0 := fun h => by
  have h1 : (strOfNums l).data.toList[i]'(by simpa using h) = (l.map (fun n => UInt8.ofNat n.toNat))[i]'(by simpa using hi) := by simp [strOfNums_data]
  have h2 : (strOfNums l)[i]'h = UInt8.ofNat l[i].toNat := by simp at h1; exact h1
  rw [h2]
  have hx := hb l[i] (List.getElem_mem hi)
  simp only [List.getD_eq_getElem?_getD, List.getElem?_eq_getElem hi, UInt8.toNat_ofNat', Option.getD_some]
  omega
theorem ver1_calls {w : World} {x : Int} {r : List Int} (hb : Byt (x :: r)) (hl : r.length ≤ 1099511627776) (h0 : x ≠ 18) :
    Calls Tryz.prog 63 #[.agg #[.string (strOfNums (x :: r))]] w fun e w' => e = .returned (.int .u64 1) ∧ Kp no w w' := by
  have hs := strOfNums_size (x :: r)
  simp only [List.length_cons] at hs
  have hg : ∀ h : 0 < (strOfNums (x :: r)).size, (((strOfNums (x :: r))[0]'h).toNat : Int) = x := fun h => by have := strOfNums_get 0 (by simp) hb h; simpa using this
  have hx : (x == 18) = false := beq_eq_false_iff_ne.2 h0
  generalize strOfNums (x :: r) = S at *
  clear hb
  go_enter Tryz.func63, Tryz.ntmps63
  by_cases h34 : r.length = 33
  · have hs2 : S.size = 34 := by omega
    have hs3 : (S.size : Int) = 34 := by omega
    clear hs
    go_wp2
    go_ret
    exact ⟨rfl, (Kp.refl _ _).alloc _⟩
  · have hs2 : ((S.size : Int) == 34) = false := by simp; omega
    have hs3 : ¬ (S.size : Int) = 34 := by omega
    clear hs
    go_wp2
    go_ret
    exact ⟨rfl, (Kp.refl _ _).alloc _⟩
theorem ver0_calls {w : World} {p : List Int} (hb : Byt (18 :: 32 :: p)) (hl : p.length = 32) :
    Calls Tryz.prog 63 #[.agg #[.string (strOfNums (18 :: 32 :: p))]] w fun e w' => e = .returned (.int .u64 0) ∧ Kp no w w' := by
  have hs := strOfNums_size (18 :: 32 :: p)
  simp only [List.length_cons, hl] at hs
  have hg : ∀ h : 0 < (strOfNums (18 :: 32 :: p)).size, (((strOfNums (18 :: 32 :: p))[0]'h).toNat : Int) = 18 := fun h => by have := strOfNums_get 0 (by simp) hb h; simpa using this
  have hg1 : ∀ h : 1 < (strOfNums (18 :: 32 :: p)).size, (((strOfNums (18 :: 32 :: p))[1]'h).toNat : Int) = 32 := fun h => by have := strOfNums_get 1 (by simp) hb h; simpa using this
  generalize strOfNums (18 :: 32 :: p) = S at *
  have hs2 : S.size = 34 := by omega
  clear hb hs
  go_enter Tryz.func63, Tryz.ntmps63
  go_wp2
  go_ret
  exact ⟨rfl, (Kp.refl _ _).alloc _⟩
theorem or0_u64 (x : Int) (h0 : 0 ≤ x) (h1 : x < 128) : bits .or .u64 0 x = x := by
  have := u64_join 0 1 (by decide) 0 x (by omega) (by omega) (by omega) (by omega) (by omega)
  simpa using this
/-- A small number at the head of a text. -/
theorem cuv_small {w : World} {x : Int} {r : List Int} (hb : Byt (x :: r)) (hl : r.length ≤ 1099511627776) (h1 : x < 128) :
    Calls Tryz.prog 64 #[.string (strOfNums (x :: r))] w fun e w' => e = .returned (.tuple #[.int .u64 x, .int .i64 1, Value.nilIface]) ∧ Kp no w w' := by
  have hs := strOfNums_size (x :: r)
  simp only [List.length_cons] at hs
  have h0 := (hb x (by simp)).1
  have hg : ∀ h : 0 < (strOfNums (x :: r)).size, (((strOfNums (x :: r))[0]'h).toNat : Int) = x := fun h => by have := strOfNums_get 0 (by simp) hb h; simpa using this
  generalize strOfNums (x :: r) = S at *
  clear hb
  have hs1 : 0 < S.size := by omega
  have hs2 : (0 : Int) < (S.size : Int) := by omega
  have ho : bits .or .u64 0 x = x := or0_u64 x h0 (by omega)
  go_enter Tryz.func64, Tryz.ntmps64
  go_wp2
  go_loop [5, 6, 7, 8] (fun a b i y => a = .int .u64 0 ∧ b = .int .u64 0 ∧ i = .int .i64 0) (fun _ _ _ _ => 0)
  case atStart => exact ⟨rfl, rfl, rfl⟩
  case round =>
    obtain ⟨rfl, rfl, rfl⟩ := hrel
    go_wp2
    all_goals
      go_ret3
      exact ⟨rfl, Kp.refl _ _⟩
theorem str_tail {x : Int} {r : List Int} : (strOfNums (x :: r)).extract 1 (strOfNums (x :: r)).size = strOfNums r := by
  have h : (strOfNums (x :: r)).data.toList = UInt8.ofNat x.toNat :: (strOfNums r).data.toList := by rw [strOfNums_data, strOfNums_data]; rfl
  apply ByteArray.ext
  apply Array.toList_inj.1
  rw [ByteArray.data_extract, Array.toList_extract, h]
  have hs : (strOfNums (x :: r)).size = r.length + 1 := by rw [strOfNums_size]; rfl
  have hl : (strOfNums r).data.toList.length = r.length := by rw [strOfNums_data]; simp
  rw [hs]
  simp [List.extract]
  exact List.take_of_length_le (by omega)
theorem type1_calls {w : World} {y : Int} {p : List Int} (hb : Byt (1 :: y :: p)) (hl : p.length ≤ 1000000) (h1 : y < 128) :
    Calls Tryz.prog 42 #[.agg #[.string (strOfNums (1 :: y :: p))]] w fun e w' => e = .returned (.int .u64 y) ∧ Kp no w w' := by
  have ka : Kp no w (w.alloc (.cells #[.string (strOfNums (1 :: y :: p))] 60)) := (Kp.refl _ _).alloc _
  have B0 := Blk.new w #[.string (strOfNums (1 :: y :: p))] 60
  have hbt : Byt (y :: p) := fun z hz => hb z (List.mem_cons_of_mem _ hz)
  have D1 := fun W => Lib.hid (ver1_calls (w := W) hb (by simp; omega) (by omega))
  have D2 := fun W => Lib.hid (cuv_small (w := W) hb (by simp; omega) (by omega))
  have D3 := fun W => Lib.hid (cuv_small (w := W) hbt (by omega) h1)
  have ht := str_tail (x := 1) (r := y :: p)
  have hs := strOfNums_size (1 :: y :: p)
  simp only [List.length_cons] at hs
  generalize strOfNums (1 :: y :: p) = S at *
  rw [← ht] at D3
  have hs1 : (1 : Int) ≤ (S.size : Int) := by omega
  have hs2 : 1 ≤ S.size := by omega
  clear hb hbt ht hs
  go_enter Tryz.func42, Tryz.ntmps42
  go_wp2_with (first
    | (go_at_call 63; refine (D1 _).out.mono ?_; rintro e w1 ⟨rfl, k1⟩; have c1 := (B0.keepN k1).cell 0)
    | (go_at_call 64; refine (D3 w2).out.mono ?_; rintro e w3 ⟨rfl, k3⟩)
    | (go_at_call 64; refine (D2 w1).out.mono ?_; rintro e w2 ⟨rfl, k2⟩; clear D2; have c2 := (B0.keepN (k1.then k2)).cell 0))
  go_ret
  exact ⟨rfl, ((ka.then k1).then k2).then k3⟩
theorem type0_calls {w : World} {p : List Int} (hb : Byt (18 :: 32 :: p)) (hl : p.length = 32) :
    Calls Tryz.prog 42 #[.agg #[.string (strOfNums (18 :: 32 :: p))]] w fun e w' => e = .returned (.int .u64 112) ∧ Kp no w w' := by
  have ka : Kp no w (w.alloc (.cells #[.string (strOfNums (18 :: 32 :: p))] 60)) := (Kp.refl _ _).alloc _
  have D1 := fun W => Lib.hid (ver0_calls (w := W) hb hl)
  generalize strOfNums (18 :: 32 :: p) = S at *
  clear hb
  go_enter Tryz.func42, Tryz.ntmps42
  go_wp2_with (first
    | (go_at_call 63; refine (D1 _).out.mono ?_; rintro e w1 ⟨rfl, k1⟩))
  go_ret
  exact ⟨rfl, ka.then k1⟩
theorem errNew_calls {w : World} (s : ByteArray) : Calls Tryz.prog 29 #[.string s] w fun e w' => ∃ t x, e = .returned (.iface t x) ∧ Kp no w w' := by
  go_enter Tryz.func29, Tryz.ntmps29
  go_wp2
  go_ret
  exact ⟨_, _, rfl, (Kp.refl _ _).alloc _⟩
/-- A CID of another codec than that of keys is of no ID. -/
theorem fromCid_other {w : World} {S : ByteArray} {y : Int} (hy : y ≠ 114) (D : ∀ W, Calls Tryz.prog 42 #[.agg #[.string S]] W fun e w' => e = .returned (.int .u64 y) ∧ Kp no W w') :
    Calls Tryz.prog 31 #[.agg #[.string S]] w fun e w' => ∃ t x, e = .returned (.tuple #[.string ⟨#[]⟩, .iface t x]) ∧ Kp no w w' := by
  have ka : Kp no w (w.alloc (.cells #[.string S] 60)) := (Kp.refl _ _).alloc _
  have D1 := fun W => Lib.hid (D W)
  have hyb : (y == 114) = false := beq_eq_false_iff_ne.2 hy
  have hyb2 : (y != 114) = true := by simp [hy]
  clear D
  go_enter Tryz.func31, Tryz.ntmps31
  go_wp2_with (first
    | (go_at_call 42; refine (D1 _).out.mono ?_; rintro e w1 ⟨rfl, k1⟩)
    | (go_at_call 29; refine (errNew_calls _).mono ?_; rintro e w2 ⟨t, x, rfl, k2⟩))
  go_ret2
  exact ⟨_, _, rfl, (ka.then k1).then k2⟩
end Go.Proofs.YtjbaobnhfalceaaGreatDoor
