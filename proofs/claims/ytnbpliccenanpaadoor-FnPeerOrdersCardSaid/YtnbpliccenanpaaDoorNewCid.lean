/- cid.NewCidV1, peer.ToCid, impl.PeerCid. -/
import Derived.Test.YtnbpliccenanpaaDoorBld
import Derived.Test.YtnbpliccenanpaaDoorMhC
import Derived.Test.YtnbpliccenanpaaDoorCid
namespace Go.Proofs.YtnbpliccenanpaaDoor
open Go Go.RowKit
set_option linter.unusedVariables false
set_option linter.unusedSimpArgs false
set_option maxRecDepth 100000

theorem len64_114 (w : World) : Calls Tryd.prog 76 #[.int .u64 114] w fun e w' => e = .returned (.int .i64 7) ∧ w' = w := by
  go_enter Tryd.func76, Tryd.ntmps76
  go_wp2
  go_ret
  exact ⟨by kernel_rfl, rfl⟩
theorem size114 (w : World) : Calls Tryd.prog 94 #[.int .u64 114] w fun e w' => e = .returned (.int .i64 1) ∧ w' = w := by
  have D := Lib.hid (len64_114 w)
  go_enter Tryd.func94, Tryd.ntmps94
  go_wp2_with (first | (go_at_call 76; refine D.out.mono ?_; rintro e w9 ⟨rfl, rfl⟩))
  go_ret
  exact ⟨rfl, rfl⟩
/-- 114 is written as a varint. -/
theorem put114 {w : World} {g : Nat} {cs : Array Value} {t : TypeId} (h : Blk w g cs t) (hs : 0 < cs.size) (n c : Nat) (hn : 1 ≤ n) :
    Calls Tryd.prog 96 #[.slice (some ⟨g, 0, none⟩) n c, .int .u64 114] w fun e w' => e = .returned (.int .i64 1) ∧ Blk w' g (cs.setIfInBounds 0 (.int .u8 114)) t ∧ Kp (· = g) w w' := by
  have hu : Lib.uvarint 114 = [114] := by decide +kernel
  have hp := Tryd.binary_PutUvarint g 0 n c 114 (by omega) w (by rw [hu]; exact hn) (fun j hj => by
    rw [hu] at hj
    obtain rfl : j = 0 := by simp at hj; omega
    exact ⟨by rw [h.cell 0, Array.getElem?_eq_getElem hs]; rfl, h.free 0⟩)
  rw [hu] at hp
  have hh := h.set 0 (.int .u8 114)
  have kk : Kp (· = g) w (w.setCell ⟨g, 0, none⟩ (.int .u8 114)) := (Kp.refl (fun k => k = g) w).setCell (p := ⟨g, 0, none⟩) (fun _ => rfl) _
  have D := Lib.hid (show Calls Tryd.prog 119 #[.slice (some ⟨g, 0, none⟩) n c, .int .u64 114] w fun e w' => e = .returned (.int .i64 1) ∧ w' = w.setCell ⟨g, 0, none⟩ (.int .u8 114) from hp.mono fun e w' ⟨h1, h2⟩ => ⟨h1, h2⟩)
  clear hp
  go_enter Tryd.func96, Tryd.ntmps96
  go_wp2_with (first | (go_at_call 119; refine D.out.mono ?_; rintro e w9 ⟨rfl, rfl⟩))
  go_ret
  exact ⟨rfl, hh, kk⟩

theorem results_cellrow {P : Program} {fn : Func} {p : Tmp} {ty : TypeId} (h : fn.results = #[.cell p ty]) (tmps : Array Value) (w : World) (g : Nat) (t : TypeId) (cs : Array Value) (d : TypeDesc)
    (hp : tmps.getD p undef = .pointer (some ⟨g, 0, none⟩)) (hg : Blk w g cs t)
    (hu : P.underlying ty = some d) (hd : (match d with | .struct _ | .array _ _ => true | _ => false) = true) (hi : (P.info? ty).map (·.size) = some cs.size) :
    (results fn tmps).run P w = .ok (.agg cs) w := results_cell_row h tmps w g t cs (0, 0) d hp hg hu hd hi
set_option maxHeartbeats 2000000 in
/-- The CID of an ID's bytes. -/
theorem NewCid_calls {w : World} {A : Option Addr} {n c : Nat} {l : List Int} (h : Rd w A n c l) (hn : n ≤ 1000000) :
    Calls Tryd.prog 61 #[.int .u64 114, .slice A n c] w fun e w' => e = .returned (.agg #[.string (strOfNums (1 :: 114 :: l))]) ∧ Kp no w w' := by
  obtain rfl := h.len
  have hcap := h.cap
  have hmax := h.max
  have D1 := fun W => Lib.hid (size114 W)
  have HR := Lib.hid h
  have hbt := h.byt
  have HBT := Lib.hid hbt
  obtain ⟨W2, hW2⟩ : ∃ W2, W2 = (w.alloc (.cells #[.string ⟨#[]⟩] 62)).alloc (.cells #[.pointer none, .slice none 0 0] 146) := ⟨_, rfl⟩
  have hs2 : W2.heap.size = w.heap.size + 2 := by rw [hW2]; simp
  have HS2 := Lib.hid hs2
  have hk2 : Kp no w W2 := by rw [hW2]; exact ((Kp.refl _ _).alloc _).alloc _
  have hR2 : Blk W2 w.heap.size #[.string ⟨#[]⟩] 62 := by rw [hW2]; exact (Blk.new w _ _).alloc _
  have hb2 : Blk W2 (w.heap.size + 1) #[.pointer none, .slice none 0 0] 146 := by
    rw [hW2]
    have := Blk.new (w.alloc (.cells #[.string ⟨#[]⟩] 62)) #[.pointer none, .slice none 0 0] 146
    simpa using this
  have DG := Lib.hid (show Calls Tryd.prog 93 #[.pointer (some ⟨w.heap.size + 1, 0, none⟩), .int .i64 (2 + (l.length : Int))] W2 fun e w' => e = .returned (.tuple #[]) ∧ BA w' (w.heap.size + 1) (w.heap.size + 1) [] ∧ Kp (Fro (w.heap.size + 1)) W2 w' from by
    have hg := Tryd.Builder_Grow_fresh (w.heap.size + 1) (w.heap.size + 1) (2 + l.length) W2 (Nat.le_refl _) hb2 (by omega) (by omega)
    rw [show ((2 + l.length : Nat) : Int) = 2 + (l.length : Int) from by omega] at hg
    exact hg.mono fun e w' ⟨h1, h2, h3⟩ => ⟨h1, BA.of (by simpa [nums] using h2) Byt.nil, Kp.fro h3⟩)
  have HW2 := Lib.hid hW2
  have HK2 := Lib.hid hk2
  have HR2 := Lib.hid hR2
  clear h hbt hs2 hk2 hR2 hb2 hW2
  go_enter Tryd.func61, Tryd.ntmps61
  go_upto_region 3 with (fail)
  rw [← HW2.out]
  go_wp2_with (first
    | (go_at_call 94; refine (D1 W2).out.mono ?_; rintro e W2 ⟨rfl, rfl⟩)
    | (go_at_call 93; refine DG.out.mono ?_; rintro e w3 ⟨rfl, A3, k3⟩))
  have hs2 := HS2.out
  have hs3 := k3.size
  have D4 := Lib.hid (BWriteByte_calls A3 (x := 1) (by omega) (by omega) (by simp))
  refine D4.out.mono ?_
  rintro e w4 ⟨rfl, A4, k4⟩
  have hs4 := k4.size
  obtain ⟨W5, hW5⟩ : ∃ W5, W5 = w4.alloc (.cells #[.int .u8 0, .int .u8 0, .int .u8 0, .int .u8 0, .int .u8 0, .int .u8 0, .int .u8 0, .int .u8 0, .int .u8 0, .int .u8 0] 149) := ⟨_, rfl⟩
  have HW5 := Lib.hid hW5
  have B5 : Blk W5 w4.heap.size #[.int .u8 0, .int .u8 0, .int .u8 0, .int .u8 0, .int .u8 0, .int .u8 0, .int .u8 0, .int .u8 0, .int .u8 0, .int .u8 0] 149 := by rw [hW5]; exact Blk.new _ _ _
  have hk5 : Kp no w4 W5 := by rw [hW5]; exact (Kp.refl _ _).alloc _
  have D6 := Lib.hid (put114 B5 (by simp) 10 10 (by omega))
  clear hW5 D4 DG D1 B5
  go_upto_region 6 with (fail)
  rw [← HW5.out]
  go_wp2_with (fail)
  refine D6.out.mono ?_
  rintro e w6 ⟨rfl, B6, k6⟩
  have k46 : Kp no w4 w6 := hk5.trans k6 (fun i hi h => by have h : i = _ := h; omega)
  have A6 := A4.keepN k46
  have hs6 := k46.size
  have hlt6 := B6.lt
  have R6 : Rd w6 (some ⟨w4.heap.size, 0, none⟩) 1 10 [114] := ⟨rfl, by omega, by omega, fun x hx => by simp at hx; omega, fun _ => ⟨w4.heap.size, 0, rfl, fun j hj => by
    obtain rfl : j = 0 := by omega
    exact B6.cell 0⟩⟩
  have D7 := Lib.hid (BWrite_calls A6 R6 (by omega) (by simp))
  clear D6 B6 R6
  go_wp2_with (fail)
  refine D7.out.mono ?_
  rintro e w7 ⟨rfl, A7, k7⟩
  have hs7 := k7.size
  have KF : Kp (Fro (w.heap.size + 1)) W2 w7 := ((k3.trans k4 (fun _ _ h => h)).then k46).trans k7 (fun _ _ h => h)
  have K7 : Kp no w w7 := HK2.out.trans KF (fun i hi h => by have h : w.heap.size + 1 ≤ i := h; omega)
  have hc7 : (w7.cell? ⟨w.heap.size, 0, none⟩) = some (.string ⟨#[]⟩) := (HR2.out.keep KF (fun h => by have h : w.heap.size + 1 ≤ w.heap.size := h; omega)).cell 0
  have D8 := Lib.hid (BWrite_calls A7 (HR.out.keepN K7) (by omega) (by simp; omega))
  clear D7
  go_wp2_with (fail)
  refine D8.out.mono ?_
  rintro e w8 ⟨rfl, A8, k8⟩
  have hs8 := k8.size
  have KF8 : Kp (Fro (w.heap.size + 1)) W2 w8 := KF.trans k8 (fun _ _ h => h)
  have hbb : Byt (([] ++ [1] ++ [114]) ++ l) := fun x hx => by
    rcases List.mem_append.1 hx with hx | hx
    · simp at hx; omega
    · exact HBT.out x hx
  have DS := Lib.hid (show Calls Tryd.prog 98 #[.pointer (some ⟨w.heap.size + 1, 0, none⟩)] w8 fun e w' => e = .returned (.string (strOfNums (1 :: 114 :: l))) ∧ Kp (Fro (w.heap.size + 1)) w8 w' from by
    have hA := A8.at_
    have hcells : nums .u8 ([] ++ [1] ++ [114] ++ l) = Lib.byteCells (([] ++ [1] ++ [114] ++ l).map (fun n : Int => UInt8.ofNat n.toNat)) := by
      simp only [Lib.byteCells, nums, List.map_map]
      apply List.map_congr_left
      intro x hx
      have := hbb x hx
      simp only [Function.comp, UInt8.toNat_ofNat']
      congr 1
      omega
    rw [hcells] at hA
    have hg := Tryd.Builder_String_any (w.heap.size + 1) (w.heap.size + 1) _ w8 (Or.inr hA) (by omega)
    refine hg.mono fun e w' ⟨h1, h2⟩ => ⟨?_, Kp.fro h2⟩
    rw [h1]
    congr 2)
  clear D8
  go_wp2_with (first | (go_at_call 98; refine DS.out.mono ?_; rintro e w9 ⟨rfl, k9⟩; have KF9 : Kp (Fro (w.heap.size + 1)) W2 w9 := KF8.trans k9 (fun _ _ h => h); have hB9 : Blk w9 w.heap.size #[.string ⟨#[]⟩] 62 := HR2.out.keep KF9 (fun h => by have h : w.heap.size + 1 ≤ w.heap.size := h; omega); have hc9 : w9.cell? ⟨w.heap.size, 0, none⟩ = some (.string ⟨#[]⟩) := hB9.cell 0; have hf9 := hB9.free 0))
  obtain ⟨S, hS⟩ : ∃ S, S = strOfNums (1 :: 114 :: l) := ⟨_, rfl⟩
  rw [← hS]
  (try simp only [Exit.inBlock, Exit.then]); refine bodyPost_ret (results_cellrow rfl _ _ w.heap.size 62 #[.string S] _ rfl (hB9.set 0 (.string S)) Tryd.underlying62 rfl infoC) rfl ?_
  exact ⟨rfl, (HK2.out.trans KF9 (fun i hi h => by have h : w.heap.size + 1 ≤ i := h; omega)).setCell (p := ⟨w.heap.size, 0, none⟩) (fun h => by have h : w.heap.size < w.heap.size := h; omega) _⟩
set_option maxHeartbeats 1000000 in
theorem ToCid_calls {w : World} {l : List Int} (hb : Byt l) (hE : MErrs w) (hn : l.length ≤ 100000) (hm : IsMH l) :
    Calls Tryd.prog 43 #[.string (strOfNums l)] w fun e w' => e = .returned (.agg #[.string (strOfNums (1 :: 114 :: l))]) ∧ Kp no w w' := by
  have B1 := Blk.new w #[.string ⟨#[]⟩] 62
  have k1 : Kp no w (w.alloc (.cells #[.string ⟨#[]⟩] 62)) := (Kp.refl _ _).alloc _
  have hE1 := hE.keepN k1
  obtain ⟨c2, w2, hcv, R2, k2, hs2⟩ := str_bytes (w := w.alloc (.cells #[.string ⟨#[]⟩] 62)) hb (by omega) Tryd.und_ID Tryd.und_bytes
  have hsz1 : (w.alloc (.cells #[.string ⟨#[]⟩] 62)).heap.size = w.heap.size + 1 := by simp
  rw [hsz1] at hcv R2
  clear hsz1
  have D1 := Lib.hid (Cast_yes R2 (hE1.keepN k2) (by omega) hm)
  have D2 := Lib.hid (fun W (k : Kp no w2 W) => NewCid_calls (R2.keepN k) (by omega))
  obtain ⟨S, hS⟩ : ∃ S, S = strOfNums (1 :: 114 :: l) := ⟨_, rfl⟩
  rw [← hS] at D2 ⊢
  have B2 := B1.keepN k2
  have K2 := k1.then k2
  have hl2 := B2.lt
  clear R2 hE1 hs2 hE hS
  generalize strOfNums l = T at *
  go_enter Tryd.func43, Tryd.ntmps43
  go_wp2_with (first
    | (go_at_call 51; refine D1.out.mono ?_; rintro e w3 ⟨rfl, k3⟩; have B3 := B2.keepN k3)
    | (go_at_call 61; refine (D2.out _ k3).mono ?_; rintro e w4 ⟨rfl, k4⟩; have B4 := B3.keepN k4; have hc4 : w4.cell? ⟨w.heap.size, 0, none⟩ = some (.string ⟨#[]⟩) := B4.cell 0; have hf4 := B4.free 0))
  (try simp only [Exit.inBlock, Exit.then]); refine bodyPost_ret (results_cellrow rfl _ _ w.heap.size 62 #[.string S] _ rfl (B4.set 0 (.string S)) Tryd.underlying62 rfl infoC) rfl ?_
  exact ⟨rfl, ((K2.then k3).then k4).setCell (p := ⟨w.heap.size, 0, none⟩) (fun h => by have h : w.heap.size < w.heap.size := h; omega) _⟩
end Go.Proofs.YtnbpliccenanpaaDoor
