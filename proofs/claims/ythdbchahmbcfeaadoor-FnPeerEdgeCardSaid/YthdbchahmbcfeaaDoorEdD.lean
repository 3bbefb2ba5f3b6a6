/- The hasher that lays its bytes down: bytes.Buffer's Len, tryGrowByReslice, grow and Write at a buffer that is new; its Sum and Size. -/
import Derived.Test.YthdbchahmbcfeaaDoorEdC
import Derived.Laws.MakeOwn
namespace Go.Proofs.YthdbchahmbcfeaaDoor
open Go Go.RowKit
set_option linter.unusedVariables false
set_option linter.unusedSimpArgs false
set_option maxRecDepth 100000

theorem bufLen_calls {w : World} {g n c : Nat} {ao : Option Addr} {x : Value} {T : TypeId} (hb : Blk w g #[.slice ao n c, .int .i64 0, x] T) (hn : n ≤ 1000) :
    Calls Tryd.prog 85 #[.pointer (some ⟨g, 0, none⟩)] w fun e w' => e = .returned (.int .i64 (n : Int)) ∧ ∃ m, w' = w.drewN m := by
  have c0 : w.cell? ⟨g, 0, none⟩ = some (.slice ao n c) := hb.cell 0
  have c1 : w.cell? ⟨g, 1, none⟩ = some (.int .i64 0) := hb.cell 1
  have hw : IntKind.i64.wrap ((n : Int) - 0) = (n : Int) := by rw [IntKind.wrap_i64]; omega
  clear hb
  go_enter Tryd.func85, Tryd.ntmps85
  go_wp2
  go_quiet (fail)
  go_wp2
  go_ret
  exact ⟨by simp, nq, rfl⟩
theorem bufTry_calls {w : World} {g n : Nat} {x y : Value} {T : TypeId} (hb : Blk w g #[.slice none 0 0, x, y] T) (hn : 1 ≤ n) (hn2 : n ≤ 1000) :
    Calls Tryd.prog 87 #[.pointer (some ⟨g, 0, none⟩), .int .i64 (n : Int)] w fun e w' => e = .returned (.tuple #[.int .i64 0, .bool false]) ∧ w = w' := by
  have c0 : w.cell? ⟨g, 0, none⟩ = some (.slice none 0 0) := hb.cell 0
  have h0 : ¬ (n : Int) ≤ 0 := by omega
  clear hb
  go_enter Tryd.func87, Tryd.ntmps87
  go_wp2
  go_ret2
  exact ⟨rfl, rfl⟩
/-- A buffer with n of 64 bytes. -/
def GrewP (w : World) (g n : Nat) (w' : World) : Prop := ∃ gb, w.heap.size ≤ gb ∧ Blk w' g #[.slice (some ⟨gb, 0, none⟩) n 64, .int .i64 0, .int .i8 0] 89 ∧ Nw .u8 w' gb 5 (List.replicate 64 0) ∧ Kp (· = g) w w'
set_option maxHeartbeats 4000000 in
theorem bufGrow_calls {w : World} {g n : Nat} (hb : IdH w g) (hn : 1 ≤ n) (hn2 : n ≤ 64) :
    Calls Tryd.prog 88 #[.pointer (some ⟨g, 0, none⟩), .int .i64 (n : Int)] w fun e w' => e = .returned (.int .i64 0) ∧ GrewP w g n w' := by
  obtain ⟨i8, hi8, hz8⟩ := Option.map_eq_some_iff.1 Tryd.info_byte
  simp only [Prod.mk.injEq] at hz8
  obtain ⟨hz0, hz1, hz2⟩ := hz8
  have hmk : ∀ W : World, (Instr.makeSlice 22 (.int .i64 (n : Int)) (.int .i64 64)).run Tryd.prog W = .ok (.slice (some ⟨W.heap.size, 0, none⟩) n 64) (W.alloc (.cells (nums .u8 (List.replicate 64 0)).toArray 5)) := fun W => by
    have h := run_makeSlice (P := Tryd.prog) W 22 5 i8 (.int .u8 0) Tryd.und_bytes hi8 hz0 .i64 .i64 (n : Int) 64 (by omega) (by omega) (by rw [hz1]; decide) (by rw [hz2]; decide) (by decide)
    rw [hz1] at h
    have e : madeCells (Value.int .u8 0).cells ((64 : Int).toNat * 1) = (nums .u8 (List.replicate 64 0)).toArray := by kernel_rfl
    rw [e] at h
    simpa using h
  have hnil := fun W : World => Lib.run_eql_slice_nil (P := Tryd.prog) W 22 5 none 0 0 0 0 Tryd.und_bytes
  have HB := Lib.hid hb
  have D1 := Lib.hid (bufLen_calls (n := 0) hb (by omega))
  have hlt := hb.lt
  have h64 : (n : Int) ≤ 64 := by omega
  clear hi8 hz0 hz1 hz2 hb
  go_enter Tryd.func88, Tryd.ntmps88
  go_wp2_with (fail)
  refine D1.out.mono ?_
  rintro e w1 ⟨rfl, m1, rfl⟩
  have hb1 : IdH (w.drewN m1) g := HB.out.keepN (Kp.byDraws _ _)
  have k1 : Kp no w (w.drewN m1) := Kp.byDraws _ _
  have hlt1 : g < (w.drewN m1).heap.size := hb1.lt
  have hsz : (w.drewN m1).heap.size = w.heap.size := rfl
  have HSZ := Lib.hid hsz
  generalize w.drewN m1 = w1 at *
  clear hsz
  have c0 : w1.cell? ⟨g, 0, none⟩ = some (.slice none 0 0) := Blk.cell hb1 0
  have c1 : w1.cell? ⟨g, 1, none⟩ = some (.int .i64 0) := Blk.cell hb1 1
  have D2 := Lib.hid (bufTry_calls hb1 hn (by omega))
  have hb2 := Blk.set hb1 0 (.slice (some ⟨w1.heap.size, 0, none⟩) n 64)
  have ks : Kp (· = g) w1 (w1.setCell ⟨g, 0, none⟩ (.slice (some ⟨w1.heap.size, 0, none⟩) n 64)) := (Kp.refl (fun k => k = g) w1).setCell (p := ⟨g, 0, none⟩) (fun _ => rfl) _
  have hs1 : (w1.setCell ⟨g, 0, none⟩ (.slice (some ⟨w1.heap.size, 0, none⟩) n 64)).heap.size = w1.heap.size := by simp [World.setCell]
  have hN := Blk.new (w1.setCell ⟨g, 0, none⟩ (.slice (some ⟨w1.heap.size, 0, none⟩) n 64)) (nums .u8 (List.replicate 64 0)).toArray 5
  rw [hs1] at hN
  have f0 : w1.frozen? ⟨g, 0, none⟩ = false := Blk.free hb1 0
  have HF := Lib.hid (show GrewP w g n ((w1.setCell ⟨g, 0, none⟩ (.slice (some ⟨w1.heap.size, 0, none⟩) n 64)).alloc (.cells (nums .u8 (List.replicate 64 0)).toArray 5)) from
    ⟨w1.heap.size, by rw [HSZ.out]; exact Nat.le_refl _, hb2.alloc _, hN, ((k1.mono (fun _ _ h => h.elim)).trans ks (fun _ _ h => h)).alloc _⟩)
  generalize (nums .u8 (List.replicate 64 0)).toArray = M at *
  clear hb1 hb2 D1 k1 ks hs1 hN
  go_wp2_with (first | (go_at_call 87; refine D2.out.mono ?_; rintro e w2 ⟨rfl, rfl⟩))
  go_ret
  exact ⟨rfl, HF.out⟩
set_option maxHeartbeats 4000000 in
theorem bufWrite_calls {w : World} {g n c : Nat} {A : Option Addr} {l : List Int} (hb : IdH w g) (hR : Rd w A n c l) (hO : Out (· = g) A) (hn : 1 ≤ n) (hn2 : n ≤ 64) :
    Calls Tryd.prog 84 #[.pointer (some ⟨g, 0, none⟩), .slice A n c] w fun e w' => e = .returned (.tuple #[.int .i64 (n : Int), .nilIface]) ∧ IdF w' g n ∧ Kp (· = g) w w' := by
  have c2 : w.cell? ⟨g, 2, none⟩ = some (.int .i8 0) := Blk.cell hb 2
  have f2 : w.frozen? ⟨g, 2, none⟩ = false := Blk.free hb 2
  have hb1 : IdH (w.setCell ⟨g, 2, none⟩ (.int .i8 0)) g := Blk.set hb 2 (.int .i8 0)
  have k1 : Kp (· = g) w (w.setCell ⟨g, 2, none⟩ (.int .i8 0)) := (Kp.refl (fun k => k = g) w).setCell (p := ⟨g, 2, none⟩) (fun _ => rfl) _
  have D1 := Lib.hid (bufTry_calls hb1 hn (by omega))
  have D2 := Lib.hid (bufGrow_calls hb1 hn hn2)
  have HR := Lib.hid hR
  have HO := Lib.hid hO
  have hlt := Blk.lt hb
  have h64 : (n : Int) ≤ 64 := by omega
  have HSZ := Lib.hid (show (w.setCell ⟨g, 2, none⟩ (.int .i8 0)).heap.size = w.heap.size from by simp [World.setCell])
  clear hb hR hb1 hO
  go_enter Tryd.func84, Tryd.ntmps84
  go_wp2_with (fail)
  generalize w.setCell ⟨g, 2, none⟩ (.int .i8 0) = w1 at *
  refine D1.out.mono ?_
  rintro e w2 ⟨rfl, rfl⟩
  clear c2 f2
  go_wp2_with (fail)
  refine D2.out.mono ?_
  rintro e w2 ⟨rfl, gb, hgb, hb2, hN2, k2⟩
  have hlt1 : g < w1.heap.size := by rw [HSZ.out]; exact hlt
  have K2 := k1.trans k2 (fun _ _ h => h)
  have HR2 := Lib.hid (HR.out.keep K2 HO.out)
  have c0 : w2.cell? ⟨g, 0, none⟩ = some (.slice (some ⟨gb, 0, none⟩) n 64) := hb2.cell 0
  have hcut : ∀ W : World, (Instr.slice 22 (.slice (some ⟨gb, 0, none⟩) n 64) (some (.int .i64 0)) none none).run Tryd.prog W = .ok (.slice (some ⟨gb, 0, none⟩) n 64) W := cutAt (P := Tryd.prog) Tryd.und_bytes info_byte1 gb 0 n 64 0 (by omega) (by omega)
  have HB2 := Lib.hid hb2
  obtain ⟨L2, hL2⟩ : ∃ L, L = List.replicate 64 (0 : Int) := ⟨_, rfl⟩
  rw [← hL2] at hN2
  have HL2 := Lib.hid (show Byt L2 ∧ L2.length = 64 from ⟨fun y hy => by rw [hL2] at hy; have := List.eq_of_mem_replicate hy; omega, by rw [hL2]; simp⟩)
  clear D1 D2 hb2 k1 k2 hL2
  go_wp2_with (first
    | (refine copy_some rfl (.tmp 29) (.tmp 30) 22 22 rfl 5 Tryd.und_bytes info_byte1 gb 0 n 64 rfl A n c rfl l HR2.out hn L2 5 hN2 HL2.out.1 (by rw [HL2.out.2]; omega) n (by omega) ?_; intro w7 L7 N7 b7 hl7 k7))
  have HF := Lib.hid (show IdF w7 g n ∧ Kp (· = g) w w7 from ⟨⟨gb, 64, L7, HB2.out.keep k7 (by show ¬ g = gb; omega), hn2, by omega, by rw [hl7, HL2.out.2], b7, N7⟩, K2.trans k7 (fun i hi h => by have h : i = gb := h; have := HSZ.out; omega)⟩)
  clear N7 b7 k7 hl7
  go_ret2
  exact ⟨rfl, HF.out⟩
theorem bufBytes_calls {w : World} {g n : Nat} (h1 : 1 ≤ n) (hb : IdF w g n) :
    Calls Tryd.prog 86 #[.pointer (some ⟨g, 0, none⟩)] w fun e w' => (∃ A c l, e = .returned (.slice A n c) ∧ Rd w' A n c l) ∧ Kp no w w' := by
  obtain ⟨gb, c, L, hb, hn, hc, hl, hby, hN⟩ := hb
  have c0 : w.cell? ⟨g, 0, none⟩ = some (.slice (some ⟨gb, 0, none⟩) n c) := hb.cell 0
  have c1 : w.cell? ⟨g, 1, none⟩ = some (.int .i64 0) := hb.cell 1
  have hcut : ∀ W : World, (Instr.slice 22 (.slice (some ⟨gb, 0, none⟩) n c) (some (.int .i64 0)) none none).run Tryd.prog W = .ok (.slice (some ⟨gb, 0, none⟩) n c) W := cutAt (P := Tryd.prog) Tryd.und_bytes info_byte1 gb 0 n c 0 (by omega) (by omega)
  have HF := Lib.hid (fun m : Nat => (show (∃ A c' l, Ending.returned (.slice (some ⟨gb, 0, none⟩) n c) = .returned (.slice A n c') ∧ Rd (w.drewN m) A n c' l) ∧ Kp no w (w.drewN m) from
    ⟨⟨_, _, L.take n, rfl, ((hN.rd hl hby (by omega)).take n (by omega)).keepN (Kp.byDraws _ _)⟩, Kp.byDraws _ _⟩))
  clear hb hN hby hl
  go_enter Tryd.func86, Tryd.ntmps86
  go_wp2
  go_quiet (fail)
  go_wp2
  go_ret
  exact HF.out nq
def HSumP (w : World) (n : Nat) (e : Ending) (w' : World) : Prop := (∃ A c l, e = .returned (.slice A n c) ∧ Rd w' A n c l) ∧ Kp no w w'
theorem idSum_calls {w : World} {g n : Nat} {v : Value} (h1 : 1 ≤ n) (hb : IdF w g n) :
    Calls Tryd.prog 83 #[.pointer (some ⟨g, 0, none⟩), v] w (HSumP w n) := by
  have D := Lib.hid (bufBytes_calls h1 hb)
  clear hb
  go_enter Tryd.func83, Tryd.ntmps83
  go_wp2_with (fail)
  refine D.out.mono ?_
  rintro e w1 ⟨⟨A, c, l, rfl, hR⟩, hk⟩
  have HF := Lib.hid (show HSumP w n (.returned (.slice A n c)) w1 from ⟨⟨A, c, l, rfl, hR⟩, hk⟩)
  clear hR hk
  go_wp2
  go_ret
  exact HF.out
theorem idSize_calls {w : World} {g n : Nat} (hb : IdF w g n) :
    Calls Tryd.prog 81 #[.pointer (some ⟨g, 0, none⟩)] w fun e w' => e = .returned (.int .i64 (n : Int)) ∧ Kp no w w' := by
  obtain ⟨gb, c, L, hb, hn, hc, hl, hby, hN⟩ := hb
  have D := Lib.hid (bufLen_calls hb (by omega))
  clear hb hN hl
  go_enter Tryd.func81, Tryd.ntmps81
  go_wp2_with (first | (go_at_call 85; refine D.out.mono ?_; rintro e w1 ⟨rfl, m, rfl⟩))
  go_ret
  exact ⟨rfl, Kp.byDraws _ _⟩
theorem dsize_calls {w : World} {g : Nat} {s : DS} (hD : Dg w g s) :
    Calls Tryd.prog 95 #[.pointer (some ⟨g, 0, none⟩)] w fun e w' => e = .returned (.int .i64 32) ∧ w = w' := by
  have c := hD.is
  clear hD
  go_enter Tryd.func95, Tryd.ntmps95
  go_wp2
  go_ret
  exact ⟨rfl, rfl⟩
set_option maxHeartbeats 8000000 in
/-- Sum of a digest onto nothing. -/
theorem dsumNil_calls {w : World} {g : Nat} {K : List Int} {s : DS} (hD : Dg w g s) (hK : Keys w K) (hn : s.len ≤ 60000) (hx : s.nx = s.len % 64) :
    Calls Tryd.prog 96 #[.pointer (some ⟨g, 0, none⟩), .slice none 0 0] w (HSumP w 32) := by
  have HD := Lib.hid hD
  have B0 := Blk.new w Tryd.zeroCells124 124
  have C1 := Lib.hid (fun (w1 : World) (b : Blk w1 w.heap.size (dgC s).toArray 124) (k : Kp no w w1) => dcheck_calls (s := s) ⟨b, hD.ok⟩ (hK.keepN k) (hK.ne (Nat.le_refl _)) hn hx)
  have HS := Lib.hid (show (sumF K s).length = 32 ∧ Byt (sumF K s) from ⟨outF_length _, outF_byt _⟩)
  have k0 : Kp no w (w.alloc (.cells Tryd.zeroCells124 124)) := (Kp.refl _ _).alloc _
  clear hD hK hx
  generalize sumF K s = S at *
  go_enter Tryd.func96, Tryd.ntmps96
  go_wp2_with (first
    | (go_at_call 98; refine approved_calls.mono ?_; rintro e wz ⟨rfl, hz⟩; obtain rfl := hz.symm)
    | (refine wpList_load_mid rfl 124 (.tmp 9) rfl g 0 rfl (dgC s) _ (Blk.range HD.out.blk) Tryd.underlying124 rfl (by rw [dgC_len HD.out.ok]; exact infoDig) ?_)
    | (refine wpList_store_row rfl 124 (.tmp 5) (.tmp 10) rfl w.heap.size (dgC s) rfl rfl B0 (by rw [dgC_len HD.out.ok]; exact zeroDig_size) (by rw [dgC_len HD.out.ok]; exact infoDig) (dgC_one s) ?_; intro w1 B1 k1 hsz1; have K1 : Kp no w w1 := k0.trans k1 (fun i hi h => by have h : i = w.heap.size := h; omega); clear hsz1 k1 B0 k0)
    | (go_at_call 99; refine (C1.out w1 B1 K1).mono ?_; rintro e w2 ⟨rfl, ⟨s2, D2⟩, k2⟩; have K2 : Kp no w w2 := K1.trans k2 (fun i hi h => by have h : i = w.heap.size := h; omega); have c74 := D2.is; have BN := Blk.new w2 (nums .u8 (List.replicate 32 0)).toArray 163; have hd2 := D2.lt; have K3 := K2.alloc (.cells (nums .u8 (List.replicate 32 0)).toArray 163); have HD2 := Lib.hid (D2.keepN ((Kp.refl _ _).alloc (.cells (nums .u8 (List.replicate 32 0)).toArray 163))); clear D2 k2 c74)
    | (refine wpList_store_row rfl 163 (.tmp 6) (.tmp 11) rfl w2.heap.size (nums .u8 S) rfl rfl BN (by simp [nums]; have := HS.out.1; omega) (by rw [nums_length, HS.out.1]; exact infoB32) (nums_one _ _) ?_; intro w4 B4 k4 hsz4; have D4 := HD2.out.keep k4 (by show ¬ w.heap.size = w2.heap.size; omega); have c74 := D4.is; have K4 : Kp no w w4 := K3.trans k4 (fun i hi h => by have h : i = w2.heap.size := h; have := K2.size; omega); have HR4 := Lib.hid (Nw.rd (show Nw .u8 w4 w2.heap.size 163 S from B4) HS.out.1 HS.out.2 (by omega)); clear D4 hsz4 k4 BN)
    | (at_builtin; refine own_append w.heap.size rfl (.tmp 17) (.tmp 18) 22 5 rfl Tryd.und_bytes Tryd.info_byte (.slice none 0 0) [] S (some ⟨w2.heap.size, 0, none⟩) 32 32 rfl rfl (Own.nil w4 5 w.heap.size) HR4.out K4.size (by simp) ?_; intro v5 w5 O5 k5 _ _; have K5 := K4.own (Own.nil w4 5 w.heap.size) (Nat.le_refl _) k5))
  go_ret
  obtain ⟨A, c, rfl, hr, _, _⟩ := O5.rd
  have hl : ([] ++ S).length = 32 := by simpa using HS.out.1
  rw [hl] at hr ⊢
  exact ⟨⟨A, c, _, rfl, hr⟩, K5⟩
end Go.Proofs.YthdbchahmbcfeaaDoor
