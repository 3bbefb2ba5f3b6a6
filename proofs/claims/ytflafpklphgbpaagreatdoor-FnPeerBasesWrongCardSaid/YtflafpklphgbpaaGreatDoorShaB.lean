/- SHA2-256's block: it ends, with some eight words. -/
import Derived.Test.YtflafpklphgbpaaGreatDoorShaA
namespace Go.Proofs.YtflafpklphgbpaaGreatDoor
open Go Go.RowKit
set_option linter.unusedVariables false
set_option linter.unusedSimpArgs false
set_option maxRecDepth 100000

/-- The rows of shaBlock: what comes in, what goes out, the 64 words. -/
def ShaW (w wr : World) : Prop := ∃ H Z L : List Int, H.length = 8 ∧ Z.length = 8 ∧ L.length = 64 ∧ Wd wr w.heap.size 47 H ∧ Wd wr (w.heap.size + 1) 47 Z ∧ Wd wr (w.heap.size + 1 + 1) 64 L ∧ Kp no w wr
theorem ShaW.start (w : World) (X : List Int) (hX : X.length = 8) : ShaW w (((w.alloc (.cells (nums .u32 X).toArray 47)).alloc (.cells (nums .u32 (List.replicate 8 0)).toArray 47)).alloc (.cells (nums .u32 (List.replicate 64 0)).toArray 64)) := by
  refine ⟨X, List.replicate 8 0, List.replicate 64 0, hX, List.length_replicate, List.length_replicate, ((Blk.new w _ _).alloc _).alloc _, ?_, ?_, (((Kp.refl _ _).alloc _).alloc _).alloc _⟩
  · have := (Blk.new (w.alloc (.cells (nums .u32 X).toArray 47)) (nums .u32 (List.replicate 8 0)).toArray 47).alloc (.cells (nums .u32 (List.replicate 64 0)).toArray 64)
    rw [show (w.alloc (.cells (nums .u32 X).toArray 47)).heap.size = w.heap.size + 1 from by simp] at this
    exact this
  · have := Blk.new ((w.alloc (.cells (nums .u32 X).toArray 47)).alloc (.cells (nums .u32 (List.replicate 8 0)).toArray 47)) (nums .u32 (List.replicate 64 0)).toArray 64
    rw [show ((w.alloc (.cells (nums .u32 X).toArray 47)).alloc (.cells (nums .u32 (List.replicate 8 0)).toArray 47)).heap.size = w.heap.size + 1 + 1 from by simp] at this
    exact this

/-- .. with the keys, and the eight words that turn. -/
def ShaV (w : World) (gK gV : Nat) (wr : World) : Prop := ∃ H Z L K V : List Int, (H.length = 8 ∧ Z.length = 8 ∧ L.length = 64 ∧ K.length = 64 ∧ V.length = 8) ∧ Wd wr w.heap.size 47 H ∧ Wd wr (w.heap.size + 1) 47 Z ∧ Wd wr (w.heap.size + 1 + 1) 64 L ∧ Wd wr gK 64 K ∧ Wd wr gV 47 V ∧ Kp no w wr

set_option maxHeartbeats 8000000 in
theorem shaBlock_calls {w : World} {A : Option Addr} {c : Nat} {l : List Int} (h : Rd w A 64 c l) (X : List Int) (hX : X.length = 8) :
    Calls Tryz.prog 20 #[.agg (nums .u32 X).toArray, .slice A 64 c] w fun e w' => (∃ Y : List Int, Y.length = 8 ∧ e = .returned (.agg (nums .u32 Y).toArray)) ∧ Kp no w w' := by
  have hcap := h.cap
  obtain ⟨g, o, rfl, hc⟩ := h.at_ (by omega)
  have HC := Lib.hid hc
  have HB := Lib.hid h.byt
  have HS := Lib.hid (ShaW.start w X hX)
  clear hc h
  go_enter Tryz.func20, Tryz.ntmps20
  go_upto_block 0 with (fail)
  go_cut [] from 18 (fun wx => ShaW w wx)
  case first =>
    go_wp2
    go_loopw [6] (fun iv wr => ∃ i : Nat, iv = .int .i64 i ∧ i ≤ 16 ∧ ShaW w wr) (fun iv _ => 16 - (intOf iv).toNat)
    case atStart => exact ⟨0, rfl, by omega, HS.out⟩
    case round =>
      obtain ⟨i, rfl, hi, H, Z, L, hH, hZ, hL, BH, BZ, BL, k⟩ := hrel
      have HHL := Lib.hid (And.intro hH (And.intro hZ hL))
      clear hH hZ hL
      by_cases hlt : i < 16
      · have c0 := k.cellN (HC.out (4 * i) (by omega))
        have c1 := k.cellN (HC.out (4 * i + 1) (by omega))
        have c2 := k.cellN (HC.out (4 * i + 2) (by omega))
        have c3 := k.cellN (HC.out (4 * i + 3) (by omega))
        have b0 := HB.out.getD (4 * i)
        have b1 := HB.out.getD (4 * i + 1)
        have b2 := HB.out.getD (4 * i + 2)
        have b3 := HB.out.getD (4 * i + 3)
        generalize l.getD (4 * i) 0 = y0 at *
        generalize l.getD (4 * i + 1) 0 = y1 at *
        generalize l.getD (4 * i + 2) 0 = y2 at *
        generalize l.getD (4 * i + 3) 0 = y3 at *
        have cw := BL.cell i (by have := HHL.out; omega)
        have fw := BL.free i
        generalize L.getD i 0 = z at *
        go_wp2
        refine wp_region_quiet_tail 35 (by kernel_rfl) (by kernel_rfl) ?_
        simp only [List.take_succ_cons, List.take_zero, List.drop_succ_cons, List.drop_zero]
        repeat (go_big_quiet_step (fail))
        refine wpQuiet_nil ?_
        rintro _ ⟨nq, rfl⟩
        go_wp2
        go_roundw
        case rel =>
          exact ⟨i + 1, by go_num, by omega, H, Z, L.set i _, HHL.out.1, HHL.out.2.1, by rw [List.length_set]; exact HHL.out.2.2, (BH.keepN (Kp.byDraws _ _)).far (show w.heap.size ≠ w.heap.size + 1 + 1 from by omega) _, (BZ.keepN (Kp.byDraws _ _)).far (show w.heap.size + 1 ≠ w.heap.size + 1 + 1 from by omega) _, (BL.keepN (Kp.byDraws _ _)).set i _, (k.then (Kp.byDraws _ _)).setCell (p := ⟨w.heap.size + 1 + 1, i, none⟩) (fun hh => by have hh : w.heap.size + 1 + 1 < w.heap.size := hh; omega) _⟩
        case measure => first | (simp [intOf]; done) | (simp [intOf]; omega)
      · obtain rfl : i = 16 := by omega
        go_wp2
        go_meet
        case rel => exact ⟨H, Z, L, HHL.out.1, HHL.out.2.1, HHL.out.2.2, BH, BZ, BL, k⟩
  case rest =>
    have hw1 := hcut
    clear hcut
    go_upto_block 2 with (fail)
    go_cut [] from 57 (fun wx => ShaW w wx)
    case first =>
      go_wp2
      go_loopw [7] (fun iv wr => ∃ i : Nat, iv = .int .i64 (i + 16) ∧ i ≤ 48 ∧ ShaW w wr) (fun iv _ => 64 - (intOf iv).toNat)
      case atStart => exact ⟨0, rfl, by omega, hw1⟩
      case round =>
        obtain ⟨i, rfl, hi, H, Z, L, hH, hZ, hL, BH, BZ, BL, k⟩ := hrel
        have HHL := Lib.hid (And.intro hH (And.intro hZ hL))
        clear hH hZ hL
        by_cases hlt : i < 48
        · have c0 := BL.cell i (by have := HHL.out; omega)
          have c1 := BL.cell (i + 1) (by have := HHL.out; omega)
          have c2 := BL.cell (i + 14) (by have := HHL.out; omega)
          have c3 := BL.cell (i + 9) (by have := HHL.out; omega)
          have cw := BL.cell (i + 16) (by have := HHL.out; omega)
          have fw := BL.free (i + 16)
          generalize L.getD i 0 = y0 at *
          generalize L.getD (i + 1) 0 = y1 at *
          generalize L.getD (i + 14) 0 = y2 at *
          generalize L.getD (i + 9) 0 = y3 at *
          generalize L.getD (i + 16) 0 = z at *
          go_wp2
          go_quiet (fail)
          go_wp2
          refine wp_region_quiet_tail 29 (by kernel_rfl) (by kernel_rfl) ?_
          simp only [List.take_succ_cons, List.take_zero, List.drop_succ_cons, List.drop_zero]
          repeat (go_big_quiet_step (first | (go_at_call 30; exact quiet_add (shaTurn_calls _ _ (by omega) (by omega)))))
          refine wpQuiet_nil ?_
          rintro _ ⟨nq2, rfl⟩
          go_wp2
          go_roundw
          case rel =>
            have kd : Kp no wr (wr.drewN (nq + nq2)) := Kp.byDraws _ _
            exact ⟨i + 1, by go_num, by omega, H, Z, L.set (i + 16) _, HHL.out.1, HHL.out.2.1, by rw [List.length_set]; exact HHL.out.2.2, (BH.keepN kd).far (show w.heap.size ≠ w.heap.size + 1 + 1 from by omega) _, (BZ.keepN kd).far (show w.heap.size + 1 ≠ w.heap.size + 1 + 1 from by omega) _, (BL.keepN kd).set (i + 16) _, (k.then kd).setCell (p := ⟨w.heap.size + 1 + 1, i + 16, none⟩) (fun hh => by have hh : w.heap.size + 1 + 1 < w.heap.size := hh; omega) _⟩
          case measure => first | (simp [intOf]; done) | (simp [intOf]; omega)
        · obtain rfl : i = 48 := by omega
          go_wp2
          go_meet
          case rel => exact ⟨H, Z, L, HHL.out.1, HHL.out.2.1, HHL.out.2.2, BH, BZ, BL, k⟩
    case rest =>
      obtain ⟨H, Z, L, hH, hZ, hL, BH, BZ, BL, k⟩ := hcut
      obtain ⟨wo, rfl⟩ : ∃ wo : World, wo = wc := ⟨_, rfl⟩
      have HHL := Lib.hid (And.intro hH (And.intro hZ hL))
      clear hH hZ hL hw1
      have hlt := BL.lt
      go_upto_block 4 with (first
        | (go_at_call 31; refine shaKeys_calls.mono ?_; rintro e w3 ⟨rfl, k3⟩; have hsz3 := k3.size; have B3 := Blk.new w3 (nums .u32 (List.replicate 64 0)).toArray 64; have BH3 := Blk.alloc (BH.keepN k3) (.cells (nums .u32 (List.replicate 64 0)).toArray 64))
        | (refine wpList_store_row rfl 64 (.tmp 10) (.tmp 98) rfl w3.heap.size (nums .u32 shaK) rfl rfl B3 (by decide) infoW64 (nums_one _ _) ?_; intro w4 B4 k4 hsz40; have HSZ4 := Lib.hid hsz40; clear hsz40; have BH4 := Blk.keep BH3 k4 (by show ¬ _ = _; omega); have B40 := Blk.new w4 (nums .u32 (List.replicate 8 0)).toArray 47)
        | (refine wpList_load_mid rfl 47 (.tmp 2) rfl w.heap.size 0 rfl (nums .u32 H) (.array 8 46) (Blk.range BH4) Tryz.underlying47 rfl (by rw [nums_length, HHL.out.1]; exact infoW8) ?_)
        | (refine wpList_store_row rfl 47 (.tmp 11) (.tmp 99) rfl w4.heap.size (nums .u32 H) rfl rfl B40 (by rw [nums_length, HHL.out.1]; decide) (by rw [nums_length, HHL.out.1]; exact infoW8) (nums_one _ _) ?_; intro w5 B5 k5 hsz50; have HSZ5 := Lib.hid hsz50; clear hsz50))
      have hlt3 : w.heap.size + 1 + 1 < w3.heap.size := by omega
      have hlt4 : w3.heap.size < w4.heap.size := by have := HSZ4.out; simp at this; omega
      have HV0 : ShaV w w3.heap.size w4.heap.size w5 := by
        have step : ∀ (g : Nat) (cs : Array Value) (t : TypeId), g < w3.heap.size → Blk wo g cs t → Blk w5 g cs t := fun g cs t hg hb =>
          Blk.keep (Blk.alloc (Blk.keep (Blk.alloc (hb.keepN k3) _) k4 (by show ¬ g = _; omega)) _) k5 (by show ¬ g = _; omega)
        exact ⟨H, Z, L, shaK, H, ⟨HHL.out.1, HHL.out.2.1, HHL.out.2.2, by decide, HHL.out.1⟩, step _ _ _ (by omega) BH, step _ _ _ (by omega) BZ, step _ _ _ (by omega) BL, Blk.keep (Blk.alloc B4 _) k5 (by show ¬ _ = _; omega), B5,
          ((((k.then k3).alloc _).trans k4 (fun i hi h => by have h : i = _ := h; have := k.size; omega)).alloc _).trans k5 (fun i hi h => by have h : i = _ := h; have := k.size; omega)⟩
      clear BH BZ BL BH3 BH4 B3 B4 B40 B5 k4 k5 k3 k hlt hsz3
      go_cut [] from 100 (fun wx => ShaV w w3.heap.size w4.heap.size wx)
      case first =>
        go_wp2
        go_loopw [12] (fun iv wr => ∃ i : Nat, iv = .int .i64 i ∧ i ≤ 64 ∧ ShaV w w3.heap.size w4.heap.size wr) (fun iv _ => 64 - (intOf iv).toNat)
        case atStart => exact ⟨0, rfl, by omega, HV0⟩
        case round =>
          obtain ⟨i, rfl, hi, H, Z, L, K, V, hls, BH, BZ, BL, BK, BV, k⟩ := hrel
          have HLS := Lib.hid hls
          clear hls
          by_cases hlt : i < 64
          · have v0 := BV.cell 0 (by have := HLS.out; omega)
            have v1 := BV.cell 1 (by have := HLS.out; omega)
            have v2 := BV.cell 2 (by have := HLS.out; omega)
            have v3 := BV.cell 3 (by have := HLS.out; omega)
            have v4 := BV.cell 4 (by have := HLS.out; omega)
            have v5 := BV.cell 5 (by have := HLS.out; omega)
            have v6 := BV.cell 6 (by have := HLS.out; omega)
            have v7 := BV.cell 7 (by have := HLS.out; omega)
            have ck := BK.cell i (by have := HLS.out; omega)
            have cl := BL.cell i (by have := HLS.out; omega)
            generalize V.getD 0 0 = y0 at *
            generalize V.getD 1 0 = y1 at *
            generalize V.getD 2 0 = y2 at *
            generalize V.getD 3 0 = y3 at *
            generalize V.getD 4 0 = y4 at *
            generalize V.getD 5 0 = y5 at *
            generalize V.getD 6 0 = y6 at *
            generalize V.getD 7 0 = y7 at *
            generalize K.getD i 0 = yk at *
            generalize L.getD i 0 = yl at *
            go_wp2
            go_quiet (fail)
            go_upto_region 17 with (fail)
            go_cut [15] from 101 to 137 (fun v wx => ∃ x : Int, v = .int .u32 x ∧ ∃ m, wx = wr.drewN m)
            case first =>
              go_quiet (first | (go_at_call 30; exact quiet_add (shaTurn_calls _ _ (by omega) (by omega))) | (go_at_call 30; exact quiet_add2 (shaTurn_calls _ _ (by omega) (by omega))))
              go_wp2
              go_meet
              case rel => exact ⟨_, rfl, _, by first | rfl | rw [World.drewN_drewN]⟩
            case rest =>
            obtain ⟨x1, rfl, m1, rfl⟩ := hcut
            go_upto_region 18 with (fail)
            go_cut [16] from 101 to 161 (fun v wx => ∃ x : Int, v = .int .u32 x ∧ ∃ m, wx = wr.drewN m)
            case first =>
              go_quiet (first | (go_at_call 30; exact quiet_add (shaTurn_calls _ _ (by omega) (by omega))) | (go_at_call 30; exact quiet_add2 (shaTurn_calls _ _ (by omega) (by omega))))
              go_wp2
              go_meet
              case rel => exact ⟨_, rfl, _, by first | rfl | rw [World.drewN_drewN]⟩
            case rest =>
            obtain ⟨x2, rfl, m2, rfl⟩ := hcut
            have hBV : Blk (wr.drewN m2) w4.heap.size (nums .u32 V).toArray 47 := Blk.undraw BV
            have hVl : (nums .u32 V).toArray.size = (nums .u32 [(x1 + x2) % 4294967296, y0, y1, y2, (y3 + x1) % 4294967296, y4, y5, y6]).length := by have := HLS.out; simp [nums]; omega
            have HBV := Lib.hid hBV
            have HVL := Lib.hid hVl
            clear hBV hVl
            go_wp2_with (refine wpList_store_at 47 (.tmp 11) (.tmp 181) w4.heap.size (nums .u32 [(x1 + x2) % 4294967296, y0, y1, y2, (y3 + x1) % 4294967296, y4, y5, y6]) rfl rfl HBV.out HVL.out infoW8 (nums_one _ _) ?_; intro w6 B6 k6 hsz6; clear hsz6)
            have K6 : Kp no w w6 := Kp.trans (k.drewN m2) k6 (fun i hi h => by have h : i = _ := h; have := k.size; omega)
            have U6 : ∀ {g' : Nat} {t' : TypeId} {M : List Int}, g' ≠ w4.heap.size → Wd wr g' t' M → Wd w6 g' t' M := fun hne hb => Blk.keep (Blk.undraw hb) k6 hne
            clear k6
            go_roundw
            case rel =>
              exact ⟨i + 1, by go_num, by omega, H, Z, L, K, [(x1 + x2) % 4294967296, y0, y1, y2, (y3 + x1) % 4294967296, y4, y5, y6], ⟨HLS.out.1, HLS.out.2.1, HLS.out.2.2.1, HLS.out.2.2.2.1, rfl⟩, U6 (by omega) BH, U6 (by omega) BZ, U6 (by omega) BL, U6 (by omega) BK, B6, K6⟩
            case measure => first | (simp [intOf]; done) | (simp [intOf]; omega)
          · obtain rfl : i = 64 := by omega
            go_wp2
            go_meet
            case rel => exact ⟨H, Z, L, K, V, HLS.out, BH, BZ, BL, BK, BV, k⟩
      case rest =>
        have hv1 := hcut
        clear hcut HV0
        go_upto_block 6 with (fail)
        go_cut [] from 182 (fun wx => ShaV w w3.heap.size w4.heap.size wx)
        case first =>
          go_wp2
          go_loopw [17] (fun iv wr => ∃ i : Nat, iv = .int .i64 i ∧ i ≤ 8 ∧ ShaV w w3.heap.size w4.heap.size wr) (fun iv _ => 8 - (intOf iv).toNat)
          case atStart => exact ⟨0, rfl, by omega, hv1⟩
          case round =>
            obtain ⟨i, rfl, hi, H, Z, L, K, V, hls, BH, BZ, BL, BK, BV, k⟩ := hrel
            have HLS := Lib.hid hls
            clear hls
            by_cases hlt : i < 8
            · have c0 := BH.cell i (by have := HLS.out; omega)
              have f0 := BH.free i
              have c1 := BV.cell i (by have := HLS.out; omega)
              generalize H.getD i 0 = y0 at *
              generalize V.getD i 0 = y1 at *
              go_wp2
              refine wp_region_quiet_tail 8 (by kernel_rfl) (by kernel_rfl) ?_
              simp only [List.take_succ_cons, List.take_zero, List.drop_succ_cons, List.drop_zero]
              repeat (go_big_quiet_step (fail))
              refine wpQuiet_nil ?_
              rintro _ ⟨nq, rfl⟩
              go_wp2
              go_roundw
              case rel =>
                have kd : ∀ {g : Nat} {t : TypeId} {M : List Int}, Wd wr g t M → Wd (wr.drewN nq) g t M := fun h => h.keepN (Kp.byDraws _ _)
                have hlt3' : w.heap.size < w3.heap.size := by omega
                exact ⟨i + 1, by go_num, by omega, H.set i _, Z, L, K, V, ⟨by rw [List.length_set]; exact HLS.out.1, HLS.out.2⟩, (kd BH).set i _, (kd BZ).far (show w.heap.size + 1 ≠ w.heap.size from by omega) _, (kd BL).far (show w.heap.size + 1 + 1 ≠ w.heap.size from by omega) _, (kd BK).far (show w3.heap.size ≠ w.heap.size from by omega) _, (kd BV).far (show w4.heap.size ≠ w.heap.size from by omega) _, (k.then (Kp.byDraws _ _)).setCell (p := ⟨w.heap.size, i, none⟩) (fun hh => by have hh : w.heap.size < w.heap.size := hh; omega) _⟩
              case measure => first | (simp [intOf]; done) | (simp [intOf]; omega)
            · obtain rfl : i = 8 := by omega
              go_wp2
              go_meet
              case rel => exact ⟨H, Z, L, K, V, HLS.out, BH, BZ, BL, BK, BV, k⟩
        case rest =>
          obtain ⟨H, Z, L, K, V, hls, BH, BZ, BL, BK, BV, k⟩ := hcut
          have HLS := Lib.hid hls
          clear hls
          go_wp2_with (first
            | (refine wpList_load_mid rfl 47 (.tmp 2) rfl w.heap.size 0 rfl (nums .u32 H) (.array 8 46) (Blk.range BH) Tryz.underlying47 rfl (by rw [nums_length, HLS.out.1]; exact infoW8) ?_)
            | (refine wpList_store_row rfl 47 (.tmp 4) (.tmp 194) rfl (w.heap.size + 1) (nums .u32 H) rfl rfl BZ (by simp [nums]; have := HLS.out; omega) (by rw [nums_length, HLS.out.1]; exact infoW8) (nums_one _ _) ?_; intro w6 B6 k6 hsz6; have HSZ6 := Lib.hid hsz6; clear hsz6))
          (try simp only [Exit.inBlock, Exit.then]); refine bodyPost_ret (results_cellrow_tmp0 rfl _ _ (w.heap.size + 1) 47 (nums .u32 H).toArray _ rfl B6 Tryz.underlying47 rfl (by rw [show (nums .u32 H).toArray.size = 8 from by simp [nums]; exact HLS.out.1]; exact infoW8)) rfl ?_
          exact ⟨⟨H, HLS.out.1, rfl⟩, k.trans k6 (fun i hi h => by have h : i = _ := h; omega)⟩
end Go.Proofs.YtflafpklphgbpaaGreatDoor
