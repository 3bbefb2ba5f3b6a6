/- SHA2-256 of the reference ends, with some 32 bytes. -/
import Derived.Test.YtflafpklphgbpaaGreatDoorShaB
namespace Go.Proofs.YtflafpklphgbpaaGreatDoor
open Go Go.RowKit
set_option linter.unusedVariables false
set_option linter.unusedSimpArgs false
set_option maxRecDepth 100000

section
variable {P : Program} {ops : Array Oper} {C : World → Prop}
/-- A row that is loaded whole, in a region's quiet head. -/
theorem wpQuiet_load_row {Q : Act → Prop} {a : Act} {op : Oper} {rest : List Oper} (hgd : op.guard = none) (ty : TypeId) (x : Operand) (ho : op.op = .load ty x)
    (b o : Nat) (hx : a.eval x = .pointer (some ⟨b, o, none⟩)) (cs : List Value) (d : TypeDesc) (hc : ∀ w, C w → w.rangeAt b o cs)
    (hu : P.underlying ty = some d) (hd : d.isRow = true) (hi : (P.info? ty).map (·.size) = some cs.length)
    (h : wpQuiet P ops C Q rest (a.put op.dst (.agg cs.toArray))) : wpQuiet P ops C Q (op :: rest) a := by
  have hw : Region.wanted op (yielded ops a.tmps) = true := by simp [Region.wanted, hgd]
  unfold wpQuiet
  rw [if_pos hw]
  refine ⟨_, fun w hw => ?_, h⟩
  unfold Oper.quietAt execOp
  simp only [ho, hx, Instr.loadAt, Instr.sureAddr, Sem.run_bind, Sem.run_pure, Result.andThen_ok, run_loadVar_mid w b o ty cs d (hc w hw) hu hd hi]
  exact ⟨rfl, rfl⟩
end

theorem Byt.set {l : List Int} (h : Byt l) (i : Nat) {v : Int} (h0 : 0 ≤ v) (h1 : v < 256) : Byt (l.set i v) := fun x hx => by
  rcases List.mem_or_eq_of_mem_set hx with hx | rfl
  · exact h x hx
  · exact ⟨h0, h1⟩
theorem Blk.setN {w : World} {g : Nat} {t : TypeId} {K : IntKind} {L : List Int} (h : Blk w g (nums K L).toArray t) (i : Nat) (v : Int) : Blk (w.setCell ⟨g, i, none⟩ (.int K v)) g (nums K (L.set i v)).toArray t := by
  have := Blk.set h i (.int K v)
  rw [show (nums K (L.set i v)).toArray = (nums K L).toArray.setIfInBounds i (.int K v) from by apply Array.toList_inj.1; simp [nums, List.map_set]]
  exact this
def lenV : Value → Nat
  | .slice _ n _ => n
  | _ => 0
/-- The bytes so far; the result's row. -/
structure SumP (w : World) (L : List Int) (v : Value) (wx : World) : Prop where
  own : Own wx 5 (w.heap.size + 1) v L
  blk : Blk wx w.heap.size (nums .u8 (List.replicate 32 0)).toArray 22
  kp : Kp no w wx
theorem SumP.le {w wx : World} {L : List Int} {v : Value} (h : SumP w L v wx) : w.heap.size + 1 ≤ wx.heap.size := h.blk.lt
theorem SumP.app {w wx w1 : World} {L M : List Int} {v v1 : Value} (h : SumP w L v wx) (o : Own w1 5 (w.heap.size + 1) v1 M) (k : Kp (Of v) wx w1) : SumP w M v1 w1 :=
  ⟨o, h.blk.keep k (fun hv => by have := (h.own.base _ hv).1; omega), h.kp.own h.own (by omega) k⟩
theorem SumP.alloc {w wx : World} {L : List Int} {v : Value} (h : SumP w L v wx) (o : Obj) : SumP w L v (wx.alloc o) :=
  ⟨h.own.keepN ((Kp.refl _ _).alloc o), h.blk.alloc o, h.kp.alloc o⟩

def SumA (w : World) (q : Nat → Prop) (v : Value) (wx : World) : Prop := ∃ (L : List Int) (B : Option Addr) (c : Nat), v = .slice B L.length c ∧ SumP w L v wx ∧ q L.length
theorem SumP.as {w wx : World} {L : List Int} {v : Value} {q : Nat → Prop} (h : SumP w L v wx) (hq : q L.length) : SumA w q v wx := by
  obtain ⟨B, c, rfl, _, _⟩ := h.own.rd
  exact ⟨L, B, c, rfl, h, hq⟩

set_option maxHeartbeats 8000000 in
theorem shaSum_calls {w : World} {A : Option Addr} {n c : Nat} {l : List Int} (h : Rd w A n c l) (hn : n ≤ 1000000000000) :
    Calls Tryz.prog 10 #[.slice A n c] w fun e w' => (∃ S : List Int, S.length = 32 ∧ Byt S ∧ e = .returned (.agg (nums .u8 S).toArray)) ∧ Kp no w w' := by
  obtain rfl := h.len
  have ka : Kp no w (w.alloc (.cells (nums .u8 (List.replicate 32 0)).toArray 22)) := (Kp.refl _ _).alloc _
  have HO := Own.lit (w.alloc (.cells (nums .u8 (List.replicate 32 0)).toArray 22)) 5 (w.heap.size + 1) [] (by simp) Byt.nil (by simp)
  rw [show (w.alloc (.cells (nums .u8 (List.replicate 32 0)).toArray 22)).heap.size = w.heap.size + 1 from by simp] at HO
  have HP0 : SumP w [] (.slice (some ⟨w.heap.size + 1, 0, none⟩) 0 0) ((w.alloc (.cells (nums .u8 (List.replicate 32 0)).toArray 22)).alloc (.cells (nums .u8 []).toArray 5)) :=
    ⟨HO, (Blk.new w _ _).alloc _, ka.alloc _⟩
  have HR := h.keepN HP0.kp
  clear HO ka
  have HN := Lib.hid hn
  go_enter Tryz.func10, Tryz.ntmps10
  go_upto_block 0 with (first
    | (at_builtin; refine own_append (w.heap.size + 1) rfl (.tmp 10) (.tmp 11) 23 5 rfl Tryz.und_bytes Tryz.info_byte (.slice (some ⟨w.heap.size + 1, 0, none⟩) 0 0) [] l A l.length c rfl rfl HP0.own HR (by simp) (by simp; omega) ?_; intro v1 w1 O1 k1 _ _; have HP1 := HP0.app O1 k1; clear O1 k1 HR)
    | (at_builtin; refine own_append (w.heap.size + 1) rfl (.tmp 13) (.tmp 14) 23 5 rfl Tryz.und_bytes Tryz.info_byte v1 ([] ++ l) [128] (some ⟨w1.heap.size, 0, none⟩) 1 1 rfl rfl (HP1.alloc _).own (Rd.lit w1 5 [128] (Byt.one (by omega) (by omega)) (by simp)) (by have := HP1.le; simp; omega) (by simp; omega) ?_; intro v2 w2 O2 k2 _ _; have HP2 := (HP1.alloc _).app O2 k2; clear O2 k2))
  obtain ⟨L2, hL2⟩ : ∃ L2, L2 = [] ++ l ++ [128] := ⟨_, rfl⟩
  rw [← hL2] at HP2
  have hl2 : L2.length = l.length + 1 := by rw [hL2]; simp
  clear hL2 HP1 HP0
  go_cut [3] from 16 to 22 (fun v wx => SumA w (fun m => m % 64 = 56 ∧ m ≤ l.length + 64) v wx)
  case first =>
    have HS2 : SumA w (fun m => m + (120 - m % 64) % 64 ≤ l.length + 64) v2 w2 := HP2.as (by omega)
    go_wp2
    go_loopw [3] (fun v wr => SumA w (fun m => m + (120 - m % 64) % 64 ≤ l.length + 64) v wr) (fun v _ => (120 - lenV v % 64) % 64)
    case atStart => exact HS2
    case round =>
      obtain ⟨L, B, c3, rfl, HP, hb⟩ := hrel
      have hle := HP.le
      by_cases h56 : L.length % 64 = 56
      · have h56' : (L.length : Int) % 64 = 56 := by omega
        go_wp2
        go_meet
        case rel => exact HP.as ⟨h56, by omega⟩
      · have h56' : ¬ (L.length : Int) % 64 = 56 := by omega
        go_wp2_with (first | (at_builtin; refine own_append (w.heap.size + 1) rfl (.tmp 20) (.tmp 21) 23 5 rfl Tryz.und_bytes Tryz.info_byte (.slice B L.length c3) L [0] (some ⟨wr.heap.size, 0, none⟩) 1 1 rfl rfl (HP.alloc _).own (Rd.lit wr 5 [0] (Byt.one (by omega) (by omega)) (by simp)) (by simp; omega) (by omega) ?_; intro v4 w4 O4 k4 _ _; have HP4 := (HP.alloc _).app O4 k4; clear O4 k4))
        obtain ⟨B5, c5, hv5, _, _⟩ := HP4.own.rd
        subst hv5
        go_roundw
        case rel => exact HP4.as (by simp; omega)
        case measure => simp [lenV]; omega
  case rest =>
    obtain ⟨L, B, c3, rfl, HP, h56, hb⟩ := hcut
    have HQ0 : SumA w (fun m => m % 64 = 56 ∧ m ≤ l.length + 64) (.slice B L.length c3) wc := HP.as ⟨h56, hb⟩
    go_upto_block 2 with (fail)
    go_cut [3] from 27 to 38 (fun v wx => SumA w (fun m => m % 64 = 0 ∧ m ≤ l.length + 72) v wx)
    case first =>
      go_wp2
      go_loopw [3, 5] (fun v iv wr => ∃ (k : Nat) (j : Int), iv = .int .i64 j ∧ j = k - 1 ∧ k ≤ 8 ∧ SumA w (fun m => (m + k) % 64 = 0 ∧ m + k ≤ l.length + 72) v wr) (fun _ iv _ => (intOf iv + 1).toNat)
      case atStart => exact ⟨8, _, rfl, by omega, by omega, HP.as ⟨by omega, by omega⟩⟩
      case round =>
        obtain ⟨k, j, rfl, hj, hk, L, B, c4, rfl, HP, hb1, hb2⟩ := hrel
        have hle := HP.le
        cases k with
        | zero =>
          have hj2 : j < 0 := by omega
          clear hj
          go_wp2
          go_meet
          case rel => exact HP.as ⟨by omega, by omega⟩
        | succ k =>
          obtain rfl : j = (k : Int) := by omega
          clear hj
          go_wp2_with (first | (at_builtin; refine own_append (w.heap.size + 1) rfl (.tmp 31) (.tmp 37) 23 5 rfl Tryz.und_bytes Tryz.info_byte (.slice B L.length c4) L [(l.length : Int) * 8 / 2 ^ (8 * k) % 256] (some ⟨wr.heap.size, 0, none⟩) 1 1 rfl rfl (HP.alloc _).own (Rd.lit wr 5 [_] (Byt.one (Int.emod_nonneg _ (by decide)) (Int.emod_lt_of_pos _ (by decide))) (by simp)) (by simp; omega) (by omega) ?_; intro v4 w4 O4 k4 _ _; have HP4 := (HP.alloc _).app O4 k4; clear O4 k4))
          obtain ⟨B5, c5, hv5, _, _⟩ := HP4.own.rd
          subst hv5
          go_roundw
          case rel => exact ⟨k, _, rfl, by omega, by omega, HP4.as (by simp; omega)⟩
          case measure => first | (simp [intOf]; done) | (simp [intOf]; omega)
    case rest =>
      obtain ⟨L, B, c3, rfl, HP, h64, hb⟩ := hcut
      obtain ⟨w5, rfl⟩ : ∃ w5 : World, w5 = wc := ⟨_, rfl⟩
      have RB := HP.own.rd
      obtain ⟨_, _, hv9, RL, _, _⟩ := RB
      injection hv9 with hv9 _ hv10
      subst hv9 hv10
      have BZ := HP.blk
      have kp := HP.kp
      have hle := HP.le
      clear HP HQ0
      have BH0 : Blk (w5.alloc (.cells (nums .u32 (List.replicate 8 0)).toArray 47)) w5.heap.size (nums .u32 (List.replicate 8 0)).toArray 47 := Blk.new _ _ _
      go_upto_block 4 with (refine wpList_store_row rfl 47 (.tmp 6) (.tmp 39) rfl w5.heap.size (nums .u32 shaH) rfl rfl BH0 (by decide) infoW8 (nums_one _ _) ?_; intro w6 B6 k6 hsz6)
      have K6 : Kp no w5 w6 := Kp.trans ((Kp.refl _ _).alloc _) k6 (fun i hi h => by have h : i = _ := h; omega)
      clear k6 BH0
      have hbz : (L.length : Int) % 64 = 0 := by omega
      go_cut [] from 40 to 52 (fun wx => ∃ H : List Int, H.length = 8 ∧ Wd wx w5.heap.size 47 H ∧ Kp no w5 wx)
      case first =>
        go_wp2
        go_loopw [7] (fun iv wr => ∃ (i : Nat) (j : Int), iv = .int .i64 j ∧ j = 64 * i ∧ 64 * i ≤ L.length ∧ ∃ H : List Int, H.length = 8 ∧ Wd wr w5.heap.size 47 H ∧ Kp no w5 wr) (fun iv _ => L.length - (intOf iv).toNat)
        case atStart => exact ⟨0, _, rfl, by omega, by omega, shaH, rfl, B6, K6⟩
        case round =>
          obtain ⟨i, j, rfl, hj, hi, H, hH, BH, k⟩ := hrel
          have HH := Lib.hid hH
          clear hH
          by_cases hlt : j < (L.length : Int)
          · have RLr := RL.keepN k
            obtain ⟨A7, R7, _, _, hs7⟩ := RLr.cut Tryz.und_bytes (by kernel_rfl) .i64 .i64 j (j + 64) (by omega) (by omega) (by omega)
            rw [show (j + 64).toNat - j.toNat = 64 from by omega] at R7 hs7
            have hj0 : 0 ≤ j := by omega
            have hj1 : j + 64 ≤ (L.length : Int) := by omega
            have HJ := Lib.hid hj
            clear hj hi
            go_wp2
            refine wp_region_quiet_tail 6 (by kernel_rfl) (by kernel_rfl) ?_
            simp only [List.take_succ_cons, List.take_zero, List.drop_succ_cons, List.drop_zero]
            refine wpQuiet_load_row rfl 47 (.tmp 6) rfl w5.heap.size 0 rfl (nums .u32 H) (.array 8 46) (fun w' hw' => by obtain ⟨m, rfl⟩ := hw'; exact Blk.range (Blk.undraw BH)) Tryz.underlying47 rfl (by rw [nums_length, HH.out]; exact infoW8) ?_
            simp only [Act.put, List.setIfInBounds_toArray, List.set_cons_succ, List.set_cons_zero]
            repeat (go_big_quiet_step (fail))
            refine wpQuiet_nil ?_
            rintro _ ⟨nq, rfl⟩
            have D7 := Lib.hid (shaBlock_calls (w := wr.drewN nq) (R7.keepN (Kp.byDraws _ _)) H HH.out)
            go_wp2_with (first
              | (go_at_call 20; refine D7.out.mono ?_; rintro e w7 ⟨⟨Y, hY0, rfl⟩, k7⟩; have hY := Lib.hid hY0; clear hY0; have BH7 := Blk.keepN (Blk.undraw BH) k7)
              | (refine wpList_store_row rfl 47 (.tmp 6) (.tmp 52) rfl w5.heap.size (nums .u32 Y) rfl rfl BH7 (by simp [nums]; rw [HH.out, hY.out]) (by rw [nums_length, hY.out]; exact infoW8) (nums_one _ _) ?_; intro w8 B8 k8 hsz8; have K8 : Kp no w5 w8 := Kp.trans ((k.drewN _).then k7) k8 (fun i hi h => by have h : i = _ := h; omega); clear k8 hsz8))
            go_roundw
            case rel => exact ⟨i + 1, _, rfl, by have := HJ.out; omega, by have := HJ.out; omega, Y, hY.out, B8, K8⟩
            case measure => first | (simp [intOf]; done) | (simp [intOf]; omega)
          · go_wp2
            go_meet
            case rel => exact ⟨H, HH.out, BH, k⟩
      case rest =>
        obtain ⟨H, hH, BH, k⟩ := hcut
        obtain ⟨w9, rfl⟩ : ∃ w9 : World, w9 = wc := ⟨_, rfl⟩
        have HH := Lib.hid hH
        clear hH
        have BZ9 := BZ.keepN k
        have k9 := kp.then k
        have hlt9 := BZ9.lt
        have hlt5 := BH.lt
        clear BZ kp k
        have BO0 : Blk (w9.alloc (.cells (nums .u8 (List.replicate 32 0)).toArray 22)) w9.heap.size (nums .u8 (List.replicate 32 0)).toArray 22 := Blk.new _ _ _
        go_upto_block 6 with (fail)
        go_cut [] from 53 to 68 (fun wx => ∃ S : List Int, S.length = 32 ∧ Byt S ∧ Blk wx w9.heap.size (nums .u8 S).toArray 22 ∧ Kp no w9 wx)
        case first =>
          go_wp2
          go_loopw [9] (fun iv wr => ∃ i : Nat, iv = .int .i64 i ∧ i ≤ 32 ∧ ∃ S : List Int, S.length = 32 ∧ Byt S ∧ Blk wr w9.heap.size (nums .u8 S).toArray 22 ∧ Kp no w9 wr) (fun iv _ => 32 - (intOf iv).toNat)
          case atStart => exact ⟨0, rfl, by omega, List.replicate 32 0, rfl, fun x hx => by have := List.eq_of_mem_replicate hx; omega, BO0, (Kp.refl _ _).alloc _⟩
          case round =>
            obtain ⟨i, rfl, hi, S, hS, hb8, BS, k⟩ := hrel
            have HS := Lib.hid hS
            have HB8 := Lib.hid hb8
            clear hS hb8
            by_cases hlt : i < 32
            · have c1 := (Wd.keepN BH k).cell (i / 4) (by have := HH.out; omega)
              have c2 : wr.cell? ⟨w9.heap.size, i, none⟩ = some (.int .u8 (S.getD i 0)) := by
                rw [BS.cell i]; simp [nums, List.getD_eq_getElem?_getD, List.getElem?_eq_getElem (show i < S.length by have := HS.out; omega)]
              have f2 := BS.free i
              have hi0 : (0 : Int) ≤ (i : Int) := by omega
              generalize H.getD (i / 4) 0 = y at *
              generalize S.getD i 0 = z at *
              go_wp2
              go_roundw
              case rel => exact ⟨i + 1, by go_num, by omega, S.set i _, by rw [List.length_set]; exact HS.out, HB8.out.set i (Int.emod_nonneg _ (by decide)) (Int.emod_lt_of_pos _ (by decide)), BS.setN i _, k.setCell (p := ⟨w9.heap.size, i, none⟩) (fun hh => by have hh : w9.heap.size < w9.heap.size := hh; omega) _⟩
              case measure => first | (simp [intOf]; done) | (simp [intOf]; omega)
            · obtain rfl : i = 32 := by omega
              go_wp2
              go_meet
              case rel => exact ⟨S, HS.out, HB8.out, BS, k⟩
        case rest =>
          obtain ⟨S, hS, hb8, BS, k⟩ := hcut
          have HS := Lib.hid hS
          clear hS
          have BZ10 := BZ9.keepN k
          go_wp2_with (first
            | (refine wpList_load_mid rfl 22 (.tmp 8) rfl w9.heap.size 0 rfl (nums .u8 S) (.array 32 5) (Blk.range BS) Tryz.underlying22 rfl (by rw [nums_length, HS.out]; exact infoB32) ?_)
            | (refine wpList_store_row rfl 22 (.tmp 2) (.tmp 69) rfl w.heap.size (nums .u8 S) rfl rfl BZ10 (by simp [nums]; have := HS.out; omega) (by rw [nums_length, HS.out]; exact infoB32) (nums_one _ _) ?_; intro w11 B11 k11 hsz11))
          (try simp only [Exit.inBlock, Exit.then]); refine bodyPost_ret (results_cellrow_tmp0 rfl _ _ w.heap.size 22 (nums .u8 S).toArray _ rfl B11 Tryz.underlying22 rfl (by rw [show (nums .u8 S).toArray.size = 32 from by simp [nums]; exact HS.out]; exact infoB32)) rfl ?_
          exact ⟨⟨S, HS.out, hb8, rfl⟩, (k9.then k).trans k11 (fun i hi h => by have h : i = _ := h; omega)⟩
end Go.Proofs.YtflafpklphgbpaaGreatDoor
