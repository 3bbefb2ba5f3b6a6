/- FnPeerSorted walked. -/
import Derived.Test.YtnbpliccenanpaaDoorIds
import Derived.Test.YtnbpliccenanpaaDoorSortF
import Derived.Deep.RegionHeld3
namespace Go.Proofs.YtnbpliccenanpaaDoor
open Go Go.RowKit Go.Sort
set_option linter.unusedVariables false
set_option linter.unusedSimpArgs false
set_option maxRecDepth 100000

set_option maxHeartbeats 4000000 in
theorem fnPeerSorted_calls {w : World} {A A2 : Option Addr} {n c n2 c2 : Nat} {LA : List (List Int)} {lk : List Int} (h : RdA w A n c LA) (h2 : Rd w A2 n2 c2 lk) (hE : MErrs w) :
    Calls Tryd.prog 9 #[.slice A n c, .slice A2 n2 c2] w (LawOk w) := by
  obtain rfl := h.len
  obtain rfl := h2.len
  have hcap := h.cap
  have hmax := h.max
  have hcap2 := h2.cap
  have hmax2 := h2.max
  have HA := Lib.hid h
  have H2 := Lib.hid h2
  have DL := Lib.hid (fun W (k : Kp no w W) => peersLive_calls (hE.keepN k))
  clear h h2
  by_cases hbig : 2147483647 < (LA.length : Int)
  · go_enter Tryd.func9, Tryd.ntmps9
    go_wp2
    go_ret
    exact ⟨rfl, Kp.refl _ _⟩
  by_cases hbig2 : 2147483647 < (lk.length : Int)
  · go_enter Tryd.func9, Tryd.ntmps9
    go_wp2
    go_ret
    exact ⟨rfl, Kp.refl _ _⟩
  by_cases h20 : 20 < (LA.length : Int)
  · have D := Lib.hid (DL.out w (Kp.refl _ _))
    clear DL
    go_enter Tryd.func9, Tryd.ntmps9
    go_wp2_with (first | (go_at_call 11; refine D.out.mono ?_; rintro e w2 ⟨rfl, hk2⟩))
    go_ret
    exact ⟨rfl, hk2⟩
  by_cases hne : (lk.length : Int) = LA.length
  case neg =>
    have D := Lib.hid (DL.out w (Kp.refl _ _))
    clear DL
    go_enter Tryd.func9, Tryd.ntmps9
    go_wp2_with (first | (go_at_call 11; refine D.out.mono ?_; rintro e w2 ⟨rfl, hk2⟩))
    go_ret
    exact ⟨rfl, hk2⟩
  have hlen : lk.length = LA.length := by omega
  have hL20 : LA.length ≤ 20 := by omega
  rw [hlen] at H2 hcap2 ⊢
  have HLEN := Lib.hid hlen
  clear hne hbig2 hbig hlen h20
  go_enter Tryd.func9, Tryd.ntmps9
  go_upto_block 0 with (fail)
  go_cut [5] from 31 to 45 (fun v wx => MadeL w LA.length v wx)
  case first =>
    go_wp2
    go_loopw [5, 31] (fun v iv wr => ∃ i : Nat, iv = .int .i64 i ∧ i ≤ LA.length ∧ MadeL w i v wr) (fun _ iv _ => LA.length - (intOf iv).toNat)
    case atStart => exact ⟨0, rfl, by omega, [], rfl, by simp, VS.nil _ _, Kp.refl _ _⟩
    case round =>
      obtain ⟨i, rfl, hi, L, hL, hP, hV, k⟩ := hrel
      by_cases hlt : i < LA.length
      · obtain ⟨us, hVO, hVl, hVE⟩ := hV.ex
        obtain ⟨g, o, rfl, hc⟩ := (HA.out.keepN k).at_ (by omega)
        have HRG := Lib.hid (hc i hlt)
        obtain ⟨hH, hHb⟩ := HA.out.ok i hlt
        have HH := Lib.hid hH
        have HHB := Lib.hid hHb
        obtain ⟨g2, o2, rfl, hc2⟩ := (H2.out.keepN k).at_ (by omega)
        have hb2 := H2.out.byt
        have hk2 := hc2 i hlt
        have hkb : 0 ≤ lk.getD i 0 ∧ lk.getD i 0 < 256 := hb2.getD i
        generalize lk.getD i 0 = kd at *
        generalize LA.getD i [] = H at *
        have hB := k.size
        have B0 : Blk (wr.alloc (.cells (nums .u8 (List.replicate 32 0)).toArray 31)) wr.heap.size (nums .u8 (List.replicate 32 0)).toArray 31 := Blk.new _ _ _
        have HB0 := Lib.hid B0
        clear hc hc2 hH hHb hb2 B0
        go_upto_region 9 with (first
          | (refine wpList_load_mid rfl 31 (.tmp 34) rfl g (o + i * 32) rfl (nums .u8 H) (.array 32 5) HRG.out Tryd.underlying31 rfl (by rw [nums_length, HH.out]; exact infoB32) ?_)
          | (refine wpList_store_at 31 (.tmp 7) (.tmp 35) wr.heap.size (nums .u8 H) rfl rfl HB0.out (by simp [nums]; rw [HH.out]) (by rw [nums_length, HH.out]; exact infoB32) (nums_one _ _) ?_; intro w1 B1 k1 hsz1))
        have k1' : Kp no wr w1 := ((Kp.refl _ _).alloc _).trans k1 (fun i hi h => by have h : i = _ := h; omega)
        have hk3 := k1'.cellN hk2
        have hB1 := k1'.size
        have hg2 : ¬ Of u5 g2 := fun hh => by
          obtain ⟨g3, o3, e3, hc3⟩ := H2.out.at_ (by omega)
          cases e3
          have l1 := World.block_lt_of_cell? w _ (hc3 i hlt)
          have l2 := (hVO.base _ hh).1
          have l1 : g2 < w.heap.size := l1
          omega
        have hgr : ¬ Of u5 wr.heap.size := fun hh => by have := (hVO.base _ hh).2; omega
        have HSS := Lib.hid (show ∀ W W', Kp no w1 W → Kp (Of u5) W W' → W'.rangeAt wr.heap.size 0 (nums .u8 H) ∧ W'.cell? ⟨g2, o2 + i, none⟩ = some (.int .u8 kd) from fun W W' kk kk' =>
          ⟨((B1.keepN kk).keep kk' hgr).range, kk'.cell (kk.cellN hk3) hg2⟩)
        have D := Lib.hid (PeerMade_calls (w := w1.drew) H HH.out HHB.out kd hkb.1 hkb.2)
        have HVE := Lib.hid hVE
        have HVL := Lib.hid hVl
        have HVO := Lib.hid (hVO.keepN k1')
        have huo : ∀ b, u5.ownBlock = some b → b < w1.drew.heap.size := fun b hb => by have := (hVO.base _ hb).2; show b < w1.heap.size; omega
        have HUO := Lib.hid huo
        have hul : us.length = i := by omega
        have HUL := Lib.hid hul
        have kd1 : Kp no w1 w1.drew := (Kp.refl _ _).drew
        have kr1 : ∀ W, Kp (Of u5) W W := fun W => Kp.refl _ _
        have hu := Tryd.underlying31
        have hi1 : (Tryd.prog.info? 31).map (·.size) = some (nums .u8 H).length := by rw [nums_length, HH.out]; exact infoB32
        clear hk2 k1 hsz1 hVE hVl hVO hV huo hg2 hgr hul hk3
        simp only [Act.put]
        go_region_held3 (fun W => W.rangeAt wr.heap.size 0 (nums .u8 H) ∧ W.cell? ⟨g2, o2 + i, none⟩ = some (.int .u8 kd))
          ((first
            | with_reducible exact HSS.out _ _ kd1 (kr1 _)
            | with_reducible exact HSS.out _ _ (kd1.then M1.kp) (kr1 _)
            | with_reducible exact HSS.out _ _ ((kd1.then M1.kp).alloc _) (kr1 _)
            | with_reducible exact HSS.out _ _ ((kd1.then M1.kp).alloc _) k9))
          (first
            | (go_at_call 16; refine D.out.mono ?_; rintro e w2 ⟨A1, c1, l, hp, rfl, M1⟩; have HP1 := Lib.hid hp; clear hp)
            | (refine one_append_if w.heap.size rfl (.tmp 36) (.tmp 43) 38 22 rfl Tryd.und_bytess' (.slice none 0 0) 24 Tryd.info_bytes rfl (by omega) u5 us (.slice A1 l.length c1) w2.heap.size rfl rfl ((Blk.new w2 #[.slice A1 l.length c1] 22).cell 0) rfl ((HVO.out.keepN (kd1.then M1.kp)).keepN ((Kp.refl _ _).alloc _)) (by have := M1.kp.size; simp at this ⊢; omega) (by rw [HUL.out]; omega) ?_; intro A9 c9 w9 O9 k9 hw9))
        go_wp2
        go_roundw
        case rel =>
          refine ⟨i + 1, by go_num, by omega, L ++ [l], by simp [hL], fun x hx => ?_, ?_, ?_⟩
          · rcases List.mem_append.1 hx with hx | hx
            · exact hP x hx
            · simp only [List.mem_singleton] at hx; subst hx; exact ⟨kd, HP1.out⟩
          · have ka : Kp no w2 (w2.alloc (.cells #[.slice A1 l.length c1] 22)) := (Kp.refl _ _).alloc _
            exact VS.app HVL.out (fun j hj => (((HVE.out j hj).keepN k1').keepN (kd1.then M1.kp)).keepN ka) ((M1.el HUO.out).keepN ka) O9 k9 hw9
          · exact Kp.vown (((k.then k1').then (kd1.then M1.kp)).alloc _) ((HVO.out.keepN (kd1.then M1.kp)).keepN ((Kp.refl _ _).alloc _)) (Nat.le_refl _) k9
        case measure => first | (simp [intOf]; done) | (simp [intOf]; omega)
      · obtain rfl : i = LA.length := by omega
        go_wp2
        go_meet
        case rel => exact ⟨L, hL, hP, hV, k⟩
  case rest =>
    obtain ⟨L, hL, hP, hV, k⟩ := hcut
    obtain ⟨w1, rfl⟩ : ∃ w1 : World, w1 = wc := ⟨_, rfl⟩
    obtain ⟨A1, c1, hv1, hR⟩ := hV.rd
    subst hv1
    have hb : ∀ l ∈ L, l.length ≤ 1000 := fun l hl => by obtain ⟨kk, hp⟩ := hP l hl; have := hp.len; omega
    have D1 := Lib.hid (PeerSorted_calls hR (by omega) hb)
    have D2 := Lib.hid (fun W (k : Kp no w1 W) => CloneS_calls (hV.keepN k) (by omega))
    have hN : L.length ≤ 1000 := by omega
    have HSL := Lib.hid (sortB_length L)
    clear hV hR hP hb hL
    go_wp2_with (fail)
    refine D1.out.mono ?_
    rintro e w2 ⟨v2, rfl, V2, k2⟩
    go_wp2_with (fail)
    refine (D2.out w2 k2).mono ?_
    rintro e w3 ⟨v3, rfl, V3, k3⟩
    have D3 := Lib.hid (SortFunc_calls V3 (by omega))
    go_wp2_with (fail)
    refine D3.out.mono ?_
    rintro e w4 ⟨rfl, V4, k4⟩
    have V2' := V2.keepN k3
    obtain ⟨us3, hO3, _, _⟩ := V3.ex
    have K4 : Kp no w w4 := ((k.then k2).then k3).vown hO3 (by have := k.size; have := k2.size; omega) k4
    have K24 : Kp no w2 w4 := k3.vown hO3 (Nat.le_refl _) k4
    have V2'' := V2.keepN K24
    obtain ⟨A2, c2', hv2, R2⟩ := V2''.rd
    obtain ⟨A3, c3, hv3, R3⟩ := V4.rd
    subst hv2 hv3
    have D4 := Lib.hid (EqualFunc_same R2 R3 (by rw [HSL.out]; omega))
    have D5 := Lib.hid (fun W (k : Kp no w4 W) => DL.out W (K4.then k))
    clear V2 V3 V4 V2' V2'' hO3 R2 R3 k3 k4
    go_wp2_with (first
      | (go_at_call 26; refine D4.out.mono ?_; rintro e w5 ⟨rfl, k5⟩)
      | (go_at_call 11; refine (D5.out _ k5).mono ?_; rintro e w6 ⟨rfl, k6⟩))
    go_ret
    exact ⟨rfl, (K4.then k5).then k6⟩
end Go.Proofs.YtnbpliccenanpaaDoor
