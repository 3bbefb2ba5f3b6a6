/- FnPeerOrders walked. -/
import Derived.Test.YtnbpliccenanpaaDoorIds
import Derived.Test.YtnbpliccenanpaaDoorPCid
import Derived.Test.YtnbpliccenanpaaDoorOther
import Derived.Deep.RegionHeld3
import Derived.IntWalk
namespace Go.Proofs.YtnbpliccenanpaaDoor
open Go Go.RowKit Go.Sort
set_option linter.unusedVariables false
set_option linter.unusedSimpArgs false
set_option maxRecDepth 100000

theorem sortB_mem {L : List (List Int)} (hb : ∀ l ∈ L, Byt l) {x : List Int} (hx : x ∈ sortB L) : x ∈ L := by
  unfold sortB at hx
  obtain ⟨y, hy, rfl⟩ := List.mem_map.1 hx
  have := (List.mergeSort_perm (L.map by8) leB).mem_iff.1 hy
  obtain ⟨l, hl, rfl⟩ := List.mem_map.1 this
  rw [un8_by8 (hb l hl)]; exact hl
theorem sortB_by8 (L : List (List Int)) : (sortB L).map by8 = (L.map by8).mergeSort leB := by
  unfold sortB
  rw [List.map_map]
  conv => rhs; rw [← List.map_id ((L.map by8).mergeSort leB)]
  apply List.map_congr_left
  intro x _
  exact by8_un8 x
theorem sorted_leB (X : List (List UInt8)) : (X.mergeSort leB).Pairwise fun x y => leB x y = true := by
  refine List.pairwise_mergeSort ?_ ?_ _
  · intro a b c h1 h2
    simp only [leB, Bool.not_eq_true'] at h1 h2 ⊢
    exact swo_ltStr.ntrans c b a h2 h1
  · intro a b
    cases h : ltStr b a with
    | false => simp [leB, h]
    | true => simp [leB, h, swo_ltStr.asymm h]
theorem sortB_twice (L : List (List Int)) : sortB (sortB L) = sortB L := by
  have h := sorted_is (List.Perm.refl ((L.map by8).mergeSort leB)) (sorted_leB (L.map by8))
  show (((sortB L).map by8).mergeSort leB).map un8 = _
  rw [sortB_by8, ← h]
  rfl
/-- What is told of IDs in their order. -/
def Ordered (M : List (List Int)) (n : Nat) : Prop := M.length = n ∧ (∀ l ∈ M, ∃ k, PM k l) ∧ sortB M = M ∧
  ∀ j, j + 1 < M.length → Lib.compareBytes (by8 (1 :: 114 :: M.getD j [])) (by8 (1 :: 114 :: M.getD (j + 1) [])) ≤ 0
theorem compare_cons (x : UInt8) (a b : List UInt8) : Lib.compareBytes (x :: a) (x :: b) = Lib.compareBytes a b := by
  simp [Lib.compareBytes]
theorem ordered {L : List (List Int)} (hP : ∀ l ∈ L, ∃ k, PM k l) : Ordered (sortB L) L.length := by
  have hb : ∀ l ∈ L, Byt l := fun l hl => by obtain ⟨k, hp⟩ := hP l hl; exact hp.byt
  refine ⟨sortB_length L, fun l hl => hP l (sortB_mem hb hl), sortB_twice L, fun j hj => ?_⟩
  have hs := List.pairwise_iff_getElem.1 (sorted_leB (L.map by8))
  have hl : ((L.map by8).mergeSort leB).length = (sortB L).length := by simp [sortB]
  have h1 := hs j (j + 1) (by omega) (by omega) (by omega)
  have e : ∀ i (hi : i < (sortB L).length), by8 ((sortB L).getD i []) = ((L.map by8).mergeSort leB)[i]'(by omega) := fun i hi => by
    rw [List.getD_eq_getElem?_getD, List.getElem?_eq_getElem hi]
    simp only [sortB, List.getElem_map, Option.getD_some, by8_un8]
  show Lib.compareBytes (1 :: 114 :: by8 ((sortB L).getD j [])) (1 :: 114 :: by8 ((sortB L).getD (j + 1) [])) ≤ 0
  rw [compare_cons, compare_cons, e j (by omega), e (j + 1) hj]
  simp only [leB, Bool.not_eq_true', ltStr, decide_eq_false_iff_not] at h1
  have h2 := (compare_lt (((L.map by8).mergeSort leB)[j]'(by omega)) (((L.map by8).mergeSort leB)[j + 1]'(by omega))).2
  exact Int.not_lt.1 fun h => h1 (h2.1 h)

set_option maxHeartbeats 4000000 in
theorem fnPeerOrders_calls {w : World} {A A2 : Option Addr} {n c n2 c2 : Nat} {LA : List (List Int)} {lk : List Int} (h : RdA w A n c LA) (h2 : Rd w A2 n2 c2 lk) (hE : MErrs w) :
    Calls Tryd.prog 7 #[.slice A n c, .slice A2 n2 c2] w (LawOk w) := by
  obtain rfl := h.len
  obtain rfl := h2.len
  have hcap := h.cap
  have hmax := h.max
  have hcap2 := h2.cap
  have hmax2 := h2.max
  have HA := Lib.hid h
  have H2 := Lib.hid h2
  have DL := Lib.hid (fun W (k : Kp no w W) => peersLive_calls (hE.keepN k))
  clear h h2
  by_cases hbig : 2147483647 < (LA.length : Int)
  · go_enter Tryd.func7, Tryd.ntmps7
    go_wp2
    go_ret
    exact ⟨rfl, Kp.refl _ _⟩
  by_cases hbig2 : 2147483647 < (lk.length : Int)
  · go_enter Tryd.func7, Tryd.ntmps7
    go_wp2
    go_ret
    exact ⟨rfl, Kp.refl _ _⟩
  by_cases h20 : 20 < (LA.length : Int)
  · have D := Lib.hid (DL.out w (Kp.refl _ _))
    clear DL
    go_enter Tryd.func7, Tryd.ntmps7
    go_wp2_with (first | (go_at_call 11; refine D.out.mono ?_; rintro e w2 ⟨rfl, hk2⟩))
    go_ret
    exact ⟨rfl, hk2⟩
  by_cases hne : (lk.length : Int) = LA.length
  case neg =>
    have D := Lib.hid (DL.out w (Kp.refl _ _))
    clear DL
    go_enter Tryd.func7, Tryd.ntmps7
    go_wp2_with (first | (go_at_call 11; refine D.out.mono ?_; rintro e w2 ⟨rfl, hk2⟩))
    go_ret
    exact ⟨rfl, hk2⟩
  have hlen : lk.length = LA.length := by omega
  have hL20 : LA.length ≤ 20 := by omega
  rw [hlen] at H2 hcap2 ⊢
  have HLEN := Lib.hid hlen
  clear hne hbig2 hbig hlen h20
  go_enter Tryd.func7, Tryd.ntmps7
  go_upto_block 0 with (fail)
  go_cut [5] from 32 to 46 (fun v wx => MadeL w LA.length v wx)
  case first =>
    go_wp2
    go_loopw [5, 32] (fun v iv wr => ∃ i : Nat, iv = .int .i64 i ∧ i ≤ LA.length ∧ MadeL w i v wr) (fun _ iv _ => LA.length - (intOf iv).toNat)
    case atStart => exact ⟨0, rfl, by omega, [], rfl, by simp, VS.nil _ _, Kp.refl _ _⟩
    case round =>
      obtain ⟨i, rfl, hi, L, hL, hP, hV, k⟩ := hrel
      by_cases hlt : i < LA.length
      · obtain ⟨us, hVO, hVl, hVE⟩ := hV.ex
        obtain ⟨g, o, rfl, hc⟩ := (HA.out.keepN k).at_ (by omega)
        have HRG := Lib.hid (hc i hlt)
        obtain ⟨hH, hHb⟩ := HA.out.ok i hlt
        have HH := Lib.hid hH
        have HHB := Lib.hid hHb
        obtain ⟨g2, o2, rfl, hc2⟩ := (H2.out.keepN k).at_ (by omega)
        have hb2 := H2.out.byt
        have hk2 := hc2 i hlt
        have hkb : 0 ≤ lk.getD i 0 ∧ lk.getD i 0 < 256 := hb2.getD i
        generalize lk.getD i 0 = kd at *
        generalize LA.getD i [] = H at *
        have hB := k.size
        have B0 : Blk (wr.alloc (.cells (nums .u8 (List.replicate 32 0)).toArray 31)) wr.heap.size (nums .u8 (List.replicate 32 0)).toArray 31 := Blk.new _ _ _
        have HB0 := Lib.hid B0
        clear hc hc2 hH hHb hb2 B0
        go_upto_region 9 with (first
          | (refine wpList_load_mid rfl 31 (.tmp 35) rfl g (o + i * 32) rfl (nums .u8 H) (.array 32 5) HRG.out Tryd.underlying31 rfl (by rw [nums_length, HH.out]; exact infoB32) ?_)
          | (refine wpList_store_at 31 (.tmp 7) (.tmp 36) wr.heap.size (nums .u8 H) rfl rfl HB0.out (by simp [nums]; rw [HH.out]) (by rw [nums_length, HH.out]; exact infoB32) (nums_one _ _) ?_; intro w1 B1 k1 hsz1))
        have k1' : Kp no wr w1 := ((Kp.refl _ _).alloc _).trans k1 (fun i hi h => by have h : i = _ := h; omega)
        have hk3 := k1'.cellN hk2
        have hB1 := k1'.size
        have hg2 : ¬ Of u5 g2 := fun hh => by
          obtain ⟨g3, o3, e3, hc3⟩ := H2.out.at_ (by omega)
          cases e3
          have l1 := World.block_lt_of_cell? w _ (hc3 i hlt)
          have l2 := (hVO.base _ hh).1
          have l1 : g2 < w.heap.size := l1
          omega
        have hgr : ¬ Of u5 wr.heap.size := fun hh => by have := (hVO.base _ hh).2; omega
        have HSS := Lib.hid (show ∀ W W', Kp no w1 W → Kp (Of u5) W W' → W'.rangeAt wr.heap.size 0 (nums .u8 H) ∧ W'.cell? ⟨g2, o2 + i, none⟩ = some (.int .u8 kd) from fun W W' kk kk' =>
          ⟨((B1.keepN kk).keep kk' hgr).range, kk'.cell (kk.cellN hk3) hg2⟩)
        have D := Lib.hid (PeerMade_calls (w := w1.drew) H HH.out HHB.out kd hkb.1 hkb.2)
        have HVE := Lib.hid hVE
        have HVL := Lib.hid hVl
        have HVO := Lib.hid (hVO.keepN k1')
        have huo : ∀ b, u5.ownBlock = some b → b < w1.drew.heap.size := fun b hb => by have := (hVO.base _ hb).2; show b < w1.heap.size; omega
        have HUO := Lib.hid huo
        have hul : us.length = i := by omega
        have HUL := Lib.hid hul
        have kd1 : Kp no w1 w1.drew := (Kp.refl _ _).drew
        have kr1 : ∀ W, Kp (Of u5) W W := fun W => Kp.refl _ _
        have hu := Tryd.underlying31
        have hi1 : (Tryd.prog.info? 31).map (·.size) = some (nums .u8 H).length := by rw [nums_length, HH.out]; exact infoB32
        clear hk2 k1 hsz1 hVE hVl hVO hV huo hg2 hgr hul hk3
        simp only [Act.put]
        go_region_held3 (fun W => W.rangeAt wr.heap.size 0 (nums .u8 H) ∧ W.cell? ⟨g2, o2 + i, none⟩ = some (.int .u8 kd))
          ((first
            | with_reducible exact HSS.out _ _ kd1 (kr1 _)
            | with_reducible exact HSS.out _ _ (kd1.then M1.kp) (kr1 _)
            | with_reducible exact HSS.out _ _ ((kd1.then M1.kp).alloc _) (kr1 _)
            | with_reducible exact HSS.out _ _ ((kd1.then M1.kp).alloc _) k9))
          (first
            | (go_at_call 16; refine D.out.mono ?_; rintro e w2 ⟨A1, c1, l, hp, rfl, M1⟩; have HP1 := Lib.hid hp; clear hp)
            | (refine one_append_if w.heap.size rfl (.tmp 37) (.tmp 44) 38 22 rfl Tryd.und_bytess' (.slice none 0 0) 24 Tryd.info_bytes rfl (by omega) u5 us (.slice A1 l.length c1) w2.heap.size rfl rfl ((Blk.new w2 #[.slice A1 l.length c1] 22).cell 0) rfl ((HVO.out.keepN (kd1.then M1.kp)).keepN ((Kp.refl _ _).alloc _)) (by have := M1.kp.size; simp at this ⊢; omega) (by rw [HUL.out]; omega) ?_; intro A9 c9 w9 O9 k9 hw9))
        go_wp2
        go_roundw
        case rel =>
          refine ⟨i + 1, by go_num, by omega, L ++ [l], by simp [hL], fun x hx => ?_, ?_, ?_⟩
          · rcases List.mem_append.1 hx with hx | hx
            · exact hP x hx
            · simp only [List.mem_singleton] at hx; subst hx; exact ⟨kd, HP1.out⟩
          · have ka : Kp no w2 (w2.alloc (.cells #[.slice A1 l.length c1] 22)) := (Kp.refl _ _).alloc _
            exact VS.app HVL.out (fun j hj => (((HVE.out j hj).keepN k1').keepN (kd1.then M1.kp)).keepN ka) ((M1.el HUO.out).keepN ka) O9 k9 hw9
          · exact Kp.vown (((k.then k1').then (kd1.then M1.kp)).alloc _) ((HVO.out.keepN (kd1.then M1.kp)).keepN ((Kp.refl _ _).alloc _)) (Nat.le_refl _) k9
        case measure => first | (simp [intOf]; done) | (simp [intOf]; omega)
      · obtain rfl : i = LA.length := by omega
        go_wp2
        go_meet
        case rel => exact ⟨L, hL, hP, hV, k⟩
  case rest =>
    obtain ⟨L, hL, hP, hV, k⟩ := hcut
    obtain ⟨w1, rfl⟩ : ∃ w1 : World, w1 = wc := ⟨_, rfl⟩
    obtain ⟨A1, c1, hv1, hR⟩ := hV.rd
    subst hv1
    have hb : ∀ l ∈ L, l.length ≤ 1000 := fun l hl => by obtain ⟨kk, hp⟩ := hP l hl; have := hp.len; omega
    have D1 := Lib.hid (PeerSorted_calls hR (by omega) hb)
    have hM := ordered hP
    have hN : L.length ≤ 20 := by omega
    have HL := Lib.hid hL
    clear hV hR hP hb hL
    go_wp2_with (fail)
    refine D1.out.mono ?_
    rintro e w2 ⟨v2, rfl, V2, k2⟩
    obtain ⟨A2, c2', hv2, R2⟩ := V2.rd
    subst hv2
    generalize sortB L = M at *
    obtain ⟨hml, hmp, hms, hmo⟩ := hM
    have hL := HL.out
    have hb2 : ∀ l ∈ M, l.length ≤ 1000 := fun l hl => by obtain ⟨kk, hp⟩ := hmp l hl; have := hp.len; omega
    have D2 := Lib.hid (PeerSorted_calls R2 (by omega) hb2)
    have HMP := Lib.hid hmp
    have HMO := Lib.hid hmo
    have hmn : M.length ≤ 20 := by omega
    have hmL : M.length = LA.length := by omega
    have HML := Lib.hid hml
    have HMLA := Lib.hid hmL
    have HR2 := Lib.hid R2
    have hcp := R2.cap
    have hmx := R2.max
    rw [hms] at D2
    clear hb2 hmp hmo hms V2 R2 D1 hN hL20 hml hmL hL
    go_wp2_with (fail)
    refine D2.out.mono ?_
    rintro e w3 ⟨v3, rfl, V3, k3⟩
    obtain ⟨A3, c3, hv3, R3⟩ := V3.rd
    subst hv3
    have hcp3 := R3.cap
    have hmx3 := R3.max
    have HR3 := Lib.hid R3
    have K3 := (k.then k2).then k3
    clear V3 R3 D2
    go_upto_block 2 with (fail)
    go_cut [] from 53 to 75 (fun wx => Kp no w3 wx)
    case first =>
      go_wp2
      go_loopw [53] (fun iv wr => ∃ i : Nat, iv = .int .i64 i ∧ i ≤ M.length ∧ Kp no w3 wr) (fun iv _ => M.length - (intOf iv).toNat)
      case atStart => exact ⟨0, rfl, by omega, Kp.refl _ _⟩
      case round =>
        obtain ⟨i, rfl, hi, kr⟩ := hrel
        by_cases hlt : i < M.length
        · rcases Nat.eq_zero_or_pos i with h0 | h0
          · subst h0
            go_wp2
            go_quiet (fail)
            go_wp2
            go_roundw
            case rel => exact ⟨1, rfl, by omega, kr.drewN _⟩
            case measure => first | (simp [intOf]; done) | (simp [intOf]; omega)
          · obtain ⟨j, rfl⟩ : ∃ j, i = j + 1 := ⟨i - 1, by omega⟩
            obtain ⟨g, o, rfl, hc⟩ := (HR2.out.keepN (k3.then kr)).at_ (by omega)
            obtain ⟨Ax, cx, hcx, Rx⟩ := hc j (by omega)
            obtain ⟨Ay, cy, hcy, Ry⟩ := hc (j + 1) hlt
            have hzz := HMO.out j hlt
            have hmem : ∀ i, i < M.length → M.getD i [] ∈ M := fun i hi => by rw [List.getD_eq_getElem?_getD, List.getElem?_eq_getElem hi]; exact List.getElem_mem hi
            obtain ⟨kx, hpx⟩ := HMP.out _ (hmem j (by omega))
            obtain ⟨ky, hpy⟩ := HMP.out _ (hmem (j + 1) hlt)
            have hxl := hpx.len
            have hyl := hpy.len
            have HX := Lib.hid hpx.isMH
            have HY := Lib.hid hpy.isMH
            have HZ := Lib.hid hzz
            generalize M.getD j [] = x at *
            generalize M.getD (j + 1) [] = y at *
            obtain ⟨X, hX⟩ : ∃ X, X = 1 :: 114 :: x := ⟨_, rfl⟩
            obtain ⟨Y, hY⟩ : ∃ Y, Y = 1 :: 114 :: y := ⟨_, rfl⟩
            obtain ⟨z, hz⟩ : ∃ z, z = Lib.compareBytes (by8 X) (by8 Y) := ⟨_, rfl⟩
            have hz0 : z ≤ 0 := by rw [hz, hX, hY]; exact HZ.out
            have DX := Lib.hid (show ∀ W A c, Kp no wr W → Rd W A x.length c x → Calls Tryd.prog 25 #[.slice A x.length c] W (Made W X) from fun W A c kk hr => by rw [hX]; exact PeerCid_calls hr (hE.keepN ((K3.then kr).then kk)) (by omega) HX.out)
            have DY := Lib.hid (show ∀ W A c, Kp no wr W → Rd W A y.length c y → Calls Tryd.prog 25 #[.slice A y.length c] W (Made W Y) from fun W A c kk hr => by rw [hY]; exact PeerCid_calls hr (hE.keepN ((K3.then kr).then kk)) (by omega) HY.out)
            have DC := Lib.hid (show ∀ W A c A' c', Rd W A X.length c X → Rd W A' Y.length c' Y → Calls Tryd.prog 24 #[.slice A X.length c, .slice A' Y.length c'] W fun e w' => e = .returned (.int .i64 z) ∧ w' = W from fun W A c A' c' h1 h2 => by rw [hz]; exact Compare_calls h1 h2)
            have CX := Lib.hid (show ∀ W, Kp no wr W → Calls Tryd.prog 13 #[.slice Ax x.length cx] W (Made W x) from fun W kk => Clone_calls (Rx.keepN kk) (by omega))
            have CY := Lib.hid (show ∀ W, Kp no wr W → Calls Tryd.prog 13 #[.slice Ay y.length cy] W (Made W y) from fun W kk => Clone_calls (Ry.keepN kk) (by omega))
            have kd : Kp no wr wr.drew := (Kp.refl _ _).drew
            have HSS := Lib.hid (show ∀ W, Kp no wr W → Kp no wr W ∧ W.cell? ⟨g, o + j, none⟩ = some (.slice Ax x.length cx) ∧ W.cell? ⟨g, o + (j + 1), none⟩ = some (.slice Ay y.length cy) from fun W kk => ⟨kk, kk.cellN hcx, kk.cellN hcy⟩)
            have hlt1 : (j : Int) + 1 < M.length := by omega
            have hj0 : (0 : Int) ≤ j := by omega
            have hjm : (j : Int) < M.length := by omega
            clear hc hcx hcy Rx Ry hzz hmem hpx hpy HX HY HZ hX hY hz hxl hyl
            go_upto_region 16 with (fail)
            have hd : decide ((0 : Int) < (j : Int) + 1) = true := decide_eq_true (by omega)
            have e1 : IntKind.i64.wrap ((j : Int) + 1 - 1) = j := by rw [Int.add_sub_cancel]; exact IntWalk.i64_in _ (by omega)
            have e2 : IntKind.i64.wrap (j : Int) = j := IntWalk.i64_in _ (by omega)
            have e3 : ((j : Int) + 1).toNat = j + 1 := by omega
            have e4 : (0 : Int) ≤ (j : Int) + 1 := by omega
            go_region_held3 (fun W => Kp no wr W ∧ W.cell? ⟨g, o + j, none⟩ = some (.slice Ax x.length cx) ∧ W.cell? ⟨g, o + (j + 1), none⟩ = some (.slice Ay y.length cy))
              ((first
                | with_reducible exact HSS.out _ kd
                | with_reducible exact HSS.out _ (kd.then M4.kp)
                | with_reducible exact HSS.out _ k5
                | with_reducible exact HSS.out _ (k5.then M6.kp)
                | with_reducible exact HSS.out _ k7))
              (first
                | (go_at_call 24; refine (DC.out w7 _ _ _ _ R5 M7.rd).mono ?_; rintro e w8 ⟨rfl, hw8⟩; subst hw8)
                | (go_at_call 25; refine (DY.out w6 _ _ (k5.then M6.kp) M6.rd).mono ?_; rintro e w7 ⟨A7, c7, rfl, M7⟩; have k7 := (k5.then M6.kp).then M7.kp; have R5 := (M5.rd.keepN M6.kp).keepN M7.kp)
                | (go_at_call 13; refine (CY.out w5 k5).mono ?_; rintro e w6 ⟨A6, c6, rfl, M6⟩)
                | (go_at_call 25; refine (DX.out w4 _ _ (kd.then M4.kp) M4.rd).mono ?_; rintro e w5 ⟨A5, c5, rfl, M5⟩; have k5 := (kd.then M4.kp).then M5.kp)
                | (go_at_call 13; refine (CX.out wr.drew kd).mono ?_; rintro e w4 ⟨A4, c4, rfl, M4⟩))
            clear e1 e2 e3 e4 hd
            have hzf : decide ((0 : Int) < z) = false := decide_eq_false (by omega)
            have K8 := kr.then k7
            go_wp2
            go_roundw
            case rel => exact ⟨j + 1 + 1, by go_num, by omega, K8⟩
            case measure => first | (simp [intOf]; done) | (simp [intOf]; omega)
        · obtain rfl : i = M.length := by omega
          go_wp2
          go_meet
          case rel => exact kr
    case rest =>
      obtain ⟨w5, rfl⟩ : ∃ w5 : World, w5 = wc := ⟨_, rfl⟩
      have D4 := Lib.hid (EqualFunc_same (HR2.out.keepN (k3.then hcut)) (HR3.out.keepN hcut) (by omega))
      have D5 := Lib.hid (fun W (k : Kp no w5 W) => DL.out W ((K3.then hcut).then k))
      have hdl : decide ((M.length : Int) = (L.length : Int)) = true := decide_eq_true (by have := HML.out; omega)
      go_wp2_with (first
        | (go_at_call 26; refine D4.out.mono ?_; rintro e w6 ⟨rfl, k6⟩)
        | (go_at_call 11; refine (D5.out _ k6).mono ?_; rintro e w7 ⟨rfl, k7⟩))
      all_goals first
        | (exfalso; have := HML.out; omega)
        | (go_ret; exact ⟨rfl, ((K3.then hcut).then k6).then k7⟩)
end Go.Proofs.YtnbpliccenanpaaDoor
