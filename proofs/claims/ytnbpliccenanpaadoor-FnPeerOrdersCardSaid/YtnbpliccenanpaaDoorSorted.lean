/- impl.PeerSorted: IDs are sorted by their bytes. -/
import Derived.Test.YtnbpliccenanpaaDoorSortP
import Derived.Test.YtnbpliccenanpaaDoorShelf
import Derived.Test.YtnbpliccenanpaaDoorMhC
import Derived.Deep.Cut
import Derived.Deep.CutRange
import Derived.Deep.CutBlock
import Derived.Deep.QuietTactic
import Derived.RegionTactic
namespace Go.Proofs.YtnbpliccenanpaaDoor
open Go Go.RowKit Go.Sort
set_option linter.unusedVariables false
set_option linter.unusedSimpArgs false
set_option maxRecDepth 100000

def encS (b : List UInt8) : Value := .string (strOfNums (un8 b))
theorem encS_less (x y : List UInt8) : Op.bytesLess (strOfNums (un8 x)).toList (strOfNums (un8 y)).toList = ltStr x y := by
  rw [str_toList, str_toList, by8_un8, by8_un8, ltStr_less]

theorem ids_len_reached (p : Option Addr) (n c : Nat) : Reaches Tryd.prog 67 (.slice p n c) "Len" 158 := ⟨fun _ => by kernel_rfl, enters_of Tryd.func158 (by kernel_rfl) rfl⟩
theorem ids_less_reached (p : Option Addr) (n c : Nat) : Reaches Tryd.prog 67 (.slice p n c) "Less" 159 := ⟨fun _ => by kernel_rfl, enters_of Tryd.func159 (by kernel_rfl) rfl⟩
theorem ids_swap_reached (p : Option Addr) (n c : Nat) : Reaches Tryd.prog 67 (.slice p n c) "Swap" 161 := ⟨fun _ => by kernel_rfl, enters_of Tryd.func161 (by kernel_rfl) rfl⟩
theorem ids_Len (p : Option Addr) (n c : Nat) (W : World) : LenM Tryd.prog 158 (.slice p n c) n W := by
  unfold LenM
  go_enter Tryd.func158, Tryd.ntmps158
  go_wp2
  go_ret
  exact ⟨rfl, 0, rfl⟩
set_option maxHeartbeats 2000000 in
theorem ids_Less (blk off c size : Nat) (W : World) (x y : ByteArray) (i j : Nat) (hi : i < size) (hj : j < size) (_hsz : size < 4611686018427387904)
    (ci : W.cell? ⟨blk, off + i, none⟩ = some (.string x)) (cj : W.cell? ⟨blk, off + j, none⟩ = some (.string y)) :
    Calls Tryd.prog 159 #[.slice (some ⟨blk, off, none⟩) size c, .int .i64 i, .int .i64 j] W fun e w' => e = .returned (.bool (Op.bytesLess x.toList y.toList)) ∧ ∃ q, w' = W.drewN q := by
  go_enter Tryd.func159, Tryd.ntmps159
  go_wp2
  go_quiet (fail)
  go_wp2
  go_ret
  exact ⟨rfl, nq, rfl⟩
set_option maxHeartbeats 2000000 in
theorem ids_Swap (blk off c size : Nat) (W : World) (x y : ByteArray) (i j : Nat) (hi : i < size) (hj : j < size) (_hsz : size < 4611686018427387904)
    (ci : W.cell? ⟨blk, off + i, none⟩ = some (.string x)) (cj : W.cell? ⟨blk, off + j, none⟩ = some (.string y)) (fi : W.frozen? ⟨blk, off + i, none⟩ = false) (fj : W.frozen? ⟨blk, off + j, none⟩ = false) :
    Calls Tryd.prog 161 #[.slice (some ⟨blk, off, none⟩) size c, .int .i64 i, .int .i64 j] W fun e w' => e = .returned (.tuple #[]) ∧ ∃ q, w' = ((W.setCell ⟨blk, off + i, none⟩ (.string y)).setCell ⟨blk, off + j, none⟩ (.string x)).drewN q := by
  obtain ⟨v', hy'⟩ := cell?_setCell_some (w := W) (p := ⟨blk, off + i, none⟩) (x := .string y) (q := ⟨blk, off + j, none⟩) cj
  go_enter Tryd.func161, Tryd.ntmps161
  go_wp2
  go_region
  all_goals (try go_wp2)
  all_goals go_end0
  all_goals exact ⟨rfl, 1, rfl⟩
theorem mergeSort_one {L : List (List UInt8)} (h : L.length ≤ 1) : L.mergeSort leB = L := by
  match L, h with
  | [], _ => simp
  | [x], _ => simp
/-- sort.Sort of IDs. -/
theorem Sort_calls {w : World} {B : Nat} {v : Value} {L : List (List UInt8)} (h : VOwn w 51 B v (L.map encS)) (hl : L.length ≤ 1000000) :
    Calls Tryd.prog 41 #[.iface 67 v] w fun e w' => e = .returned (.tuple #[]) ∧ VOwn w' 51 B v ((L.mergeSort leB).map encS) ∧ Kp (Of v) w w' := by
  obtain ⟨A, c, hv, h1, h2, h3⟩ := h.form
  simp only [List.length_map] at hv h1
  subst hv
  by_cases hn : L.length ≤ 1
  · have hs := Any.sort_Sort_tiny Tryd.laysGt11 67 (.slice A L.length c) 158 (ids_len_reached _ _ _) L.length hn w (ids_Len _ _ _ _)
    change Calls Tryd.prog 41 _ _ _ at hs
    refine hs.mono fun e w' ⟨he, q, hw⟩ => ?_
    subst hw
    rw [mergeSort_one hn]
    exact ⟨he, h.keepN ((Kp.refl _ _).drewN q), (Kp.refl _ _).drewN q⟩
  · obtain ⟨g, rfl, hc⟩ := h3 (by simp; omega)
    have hh := h
    have hH := hh.holds encS
    have hblk : g < w.heap.size := (hh.base g rfl).2
    have hs := Any.sort_Sort_sorted Tryd.laysGt11 67 (.slice (some ⟨g, 0, none⟩) L.length c) 158 159 161
      (ids_len_reached _ _ _) (ids_less_reached _ _ _) (ids_swap_reached _ _ _) encS ltStr swo_ltStr g 0 L.toArray (by simp; omega) (by simp; omega) w
      (by simpa using ids_Len _ L.length _ _)
      (fun m os dk hs i j hi hj => by
        have hd := holds_sortWorld encS w g 0 m L.toArray dk os hblk hH hs
        have hi' : i < dk.size := by omega
        have hj' : j < dk.size := by omega
        rw [← encS_less]
        have := ids_Less g 0 c L.length (sortWorld encS w g 0 m dk os) (strOfNums (un8 dk[i]!)) (strOfNums (un8 dk[j]!)) i j (by simpa using hi) (by simpa using hj) (by omega) (hd i hi').1 (hd j hj').1
        simpa using this)
      (fun W dk hHd hs i j hi hj => by
        have hi' : i < dk.size := by omega
        have hj' : j < dk.size := by omega
        have := ids_Swap g 0 c L.length W (strOfNums (un8 dk[i]!)) (strOfNums (un8 dk[j]!)) i j (by simpa using hi) (by simpa using hj) (by omega) (hHd i hi').1 (hHd j hj').1 (hHd i hi').2 (hHd j hj').2
        exact this) hH hblk
    change Calls Tryd.prog 41 _ _ _ at hs
    refine hs.mono fun e w' ⟨he, d', m, os, hP, hS, hw⟩ => ?_
    obtain ⟨hsz, hperm⟩ := permIn_toList hP
    have hsz' : d'.size = L.length := by simpa using hsz
    have hm : d'.toList = L.mergeSort leB := sorted_is (by simpa using hperm) ((sortedIn_pairwise (by rw [hsz]; exact hS)).imp fun h => by simp [leB, h])
    have hw' : w' = sortWorld encS w g 0 m d' os := hw
    rw [hw', ← hm]
    exact ⟨he, hh.sorted encS m d' os hsz', (Kp.sortW encS w g m d' os).mono fun i _ h => by rw [h]; rfl⟩

theorem Tryd.und_ids : Tryd.prog.underlying 67 = some (.slice 51) := by kernel_rfl
theorem Tryd.info_ID : (Tryd.prog.info? 51).map (fun i => (i.zero, i.size, i.bytes)) = some (some (.string ⟨#[]⟩), 1, 16) := by kernel_rfl
theorem map_take {α β : Type} (f : α → β) (L : List α) (i : Nat) (hi : i < L.length) : (L.take (i + 1)).map f = (L.take i).map f ++ [f L[i]] := by
  rw [List.take_succ_eq_append_getElem hi, List.map_append]; rfl

def IdRel (w : World) (L : List (List Int)) (i : Nat) (v : Value) (wr : World) : Prop := VOwn wr 51 w.heap.size v (((L.take i).map by8).map encS) ∧ Kp no w wr
def OutRel (w w5 : World) (B : Nat) (M : List (List UInt8)) (i : Nat) (v : Value) (wr : World) : Prop := VS wr B v ((M.take i).map un8) ∧ Kp no w5 wr
set_option maxHeartbeats 4000000 in
theorem PeerSorted_calls {w : World} {A : Option Addr} {n c : Nat} {L : List (List Int)} (h : RdS w A n c L) (hn : n ≤ 100) (hb : ∀ l ∈ L, l.length ≤ 1000) :
    Calls Tryd.prog 23 #[.slice A n c] w fun e w' => ∃ v, e = .returned v ∧ VS w' w.heap.size v (sortB L) ∧ Kp no w w' := by
  obtain rfl := h.len
  have HB := Lib.hid hb
  have hcap := h.cap
  have hmax := h.max
  have hbyt : ∀ j, j < L.length → Byt (L.getD j []) := flat_byt h
  have HBY := Lib.hid hbyt
  clear hb hbyt
  go_enter Tryd.func23, Tryd.ntmps23
  go_upto_block 0 with (fail)
  go_cut [3] from 11 to 20 (fun v wx => IdRel w L L.length v wx)
  case first =>
    go_wp2
    go_loopw [3, 11] (fun v iv wr => ∃ i : Nat, iv = .int .i64 i ∧ i ≤ L.length ∧ IdRel w L i v wr) (fun _ iv _ => L.length - (intOf iv).toNat)
    case atStart => exact ⟨0, rfl, by omega, VOwn.nil _ _ _, Kp.refl _ _⟩
    case round =>
      obtain ⟨i, rfl, hi, hO, k⟩ := hrel
      by_cases hlt : i < L.length
      · obtain ⟨g, o, rfl, hc⟩ := (h.keepN k).at_ (by omega)
        obtain ⟨A', c', h1, h2⟩ := hc i hlt
        have hcv := h2.strT Tryd.und_bytes Tryd.und_ID
        have HY := Lib.hid (HBY.out i hlt)
        have HE := Lib.hid (show (((L.take (i + 1)).map by8).map encS) = ((L.take i).map by8).map encS ++ [.string (strOfNums (L.getD i []))] from by
          rw [map_take by8 L i hlt, List.map_append]
          have e1 : L.getD i [] = L[i] := by rw [List.getD_eq_getElem?_getD, List.getElem?_eq_getElem hlt]; rfl
          have e2 := un8_by8 HY.out
          rw [e1] at e2 ⊢
          simp [encS, e2])
        have hul : (((L.take i).map by8).map encS).length = i := by simp; omega
        have HUL := Lib.hid hul
        have hB := k.size
        clear hc hul
        generalize strOfNums (L.getD i []) = s at *
        generalize ((L.take i).map by8).map encS = us at *
        have hO' := hO.keepN ((Kp.refl _ _).alloc (.cells #[.string s] 51))
        have hc' : (wr.alloc (.cells #[.string s] 51)).cell? ⟨wr.heap.size, 0, none⟩ = some (.string s) := (Blk.new wr #[.string s] 51).cell 0
        have HO' := Lib.hid hO'
        have HC' := Lib.hid hc'
        clear hO' hc'
        generalize (L.getD i []).length = m at *
        go_wp2_with (first
          | (at_builtin; refine one_append w.heap.size rfl (.tmp 15) (.tmp 18) 67 51 rfl Tryd.und_ids (.string ⟨#[]⟩) 16 Tryd.info_ID rfl (by omega) u3 us (.string s) wr.heap.size rfl rfl HC'.out rfl HO'.out (by simp; omega) (by rw [HUL.out]; omega) ?_; intro A1 c1 w1 O1 k1 _))
        go_roundw
        case rel => exact ⟨i + 1, by go_num, by omega, by rw [HE.out]; exact O1, (k.alloc _).vown HO'.out (Nat.le_refl _) k1⟩
        case measure => first | (simp [intOf]; done) | (simp [intOf]; omega)
      · obtain rfl : i = L.length := by omega
        go_wp2
        go_meet
        case rel => exact ⟨hO, k⟩
  case rest =>
    obtain ⟨hO, k⟩ := hcut
    rw [List.take_length] at hO
    have HO := Lib.hid hO
    have D := Lib.hid (Sort_calls hO (by simp; omega))
    obtain ⟨A3, c3, hv3, hn3, hc3, _⟩ := hO.form
    simp only [List.length_map] at hv3 hn3
    subst hv3
    clear hO
    go_upto_block 2 with (first | (go_at_call 41; refine D.out.mono ?_; rintro e w5 ⟨rfl, O5, k5⟩))
    have K5 := k.vown HO.out (Nat.le_refl _) k5
    have HM := Lib.hid (show sortB L = ((L.map by8).mergeSort leB).map un8 from rfl)
    have hml : ((L.map by8).mergeSort leB).length = L.length := by simp
    have HMB := Lib.hid (show ∀ b ∈ (L.map by8).mergeSort leB, b.length ≤ 1000 from fun b hb => by
      have h1 := (List.mergeSort_perm (L.map by8) leB).mem_iff.1 hb
      obtain ⟨l, hl, rfl⟩ := List.mem_map.1 h1
      simpa [by8] using HB.out l hl)
    generalize (L.map by8).mergeSort leB = M at *
    have HML := Lib.hid hml
    clear hml k k5
    go_cut [6] from 26 to 35 (fun v wx => OutRel w w5 w5.heap.size M M.length v wx)
    case first =>
      go_wp2
      go_loopw [6, 26] (fun v iv wr => ∃ i : Nat, iv = .int .i64 i ∧ i ≤ L.length ∧ OutRel w w5 w5.heap.size M i v wr) (fun _ iv _ => L.length - (intOf iv).toNat)
      case atStart => exact ⟨0, rfl, by omega, VS.nil _ _, Kp.refl _ _⟩
      case round =>
        obtain ⟨i, rfl, hi, hV, k⟩ := hrel
        by_cases hlt : i < L.length
        · have hlm : i < M.length := by rw [HML.out]; exact hlt
          obtain ⟨A9, c9, h9, _, _, hcell⟩ := O5.form
          obtain ⟨g, rfl, hcj⟩ : ∃ g, A3 = some ⟨g, 0, none⟩ ∧ ∀ j (hj : j < (M.map encS).length), w5.cell? ⟨g, j, none⟩ = some (M.map encS)[j] := by
            injection h9 with h9
            obtain ⟨g, e1, e2⟩ := hcell (by simp; omega)
            exact ⟨g, h9.trans e1, e2⟩
          have cc := k.cellN (hcj i (by simpa using hlm))
          simp only [List.getElem_map, encS] at cc
          obtain ⟨c7, w7, hcv, R7, k7, hs7⟩ := str_bytes (w := wr) (l := un8 M[i]) (un8_byt _) (by have := HMB.out M[i] (List.getElem_mem hlm); simp [un8]; omega) Tryd.und_ID Tryd.und_bytes
          have HE := Lib.hid (map_take un8 M i hlm)
          obtain ⟨us, hVO, hVl, hVE⟩ := hV.ex
          have hB := k.size
          have hB7 := k7.size
          have huo : u6.ownBlock ≠ some wr.heap.size := fun hh => by have := (hVO.base _ hh).2; omega
          clear h9 hcell hcj
          generalize un8 M[i] = y at *
          generalize strOfNums y = s at *
          have ka : Kp no w7 (w7.alloc (.cells #[.slice (some ⟨wr.heap.size, 0, none⟩) y.length c7] 22)) := (Kp.refl _ _).alloc _
          have HO' := Lib.hid ((hVO.keepN k7).keepN ka)
          have HC' := Lib.hid (show (w7.alloc (.cells #[.slice (some ⟨wr.heap.size, 0, none⟩) y.length c7] 22)).cell? ⟨w7.heap.size, 0, none⟩ = some (.slice (some ⟨wr.heap.size, 0, none⟩) y.length c7) from (Blk.new w7 #[.slice (some ⟨wr.heap.size, 0, none⟩) y.length c7] 22).cell 0)
          have HEL := Lib.hid (show ElAt (w7.alloc (.cells #[.slice (some ⟨wr.heap.size, 0, none⟩) y.length c7] 22)) u6 (.slice (some ⟨wr.heap.size, 0, none⟩) y.length c7) y from
            ⟨_, _, rfl, R7.keepN ka, fun a ha => by cases ha; exact ⟨by simp; omega, huo⟩⟩)
          have HVE := Lib.hid (show ∀ (j : Nat) (hj : j < us.length), ElAt (w7.alloc (.cells #[.slice (some ⟨wr.heap.size, 0, none⟩) y.length c7] 22)) u6 us[j] (((M.take i).map un8).getD j []) from fun j hj => ((hVE j hj).keepN k7).keepN ka)
          have HVL := Lib.hid hVl
          have hul : us.length ≤ 1000 := by rw [hVl]; simp; omega
          clear hVO hVE hVl hV R7 huo hs7
          go_wp2_with (first
            | (at_builtin; refine one_append w5.heap.size rfl (.tmp 30) (.tmp 33) 38 22 rfl Tryd.und_bytess' (.slice none 0 0) 24 Tryd.info_bytes rfl (by omega) u6 us (.slice (some ⟨wr.heap.size, 0, none⟩) y.length c7) w7.heap.size rfl rfl HC'.out rfl HO'.out (by simp; omega) (by omega) ?_; intro A1 c1 w1 O1 k1 hw1))
          go_roundw
          case rel => exact ⟨i + 1, by go_num, by omega, by rw [HE.out]; exact VS.app HVL.out HVE.out HEL.out O1 k1 hw1, ((k.then k7).then ka).vown HO'.out (Nat.le_refl _) k1⟩
          case measure => first | (simp [intOf]; done) | (simp [intOf]; omega)
        · obtain rfl : i = L.length := by omega
          rw [← HML.out] at hV
          go_wp2
          go_meet
          case rel => exact ⟨hV, k⟩
    case rest =>
      obtain ⟨hV, k⟩ := hcut
      rw [List.take_length, ← HM.out] at hV
      go_wp2
      go_ret
      refine ⟨_, rfl, ?_, K5.then k⟩
      obtain ⟨us, hVO, hVl, hVE⟩ := hV.ex
      exact ⟨us, hVO.mono K5.size, hVl, hVE⟩
end Go.Proofs.YtnbpliccenanpaaDoor
