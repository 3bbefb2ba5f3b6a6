/- spec.PeerMade: what IDs it makes. -/
import Derived.Test.YtflafpklphgbpaaGreatDoorShaC
import Derived.Test.YtflafpklphgbpaaGreatDoorPHash
namespace Go.Proofs.YtflafpklphgbpaaGreatDoor
open Go Go.RowKit
set_option linter.unusedVariables false
set_option linter.unusedSimpArgs false
set_option maxRecDepth 100000

theorem Rd.ofBlk {w : World} {g : Nat} {L : List Int} {t : TypeId} {n : Nat} (h : Blk w g (nums .u8 L).toArray t) (hn : L.length = n) (hb : Byt L) (hm : n ≤ 9223372036854775807) : Rd w (some ⟨g, 0, none⟩) n n L :=
  ⟨hn, Nat.le_refl _, hm, hb, fun _ => ⟨g, 0, rfl, fun j hj => by
    rw [Nat.zero_add, h.cell j]; simp [nums, List.getD_eq_getElem?_getD, List.getElem?_eq_getElem (show j < L.length by omega)]⟩⟩
theorem Rd.capped {w : World} {A : Option Addr} {n c c' : Nat} {L : List Int} (h : Rd w A n c L) (hc : n ≤ c') (hm : c' ≤ 9223372036854775807) : Rd w A n c' L :=
  ⟨h.len, hc, hm, h.byt, h.at_⟩
/-- The IDs that the reference makes, by a kind. -/
def PM (k : Int) (l : List Int) : Prop :=
  (k % 4 ≤ 1 ∧ ∃ S : List Int, S.length = 32 ∧ Byt S ∧ l = 18 :: 32 :: S) ∨ (k % 4 = 2 ∧ ∃ S : List Int, S.length ≤ 32 ∧ Byt S ∧ l = 0 :: (S.length : Int) :: S) ∨
  (k % 4 = 3 ∧ ∃ S : List Int, S.length = 16 ∧ Byt S ∧ l = 178 :: 144 :: 64 :: 16 :: S)
theorem PM.byt {k : Int} {l : List Int} (h : PM k l) : Byt l := by
  have key : ∀ {x : Int} {r : List Int}, 0 ≤ x → x < 256 → Byt r → Byt (x :: r) := fun h0 h1 hr y hy => by
    rcases List.mem_cons.1 hy with rfl | hy
    · exact ⟨h0, h1⟩
    · exact hr y hy
  rcases h with ⟨_, S, hS, hb, rfl⟩ | ⟨_, S, hS, hb, rfl⟩ | ⟨_, S, hS, hb, rfl⟩
  · exact key (by omega) (by omega) (key (by omega) (by omega) hb)
  · exact key (by omega) (by omega) (key (by omega) (by omega) hb)
  · exact key (by omega) (by omega) (key (by omega) (by omega) (key (by omega) (by omega) (key (by omega) (by omega) hb)))
theorem PM.len {k : Int} {l : List Int} (h : PM k l) : 2 ≤ l.length ∧ l.length ≤ 34 := by
  rcases h with ⟨_, S, hS, hb, rfl⟩ | ⟨_, S, hS, hb, rfl⟩ | ⟨_, S, hS, hb, rfl⟩ <;> simp <;> omega
def MadeP (k : Int) (w : World) (e : Ending) (w' : World) : Prop := ∃ A c l, PM k l ∧ e = .returned (.slice A l.length c) ∧ MadeAt w w' A c l
theorem MadeP.of {k : Int} {w w' : World} {l : List Int} {v : Value} (hp : PM k l) (h : Own w' 5 w.heap.size v l) (hk : Kp no w w') : MadeP k w (.returned v) w' := by
  obtain ⟨A, c, rfl, hr, _⟩ := h.rd
  exact ⟨A, c, l, hp, rfl, h, hr, hk⟩

set_option maxHeartbeats 4000000 in
theorem PeerMade_calls {w : World} (H : List Int) (hH : H.length = 32) (hb : Byt H) (k : Int) (k0 : 0 ≤ k) (k1 : k < 256) :
    Calls Tryz.prog 4 #[.agg (nums .u8 H).toArray, .int .u8 k] w (MadeP k w) := by
  have BX := Blk.new w (nums .u8 H).toArray 22
  have kb : Kp no w (w.alloc (.cells (nums .u8 H).toArray 22)) := (Kp.refl _ _).alloc _
  have RX := Rd.ofBlk BX hH hb (by omega)
  have HH := Lib.hid hH
  have HB := Lib.hid hb
  by_cases h0 : k % 4 = 0
  · have D1 := Lib.hid (shaSum_calls RX (by omega))
    clear RX hH hb
    go_enter Tryz.func4, Tryz.ntmps4
    go_wp2_with (first
      | (go_at_call 10; refine D1.out.mono ?_; rintro e w1 ⟨⟨S, hS0, hSb0, rfl⟩, hk1⟩; have hS := Lib.hid hS0; have hSb := Lib.hid hSb0; clear hS0 hSb0; have K1 := kb.then hk1; have B1 := Blk.new w1 (nums .u8 (List.replicate 32 0)).toArray 22)
      | (refine wpList_store_row rfl 22 (.tmp 5) (.tmp 12) rfl w1.heap.size (nums .u8 S) rfl rfl B1 (by simp [nums]; have := hS.out; omega) (by rw [nums_length, hS.out]; exact infoB32) (nums_one _ _) ?_; intro w2 B2 hk2 hsz2; clear hsz2; have K2 : Kp no w w2 := (K1.alloc _).trans hk2 (fun i hi h => by have h : i = _ := h; have := K1.size; omega))
      | (at_builtin; refine own_append w.heap.size rfl (.tmp 13) (.tmp 14) 23 5 rfl Tryz.und_bytes Tryz.info_byte (.slice (some ⟨w2.heap.size, 0, none⟩) 2 2) [18, 32] S (some ⟨w1.heap.size, 0, none⟩) 32 32 rfl rfl (Own.lit w2 5 w.heap.size [18, 32] K2.size (fun x hx => by simp at hx; omega) (by simp)) (Rd.ofBlk (B2.alloc _) hS.out hSb.out (by omega)) (by have := K2.size; simp; omega) (by simp) ?_; intro v3 w3 O3 hk3 _ _; have K3 := (K2.alloc _).own (Own.lit w2 5 w.heap.size [18, 32] K2.size (fun x hx => by simp at hx; omega) (by simp)) (Nat.le_refl _) hk3))
    go_ret
    exact MadeP.of (.inl ⟨by omega, S, hS.out, hSb.out, rfl⟩) O3 K3
  · by_cases h1 : k % 4 = 1
    · have OL := Own.lit (w.alloc (.cells (nums .u8 H).toArray 22)) 5 w.heap.size [18, 32] kb.size (fun x hx => by simp at hx; omega) (by simp)
      have hsz1 : (w.alloc (.cells (nums .u8 H).toArray 22)).heap.size = w.heap.size + 1 := by simp
      rw [hsz1] at OL
      clear hH hb hsz1
      go_enter Tryz.func4, Tryz.ntmps4
      go_wp2_with (at_builtin; refine own_append w.heap.size rfl (.tmp 18) (.tmp 19) 23 5 rfl Tryz.und_bytes Tryz.info_byte (.slice (some ⟨w.heap.size + 1, 0, none⟩) 2 2) [18, 32] H (some ⟨w.heap.size, 0, none⟩) 32 32 rfl rfl OL (RX.keepN ((Kp.refl _ _).alloc _)) (by simp; omega) (by simp) ?_; intro v3 w3 O3 hk3 _ _; have K3 := (kb.alloc (.cells (nums .u8 [18, 32]).toArray 5)).own OL (Nat.le_refl _) hk3)
      go_ret
      exact MadeP.of (.inl ⟨by omega, H, HH.out, HB.out, rfl⟩) O3 K3
    · by_cases h2 : k % 4 = 2
      · have c0 := BX.cell 0
        have hy := HB.out.getD 0
        have c0' : (w.alloc (.cells (nums .u8 H).toArray 22)).cell? ⟨w.heap.size, 0, none⟩ = some (.int .u8 (H.getD 0 0)) := by
          rw [c0]; simp [nums, List.getD_eq_getElem?_getD, List.getElem?_eq_getElem (show 0 < H.length by omega)]
        clear c0
        obtain ⟨n, hn⟩ : ∃ n : Nat, H.getD 0 0 % 33 = n := ⟨(H.getD 0 0 % 33).toNat, by omega⟩
        have hn32 : n ≤ 32 := by omega
        generalize H.getD 0 0 = y at *
        have RN := RX.take n hn32
        have hnl : (H.take n).length = n := by simp; omega
        have HNL := Lib.hid hnl
        have HN := Lib.hid hn
        have hnd : (n : Int) % 256 = n := by omega
        have hn32i : (n : Int) ≤ 32 := by omega
        have hn0i : (0 : Int) ≤ (n : Int) := by omega
        have OL := Own.lit (w.alloc (.cells (nums .u8 H).toArray 22)) 5 w.heap.size [0, (n : Int)] kb.size (fun x hx => by simp at hx; omega) (by simp)
        have hsz1 : (w.alloc (.cells (nums .u8 H).toArray 22)).heap.size = w.heap.size + 1 := by simp
        rw [hsz1] at OL
        clear hH hb hnl hsz1
        go_enter Tryz.func4, Tryz.ntmps4
        go_wp2_with (at_builtin; refine own_append w.heap.size rfl (.tmp 29) (.tmp 31) 23 5 rfl Tryz.und_bytes Tryz.info_byte (.slice (some ⟨w.heap.size + 1, 0, none⟩) 2 2) [0, (n : Int)] (H.take n) (some ⟨w.heap.size, 0, none⟩) n 32 rfl rfl OL (RN.keepN ((Kp.refl _ _).alloc _)) (by simp; omega) (by simp; omega) ?_; intro v3 w3 O3 hk3 _ _; have K3 := (kb.alloc (.cells (nums .u8 [0, (n : Int)]).toArray 5)).own OL (Nat.le_refl _) hk3)
        go_ret
        exact MadeP.of (.inr (.inl ⟨by omega, H.take n, by rw [HNL.out]; exact hn32, HB.out.take n, by rw [HNL.out]; rfl⟩)) O3 K3
      · have h3 : k % 4 = 3 := by omega
        have R4 := Rd.lit (w.alloc (.cells (nums .u8 H).toArray 22)) 5 [178, 144, 64, 16] (fun x hx => by simp at hx; omega) (by simp)
        have hsz1 : (w.alloc (.cells (nums .u8 H).toArray 22)).heap.size = w.heap.size + 1 := by simp
        rw [hsz1] at R4
        have RT := ((RX.take 16 (by omega)).keepN ((Kp.refl no (w.alloc (.cells (nums .u8 H).toArray 22))).alloc (.cells (nums .u8 [178, 144, 64, 16]).toArray 5)))
        have hnl : (H.take 16).length = 16 := by simp; omega
        obtain ⟨T, hT⟩ : ∃ T, T = H.take 16 := ⟨_, rfl⟩
        rw [← hT] at RT hnl
        have hTb : Byt T := by rw [hT]; exact hb.take 16
        have kb2 := kb.alloc (.cells (nums .u8 [178, 144, 64, 16]).toArray 5)
        have D3 := Lib.hid (Concat_to (l := 178 :: 144 :: 64 :: 16 :: T) (RdS.lit ((w.alloc (.cells (nums .u8 H).toArray 22)).alloc (.cells (nums .u8 [178, 144, 64, 16]).toArray 5)) 23 [⟨_, _, _, [178, 144, 64, 16]⟩, ⟨some ⟨w.heap.size, 0, none⟩, 16, 32, T⟩] (by
          intro s hs
          simp only [List.mem_cons, List.not_mem_nil, or_false] at hs
          rcases hs with rfl | rfl
          · exact R4
          · exact RT) (by simp)) (by simp; omega) (by simp))
        rw [show ((w.alloc (.cells (nums .u8 H).toArray 22)).alloc (.cells (nums .u8 [178, 144, 64, 16]).toArray 5)).heap.size = w.heap.size + 1 + 1 from by simp] at D3
        clear hH hb hT R4 RT hsz1
        have HNL := Lib.hid hnl
        have HTB := Lib.hid hTb
        clear hnl hTb
        go_enter Tryz.func4, Tryz.ntmps4
        go_wp2_with (fail)
        refine D3.out.mono ?_
        rintro e w3 ⟨A3, c3, rfl, M3⟩
        go_wp2
        go_ret
        exact MadeP.of (.inr (.inr ⟨h3, T, HNL.out, HTB.out, rfl⟩)) (M3.up (kb2.alloc _)).own (M3.up (kb2.alloc _)).kp
end Go.Proofs.YtflafpklphgbpaaGreatDoor
