/- FnKeyWide walked. -/
import Derived.Test.YtipleaojejbkpaaDoorRead
import Derived.Test.YtipleaojejbkpaaDoorField
namespace Go.Proofs.YtipleaojejbkpaaDoor
open Go Go.RowKit
set_option linter.unusedVariables false
set_option linter.unusedSimpArgs false
set_option maxRecDepth 100000

theorem Own.blk {w : World} {e : TypeId} {B g n c : Nat} {l : List Int} (h : Own w e B (.slice (some ⟨g, 0, none⟩) n c) l) :
    n = l.length ∧ B ≤ g ∧ n ≤ c ∧ c ≤ 9223372036854775807 ∧ ∃ cur, Blk w g cur e ∧ cur.size = c ∧ cur.toList.take n = nums .u8 l := by
  rcases h.row.2 with ⟨h2, _⟩ | ⟨g', cap, cur, hv, hb, hh, hnc, hcm, hsz, ht⟩
  · cases h2
  · simp only [Value.slice.injEq, Option.some.injEq, Addr.mk.injEq, and_true] at hv
    obtain ⟨rfl, rfl, rfl⟩ := hv
    exact ⟨rfl, hb, hnc, by simpa [maxLen] using hcm, cur, hh, by simpa using hsz, by simpa using ht⟩
theorem Own.set {w : World} {e : TypeId} {B g n c : Nat} {l : List Int} (h : Own w e B (.slice (some ⟨g, 0, none⟩) n c) l) (i : Nat) (hi : i < n) (x : Int) (x0 : 0 ≤ x) (x1 : x < 256) :
    Own (w.setCell ⟨g, i, none⟩ (.int .u8 x)) e B (.slice (some ⟨g, 0, none⟩) n c) (l.set i x) := by
  obtain ⟨rfl, hb, hnc, hcm, cur, hh, hsz, ht⟩ := h.blk
  refine ⟨⟨by simp [nums], .inr ⟨g, c, cur.setIfInBounds i (.int .u8 x), by simp, hb, hh.set i _, by simpa using hnc, by simpa [maxLen] using hcm, by simpa using hsz, ?_⟩⟩, ?_⟩
  · rw [Array.toList_setIfInBounds, List.length_set, Nat.mul_one, List.take_set, ht]
    simp [nums, List.map_set]
  · intro y hy
    rcases List.mem_or_eq_of_mem_set hy with h1 | rfl
    · exact h.byt y h1
    · exact ⟨x0, x1⟩
theorem u32_low31 (x : Int) (h0 : 0 ≤ x) (h1 : x < 4294967296) : bits .and .u32 x 2147483647 = x % 2147483648 := by
  rw [u32_and x 2147483647 h0 h1 (by omega) (by omega)]
  have e : x.toNat &&& (2147483647 : Int).toNat = x.toNat % 2147483648 := Nat.and_two_pow_sub_one_eq_mod x.toNat 31
  rw [e]; omega
theorem u8_or128 (x : Int) (h0 : 0 ≤ x) (h1 : x < 128) : bits .or .u8 x 128 = x + 128 := by
  rw [u8_or _ 128 (by omega) (by omega) (by omega) (by omega), Nat.or_comm]
  have e2 : (128 : Int).toNat ||| x.toNat = 128 + x.toNat := nat_join 7 128 _ (by decide) (by omega)
  rw [e2]; omega

structure WRel (w : World) (v : Int) (A : Option Addr) (n c : Nat) (l : List Int) (wr : World) : Prop where
  own : Own wr 5 w.heap.size (.slice A n c) l
  rd : Rd wr A n c l
  wd : Wide v l
  le : l.length ≤ 10
  kp : Kp no w wr

set_option maxHeartbeats 4000000 in
theorem fnKeyWide_calls {w : World} {A : Option Addr} {n c : Nat} {l : List Int} (k g : Int) (h : Rd w A n c l) (hk : 0 ≤ k ∧ k < 4294967296) (hg : 0 ≤ g ∧ g < 256) (hE : KErrs w) :
    Calls Tryd.prog 7 #[.int .u32 k, .slice A n c, .int .u8 g] w (LawOk w) := by
  have DL := Lib.hid (keysLive_calls hE)
  obtain rfl := h.len
  have hmax := h.max
  have hcap := h.cap
  by_cases hbig : 2147483647 < (l.length : Int)
  · clear h
    go_enter Tryd.func7, Tryd.ntmps7
    go_wp2
    go_ret
    exact ⟨rfl, Kp.refl _ _⟩
  by_cases hmid : 300 < (l.length : Int)
  · clear h
    go_enter Tryd.func7, Tryd.ntmps7
    go_wp2_with (first | (go_at_call 19; refine DL.out.mono ?_; rintro e w2 ⟨rfl, hk2⟩))
    go_ret
    exact ⟨rfl, hk2⟩
  have e1 := u32_low31 k hk.1 hk.2
  have e2 : IntKind.u64.wrap (k % 2147483648) = k % 2147483648 := IntWalk.u64_in _ (by omega)
  have e3 : IntKind.i32.wrap (k % 2147483648) = k % 2147483648 := by rw [IntKind.wrap_i32]; omega
  have v0 : 0 ≤ k % 2147483648 := by omega
  have v1 : k % 2147483648 < 2147483648 := by omega
  have D1 := Lib.hid (sWireNumber_calls (w := w) (k % 2147483648) v0 (by omega))
  go_enter Tryd.func7, Tryd.ntmps7
  go_wp2_with (fail)
  refine D1.out.mono ?_
  rintro e w1 ⟨A1, c1, rfl, M1⟩
  have HI : WRel w (k % 2147483648) A1 _ c1 _ w1 := ⟨M1.own, M1.rd, Wide.start _ v0 v1, (vint_len _).2, M1.kp⟩
  go_wp2
  go_loopw [7] (fun b wr => ∃ A' n' c' l', b = .slice A' n' c' ∧ WRel w (k % 2147483648) A' n' c' l' wr) (fun b _ => 10 - lenOf b)
  case atStart => exact ⟨A1, _, c1, _, rfl, HI⟩
  case round =>
    obtain ⟨A', n', c', l', rfl, hO, hR, hW, hle, hkr⟩ := hrel
    have hn := hR.len
    have hpl : 1 ≤ n' := by
      obtain ⟨⟨xs, x0, e, _⟩, _⟩ := hW
      rw [← hn, e, List.length_append]; simp
    by_cases hlt : (n' : Int) < 1 + g % 10
    · have hn10 : n' < 10 := by omega
      have hA : ∃ G, A' = some ⟨G, 0, none⟩ := by
        rcases hO.row.2 with ⟨hv, h0⟩ | ⟨G, cap, cur, hv, _⟩
        · exact absurd h0 (by omega)
        · injection hv with h1 _ _; exact ⟨G, h1⟩
      obtain ⟨G, rfl⟩ := hA
      obtain ⟨xs, x0, hl', x00, x01, hW2⟩ := hW.more (by omega)
      subst hl'
      have hnn : n' = xs.length + 1 := by rw [← hn]; simp
      have hcell : wr.cell? ⟨G, xs.length, none⟩ = some (.int .u8 x0) := by
        obtain ⟨g', o', e', hc⟩ := hR.at_ (by omega)
        cases e'
        have := hc xs.length (by omega)
        rw [Nat.zero_add] at this
        rw [this]; simp [List.getD_eq_getElem?_getD]
      obtain ⟨_, hGB, hnc, hcm, cur, hblk, _, _⟩ := hO.blk
      have hfree := hblk.free xs.length
      have e5 := u8_or128 x0 x00 x01
      have hOs := hO.set xs.length (by omega) (x0 + 128) (by omega) (by omega)
      have hset : (xs ++ [x0]).set xs.length (x0 + 128) = xs ++ [x0 + 128] := by simp
      rw [hset] at hOs
      have kA : Kp no w (wr.setCell ⟨G, xs.length, none⟩ (.int .u8 (x0 + 128))) := hkr.setCell (p := ⟨G, xs.length, none⟩) (fun h => by have h : G < w.heap.size := h; omega) _
      have kB : Kp no (wr.setCell ⟨G, xs.length, none⟩ (.int .u8 (x0 + 128))) ((wr.setCell ⟨G, xs.length, none⟩ (.int .u8 (x0 + 128))).alloc (.cells (nums .u8 [0]).toArray 5)) := (Kp.refl _ _).alloc _
      have HO2 := hOs.keepN kB
      have R0 := Rd.lit (wr.setCell ⟨G, xs.length, none⟩ (.int .u8 (x0 + 128))) 5 [0] (Byt.one (by omega) (by omega)) (by simp)
      have hszW : (wr.setCell ⟨G, xs.length, none⟩ (.int .u8 (x0 + 128))).heap.size = wr.heap.size := by simp [World.setCell]
      rw [hszW] at R0
      have hws := hkr.size
      have hW3 : Wide (k % 2147483648) ((xs ++ [x0 + 128]) ++ [0]) := by simpa using hW2
      clear hO hR hW hW2 hOs hset hn
      go_wp2_with (first | (at_builtin; refine own_append w.heap.size rfl (.tmp 38) (.tmp 39) 24 5 rfl Tryd.und_bytes Tryd.info_byte (.slice (some ⟨G, 0, none⟩) n' c') (xs ++ [x0 + 128]) [0] (some ⟨wr.heap.size, 0, none⟩) 1 1 rfl rfl HO2 R0 (by simp [World.setCell]; omega) (by simp; omega) ?_; intro v1 w3 hO3 hk3 hw3 hn3; have hkW := (kA.then kB).own HO2 (Nat.le_refl _) hk3; obtain ⟨A9, c9, rfl, hR9, _, _⟩ := hO3.rd))
      go_roundw
      case rel =>
        have hl9 : ((xs ++ [x0 + 128]) ++ [0]).length = xs.length + 2 := by simp
        rw [hl9] at hO3 hR9
        exact ⟨A9, _, c9, _, rfl, ⟨hO3, hR9, hW3, by simp; omega, hkW⟩⟩
      case measure => simp [lenOf]; omega
    · obtain rfl := hn
      have k1 : Kp no wr (wr.alloc (.cells (nums .u8 [8]).toArray 5)) := (Kp.refl _ _).alloc _
      have R1 := Rd.lit wr 5 [8] (Byt.one (by omega) (by omega)) (by simp)
      have D2 := Lib.hid (keyField_calls (h.keepN (hkr.then k1)) (by omega) 2 (by omega) (by omega))
      rw [other_wb 2 l (by omega)] at D2
      go_wp2_with (fail)
      refine D2.out.mono ?_
      rintro e w2 ⟨A2, c2, rfl, M2⟩
      have k2 := (hkr.then k1).then M2.kp
      obtain ⟨Z, hZ0⟩ : ∃ Z, Z = [8] ++ l' ++ wb 2 l := ⟨_, rfl⟩
      have hZ := Lib.hid hZ0
      have hZl : Z.length ≤ 400 := by
        have := wb_len 2 l; have := (vint_len l.length).2
        rw [hZ0]; simp only [List.length_append, List.length_cons, List.length_nil]; omega
      have hZf : ([[8], l', wb 2 l] : List (List Int)).flatten = Z := by rw [hZ0]; simp
      have hZs : ([[8], l', wb 2 l] : List (List Int)).flatten.length ≤ 1099511627776 := by rw [hZf]; omega
      clear hZ0
      have D3 := Lib.hid (Concat_to (l := Z) (RdS.lit w2 24 [⟨some ⟨wr.heap.size, 0, none⟩, 1, 1, [8]⟩, ⟨A', _, c', l'⟩, ⟨A2, _, c2, wb 2 l⟩] (by
        intro s hs
        simp only [List.mem_cons, List.not_mem_nil, or_false] at hs
        rcases hs with rfl | rfl | rfl
        · exact R1.keepN M2.kp
        · exact hR.keepN (k1.then M2.kp)
        · exact M2.rd) (by simp)) hZs hZf)
      clear hZs hZf
      go_wp2_with (fail)
      refine D3.out.mono ?_
      rintro e w3 ⟨A3, c3, rfl, M3⟩
      have k3 : Kp no w w3 := (k2.alloc _).then M3.kp
      have D4 := Lib.hid (KeyOf_calls M3.rd (by omega) (hE.keepN k3))
      go_wp2_with (fail)
      refine D4.out.mono ?_
      rintro e w7 ⟨hk7, k', A7, c7, d, ok, rfl, R7, r0', r1', hK⟩
      rw [hZ.out] at hK
      obtain ⟨rfl, rfl, rfl⟩ := KRes_wide hK hW v0 v1 h.byt (by omega)
      have k7 := k3.then hk7
      have D8 := Lib.hid (Equal_same R7 (h.keepN k7))
      have DL7 := Lib.hid (keysLive_calls (hE.keepN k7))
      go_wp2_with (fail)
      refine D8.out.mono ?_
      rintro e w8 ⟨rfl, rfl⟩
      go_wp2_with (first | (go_at_call 19; refine DL7.out.mono ?_; rintro e w9 ⟨rfl, hk9⟩))
      go_ret
      exact ⟨rfl, k7.then hk9⟩
end Go.Proofs.YtipleaojejbkpaaDoor
