/- The reference's numbers and fields as they are written: wireVarint, wireBytes, KeyBytes. -/
import Derived.Test.YtnbpliccenanpaaDoorConcat
namespace Go.Proofs.YtnbpliccenanpaaDoor
open Go Go.RowKit
set_option linter.unusedVariables false
set_option linter.unusedSimpArgs false
set_option maxRecDepth 100000

/-- A slice that is read, as a row of a list of them. -/
structure Sl where
  A : Option Addr
  n : Nat
  c : Nat
  l : List Int
def Sl.v (s : Sl) : Value := .slice s.A s.n s.c
theorem RdS.lit (W : World) (e : TypeId) (ss : List Sl) (h : ∀ s ∈ ss, Rd W s.A s.n s.c s.l) (hm : ss.length ≤ 9223372036854775807) :
    RdS (W.alloc (.cells (ss.map Sl.v).toArray e)) (some ⟨W.heap.size, 0, none⟩) ss.length ss.length (ss.map (·.l)) := by
  refine ⟨by simp, Nat.le_refl _, hm, fun hp => ⟨W.heap.size, 0, rfl, fun j hj => ?_⟩⟩
  have hs := h ss[j] (List.getElem_mem hj)
  refine ⟨ss[j].A, ss[j].c, ?_, ?_⟩
  · rw [Nat.zero_add, (Blk.new W (ss.map Sl.v).toArray e).cell j]
    simp [List.getD_eq_getElem?_getD, List.getElem?_eq_getElem hj, Sl.v, hs.len]
  · have := hs.keepN ((Kp.refl no W).alloc (.cells (ss.map Sl.v).toArray e))
    simpa [List.getD_eq_getElem?_getD, List.getElem?_eq_getElem hj, hs.len] using this

theorem Concat_to {w : World} {A : Option Addr} {n c : Nat} {L : List (List Int)} {l : List Int} (h : RdS w A n c L) (hs : L.flatten.length ≤ 1099511627776) (hl : L.flatten = l) :
    Calls Tryd.prog 36 #[.slice A n c] w (Made w l) := hl ▸ Concat_calls h hs
theorem MadeAt.up {w w2 w3 : World} {A : Option Addr} {c : Nat} {l : List Int} (h : MadeAt w2 w3 A c l) (k : Kp no w w2) : MadeAt w w3 A c l :=
  ⟨h.own.lower k.size, h.rd, k.then h.kp⟩

theorem u8_low (x : Int) (h0 : 0 ≤ x) (h1 : x < 18446744073709551616) : bits .or .u8 (x % 256) 128 = x % 128 + 128 := by
  rw [u8_or _ 128 (by omega) (by omega) (by omega) (by omega)]
  have e : (x % 256).toNat = (x % 256).toNat / 128 * 128 + (x % 128).toNat := by omega
  rcases (show (x % 256).toNat / 128 = 0 ∨ (x % 256).toNat / 128 = 1 from by omega) with h | h
  · rw [h] at e
    rw [e, Nat.zero_mul, Nat.zero_add, Nat.or_comm]
    have e2 : (128 : Int).toNat ||| (x % 128).toNat = 128 + (x % 128).toNat := nat_join 7 128 _ (by decide) (by omega)
    rw [e2]; omega
  · rw [h] at e
    have e2 : 128 ||| (x % 128).toNat = 128 + (x % 128).toNat := nat_join 7 128 _ (by decide) (by omega)
    rw [e, Nat.one_mul, ← e2, Nat.or_comm, ← Nat.or_assoc]
    show (((128 ||| 128 ||| (x % 128).toNat : Nat)) : Int) = _
    rw [Nat.or_self, e2]; omega

set_option maxHeartbeats 1000000 in
theorem sVarint_calls {w : World} (v : Int) (h0 : 0 ≤ v) (h1 : v < 18446744073709551616) :
    Calls Tryd.prog 32 #[.int .u64 v] w (Made w (vint v)) := by
  go_enter Tryd.func32, Tryd.ntmps32
  go_wp2
  go_loopw [0, 3] (fun n u wr => ∃ (x : Int) (k : Nat) (d : List Int), n = .int .u64 x ∧ 0 ≤ x ∧ x < 18446744073709551616 ∧ Hid (x < 2 * 128 ^ k) ∧ Hid (vint v = d ++ vi k x) ∧ Own wr 5 w.heap.size u d ∧ Kp no w wr) (fun n _ _ => (intOf n).toNat)
  case atStart => exact ⟨v, 9, [], rfl, h0, h1, (by show v < 2 * 128 ^ 9; omega), vint_eq v, Own.nil _ _ _, Kp.refl _ _⟩
  case round =>
    obtain ⟨x, k, d, rfl, x0, x1, hk, hd, hO, hkr⟩ := hrel
    have hdl : d.length ≤ 10 := by
      have := vint_len v
      rw [hd.out, List.length_append] at this
      omega
    have hB := hkr.size
    by_cases hx : 128 ≤ x
    · obtain ⟨k, rfl⟩ : ∃ k', k = k' + 1 := by
        cases k with
        | zero => exact absurd hk.out (by simp; omega)
        | succ k => exact ⟨k, rfl⟩
      have hk' : x / 128 < 2 * 128 ^ k := by
        have := hk.out
        rw [Int.pow_succ] at this
        omega
      have hd' : vint v = (d ++ [x % 128 + 128]) ++ vi k (x / 128) := by
        rw [hd.out, vi, if_neg (by omega)]; simp
      have HK := Lib.hid hk'
      have HD := Lib.hid hd'
      have e1 := u8_low x x0 x1
      have e2 := IntKind.wrap_u8 x
      have HR := Rd.lit wr 5 [x % 128 + 128] (Byt.one (by omega) (by omega)) (by simp)
      have hka : Kp no wr (wr.alloc (.cells (nums .u8 [x % 128 + 128]).toArray 5)) := (Kp.refl _ _).alloc _
      have HO := hO.keepN hka
      clear hk' hd'
      go_wp2_with (first | (at_builtin; refine own_append w.heap.size rfl (.tmp 8) (.tmp 12) 22 5 rfl Tryd.und_bytes Tryd.info_byte u3 d [x % 128 + 128] (some ⟨wr.heap.size, 0, none⟩) 1 1 rfl rfl HO HR (by simp; omega) (by omega) ?_; intro v2 w2 hO2 hk2 _ _))
      go_roundw
      case rel => exact ⟨x / 128, k, _, rfl, by omega, by omega, HK.out, HD.out, hO2, (hkr.then hka).own HO (Nat.le_refl _) hk2⟩
      case measure => simp [intOf]; omega
    · have hd' : vint v = d ++ [x] := by
        rw [hd.out]
        cases k with
        | zero => simp [vi]
        | succ k => rw [vi, if_pos (by omega)]
      have HD := Lib.hid hd'
      clear hd'
      have e2 : IntKind.u8.wrap x = x := IntWalk.u8_in _ (by omega)
      have HR := Rd.lit wr 5 [x] (Byt.one (by omega) (by omega)) (by simp)
      have hka : Kp no wr (wr.alloc (.cells (nums .u8 [x]).toArray 5)) := (Kp.refl _ _).alloc _
      have HO := hO.keepN hka
      go_wp2_with (first | (at_builtin; refine own_append w.heap.size rfl (.tmp 14) (.tmp 17) 22 5 rfl Tryd.und_bytes Tryd.info_byte u3 d [x] (some ⟨wr.heap.size, 0, none⟩) 1 1 rfl rfl HO HR (by simp; omega) (by omega) ?_; intro v2 w2 hO2 hk2 _ _))
      go_ret
      exact Made.of (by rw [HD.out]; exact hO2) ((hkr.then hka).own HO (Nat.le_refl _) hk2)

/-- A field of bytes, as it is written. -/
def wb (f : Int) (l : List Int) : List Int := [f * 8 + 2] ++ vint l.length ++ l
theorem wb_byt {f : Int} {l : List Int} (h0 : 0 ≤ f) (h1 : f ≤ 30) (hl : Byt l) (hn : l.length ≤ 1099511627776) : Byt (wb f l) :=
  ((Byt.one (by omega) (by omega)).app (vint_byt _ (by omega) (by omega))).app hl



/-- A kind as it stands in a message: a number of 64 bits. -/
def ku (k : Int) : Int := if k < 0 then k + 18446744073709551616 else k
theorem ku_range (k : Int) (h0 : -2147483648 ≤ k) (h1 : k ≤ 2147483647) : 0 ≤ ku k ∧ ku k < 18446744073709551616 := by unfold ku; split <;> omega
/-- A key's message. -/
def kb (k : Int) (l : List Int) : List Int := [8] ++ vint (ku k) ++ wb 2 l
end Go.Proofs.YtnbpliccenanpaaDoor
