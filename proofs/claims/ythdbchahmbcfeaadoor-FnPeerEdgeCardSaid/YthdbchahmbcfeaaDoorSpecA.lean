/- The reference's numbers and fields as they are written: wireVarint, wireBytes, KeyBytes. -/
import Derived.Test.YthdbchahmbcfeaaDoorConcat
namespace Go.Proofs.YthdbchahmbcfeaaDoor
open Go Go.RowKit
set_option linter.unusedVariables false
set_option linter.unusedSimpArgs false
set_option maxRecDepth 100000

/-- A slice that is read, as a row of a list of them. -/
structure Sl where
  A : Option Addr
  n : Nat
  c : Nat
  l : List Int
def Sl.v (s : Sl) : Value := .slice s.A s.n s.c
theorem RdS.lit (W : World) (e : TypeId) (ss : List Sl) (h : ∀ s ∈ ss, Rd W s.A s.n s.c s.l) (hm : ss.length ≤ 9223372036854775807) :
    RdS (W.alloc (.cells (ss.map Sl.v).toArray e)) (some ⟨W.heap.size, 0, none⟩) ss.length ss.length (ss.map (·.l)) := by
  refine ⟨by simp, Nat.le_refl _, hm, fun hp => ⟨W.heap.size, 0, rfl, fun j hj => ?_⟩⟩
  have hs := h ss[j] (List.getElem_mem hj)
  refine ⟨ss[j].A, ss[j].c, ?_, ?_⟩
  · rw [Nat.zero_add, (Blk.new W (ss.map Sl.v).toArray e).cell j]
    simp [List.getD_eq_getElem?_getD, List.getElem?_eq_getElem hj, Sl.v, hs.len]
  · have := hs.keepN ((Kp.refl no W).alloc (.cells (ss.map Sl.v).toArray e))
    simpa [List.getD_eq_getElem?_getD, List.getElem?_eq_getElem hj, hs.len] using this

theorem MadeAt.up {w w2 w3 : World} {A : Option Addr} {c : Nat} {l : List Int} (h : MadeAt w2 w3 A c l) (k : Kp no w w2) : MadeAt w w3 A c l :=
  ⟨h.own.lower k.size, h.rd, k.then h.kp⟩

theorem u8_low (x : Int) (h0 : 0 ≤ x) (h1 : x < 18446744073709551616) : bits .or .u8 (x % 256) 128 = x % 128 + 128 := by
  rw [u8_or _ 128 (by omega) (by omega) (by omega) (by omega)]
  have e : (x % 256).toNat = (x % 256).toNat / 128 * 128 + (x % 128).toNat := by omega
  rcases (show (x % 256).toNat / 128 = 0 ∨ (x % 256).toNat / 128 = 1 from by omega) with h | h
  · rw [h] at e
    rw [e, Nat.zero_mul, Nat.zero_add, Nat.or_comm]
    have e2 : (128 : Int).toNat ||| (x % 128).toNat = 128 + (x % 128).toNat := nat_join 7 128 _ (by decide) (by omega)
    rw [e2]; omega
  · rw [h] at e
    have e2 : 128 ||| (x % 128).toNat = 128 + (x % 128).toNat := nat_join 7 128 _ (by decide) (by omega)
    rw [e, Nat.one_mul, ← e2, Nat.or_comm, ← Nat.or_assoc]
    show (((128 ||| 128 ||| (x % 128).toNat : Nat)) : Int) = _
    rw [Nat.or_self, e2]; omega

/-- A field of bytes, as it is written. -/
def wb (f : Int) (l : List Int) : List Int := [f * 8 + 2] ++ vint l.length ++ l
theorem wb_byt {f : Int} {l : List Int} (h0 : 0 ≤ f) (h1 : f ≤ 30) (hl : Byt l) (hn : l.length ≤ 1099511627776) : Byt (wb f l) :=
  ((Byt.one (by omega) (by omega)).app (vint_byt _ (by omega) (by omega))).app hl



/-- A kind as it stands in a message: a number of 64 bits. -/
def ku (k : Int) : Int := if k < 0 then k + 18446744073709551616 else k
theorem ku_range (k : Int) (h0 : -2147483648 ≤ k) (h1 : k ≤ 2147483647) : 0 ≤ ku k ∧ ku k < 18446744073709551616 := by unfold ku; split <;> omega
/-- A key's message. -/
def kb (k : Int) (l : List Int) : List Int := [8] ++ vint (ku k) ++ wb 2 l
end Go.Proofs.YthdbchahmbcfeaaDoor
