/- The reference's PeerHash. -/
import Derived.Test.YtflafpklphgbpaaGreatDoorPeer
import Derived.Test.YtflafpklphgbpaaGreatDoorNuA
namespace Go.Proofs.YtflafpklphgbpaaGreatDoor
open Go Go.RowKit
set_option linter.unusedVariables false
set_option linter.unusedSimpArgs false
set_option maxRecDepth 100000

/-- What PeerHash tells. -/
def PHO (l : List Int) (ok opn : Bool) : Prop := opn = false → (ok = true ↔ IsMH l)
theorem PHO.open_ {l : List Int} {ok : Bool} : PHO l ok true := fun h => by cases h
theorem PHO.none1 {l : List Int} {b : Bool} (h : rv 10 l = none) : PHO l false b := fun _ => by
  refine ⟨(fun h => by cases h), fun ⟨c, hc⟩ => ?_⟩
  rw [MH_none1 (by unfold FU; rw [h])] at hc; cases hc
theorem PHO.none2 {l : List Int} {b : Bool} {code n : Int} (h : rv 10 l = some (code, n)) (h2 : rv 10 (l.drop n.toNat) = none) : PHO l false b := fun _ => by
  refine ⟨(fun h => by cases h), fun ⟨c, hc⟩ => ?_⟩
  cases hf : FU l with
  | none => rw [MH_none1 hf] at hc; cases hc
  | some p =>
    obtain ⟨v, k⟩ := p
    have hs := hf
    unfold FU at hs
    rw [h] at hs
    simp only at hs
    split at hs
    · injection hs with hs; injection hs with h3 h4
      subst h3 h4
      rw [MH_none2 hf (by unfold FU; rw [h2])] at hc; cases hc
    · cases hs
theorem PHO.told {l : List Int} {code n long m : Int} (h : rv 10 l = some (code, n)) (h2 : rv 10 (l.drop n.toNat) = some (long, m)) (hn : n = ((vint code).length : Int)) (hm : m = ((vint long).length : Int)) (hn9 : n ≤ 9) (hm9 : m ≤ 9) (hll : l.length ≤ 2147483647)
    (hn0 : 0 ≤ n) (hm0 : 0 ≤ m) : PHO l (decide (long = (l.length : Int) - n - m)) false := fun _ => by
  have f1 : FU l = some (code, n) := by unfold FU; rw [h]; simp only; rw [if_pos ⟨hn9, hn⟩]
  have f2 : FU (l.drop n.toNat) = some (long, m) := by unfold FU; rw [h2]; simp only; rw [if_pos ⟨hm9, hm⟩]
  have hM := MH_if f1 f2
  rw [decide_eq_true_iff]
  constructor
  · intro he
    rw [if_pos (by omega)] at hM
    exact ⟨code, by rw [hM]; congr 2; omega⟩
  · rintro ⟨c, hc⟩
    rw [hM] at hc
    split at hc
    · injection hc with hc; injection hc with _ hc; omega
    · cases hc

end Go.Proofs.YtflafpklphgbpaaGreatDoor
