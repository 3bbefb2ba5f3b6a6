/- FnPeerCutText walked. -/
import Derived.Test.YtflafpklphgbpaaGreatDoorMade
import Derived.Test.YtflafpklphgbpaaGreatDoorPeer
import Derived.Test.YtflafpklphgbpaaGreatDoorPDec
namespace Go.Proofs.YtflafpklphgbpaaGreatDoor
open Go Go.RowKit
set_option linter.unusedVariables false
set_option linter.unusedSimpArgs false
set_option maxRecDepth 100000

theorem PM.beg {k : Int} {l : List Int} (h : PM (k % 3) l) (h0 : 0 ≤ k) : Beg (text58 l) := by
  rcases h with ⟨_, S, hS, hb, rfl⟩ | ⟨_, S, hS, hb, rfl⟩ | ⟨h3, S, hS, hb, rfl⟩
  · obtain ⟨T, hT⟩ := text_sha hS hb
    exact .inl ⟨T, hT⟩
  · obtain ⟨T, hT⟩ := text_inl (S.length : Int) S
    exact .inr ⟨T, hT⟩
  · omega
theorem Beg.take {T : List Int} (h : Beg T) {j : Nat} (hj : 2 ≤ j) : Beg (T.take j) := by
  obtain ⟨j, rfl⟩ : ∃ i, j = i + 2 := ⟨j - 2, by omega⟩
  rcases h with ⟨r, rfl⟩ | ⟨r, rfl⟩
  · exact .inl ⟨r.take j, by simp⟩
  · exact .inr ⟨r.take (j + 1), by simp⟩
theorem tdig_len {l : List Int} (hb : Byt l) (hn : l.length ≤ 100) : (tdig l).length ≤ 300 := by
  have h1 := zs_le l
  have h2 := dig58_len hb (by omega)
  unfold tdig
  simp only [List.length_append, List.length_replicate]
  omega
theorem decode_cut {w : World} {l : List Int} (hb : Byt l) (hn : l.length ≤ 100) (hg : Beg (text58 l)) {j : Nat} (h2 : 2 ≤ j) (hj : j < (text58 l).length) (hQ : QErrs w) :
    Calls Tryz.prog 6 #[.string ((strOfNums (text58 l)).extract 0 j)] w (BytOr w (fun x => x ≠ l)) := by
  have ht := text58_tdig l
  have hl := tdig_len hb hn
  have htl : (text58 l).length = (tdig l).length := by rw [ht]; simp
  rw [str_take _ j (by omega)]
  have e : (text58 l).take j = ((tdig l).take j).map sign := by rw [ht, List.map_take]
  refine pdecode_of (peerDec58 ((text58_byt l).take j) (hg.take h2) (by rw [List.length_take]; omega) _ (fun W k => ?_))
  rw [e]
  refine (from58_yes ((tdig_ok hb).take j) (by rw [List.length_take]; omega) (by rw [List.length_take]; omega) (hQ.keepN k)).mono ?_
  rintro e w' ⟨hk, ⟨A, n, c, he, hR⟩ | h⟩
  · exact ⟨hk, .inl ⟨A, n, c, _, cut_other hb (by omega), by have := decB_len 58 ((tdig l).take j); rw [List.length_take] at this; omega, he, hR⟩⟩
  · exact ⟨hk, .inr h⟩

end Go.Proofs.YtflafpklphgbpaaGreatDoor
