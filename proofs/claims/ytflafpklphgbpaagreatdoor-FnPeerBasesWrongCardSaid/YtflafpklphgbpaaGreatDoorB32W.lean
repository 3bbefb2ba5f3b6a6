/- (*base32.Encoding).decode: the letters of a row, turned in place. -/
import Derived.Test.YtflafpklphgbpaaGreatDoorB32T7
import Derived.Test.YtflafpklphgbpaaGreatDoorB32T5
import Derived.Test.YtflafpklphgbpaaGreatDoorB32T4
import Derived.Test.YtflafpklphgbpaaGreatDoorB32T2
namespace Go.Proofs.YtflafpklphgbpaaGreatDoor
open Go Go.RowKit

theorem b32decode_calls {w : World} {g gE c c2 : Nat} {D LT T : List Int} {s : ByteArray} {C : Array Value} (hL : Let32 T D LT) (hb : Blk w gE C 151) (hC : EncC C s T (-1)) (hgE : gE ≠ g) (hr : RowM w g LT)
    (h1 : 1 ≤ D.length) (hn : D.length ≤ 1000) (hT : Tl32 D.length) (hc : D.length ≤ c) (hc2 : D.length ≤ c2) (hcm : c ≤ 9223372036854775807) (hcm2 : c2 ≤ 9223372036854775807) :
    Calls Tryz.prog 95 #[.pointer (some ⟨gE, 0, none⟩), .slice (some ⟨g, 0, none⟩) D.length c, .slice (some ⟨g, 0, none⟩) D.length c2] w
      fun e w' => e = .returned (.tuple #[.int .i64 ((d32 D).length : Nat), .bool false, Value.nilIface]) ∧ (∃ L, L.length = LT.length ∧ L.take (d32 D).length = d32 D ∧ RowM w' g L) ∧ Kp (· = g) w w' := by
  have h := hT
  unfold Tl32 at h
  by_cases h7 : D.length % 8 = 0 ∨ D.length % 8 = 7
  · exact b32decode_7 hL hb hC hgE hr h1 hn h7 hc hc2 hcm hcm2
  by_cases h5 : D.length % 8 = 0 ∨ D.length % 8 = 5
  · exact b32decode_5 hL hb hC hgE hr h1 hn h5 hc hc2 hcm hcm2
  by_cases h4 : D.length % 8 = 0 ∨ D.length % 8 = 4
  · exact b32decode_4 hL hb hC hgE hr h1 hn h4 hc hc2 hcm hcm2
  exact b32decode_2 hL hb hC hgE hr h1 hn (by omega) hc hc2 hcm hcm2
end Go.Proofs.YtflafpklphgbpaaGreatDoor
