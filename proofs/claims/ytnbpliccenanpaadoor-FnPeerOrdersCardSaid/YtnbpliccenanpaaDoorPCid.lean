/- impl.PeerCid. -/
import Derived.Test.YtnbpliccenanpaaDoorNewCid
import Derived.Test.YtnbpliccenanpaaDoorBytes
namespace Go.Proofs.YtnbpliccenanpaaDoor
open Go Go.RowKit
set_option linter.unusedVariables false
set_option linter.unusedSimpArgs false
set_option maxRecDepth 100000

theorem Defined_calls (w : World) (S : ByteArray) (hS : S ≠ ⟨#[]⟩) :
    Calls Tryd.prog 44 #[.agg #[.string S]] w fun e w' => e = .returned (.bool true) ∧ Kp no w w' := by
  have B0 := Blk.new w #[.string S] 62
  have c0 : (w.alloc (.cells #[.string S] 62)).cell? ⟨w.heap.size, 0, none⟩ = some (.string S) := B0.cell 0
  go_enter Tryd.func44, Tryd.ntmps44
  go_wp2
  go_ret
  have hS' : ¬ S.toList = [] := fun h => hS (ByteArray.ext (by rw [Lib.toList_data] at h; exact Array.toList_inj.1 (by simpa using h)))
  exact ⟨by simp [hS'], (Kp.refl _ _).alloc _⟩
theorem CidBytes_calls {w : World} {l : List Int} (hb : Byt l) (hn : l.length ≤ 1000000) (h0 : strOfNums l ≠ ⟨#[]⟩) :
    Calls Tryd.prog 45 #[.agg #[.string (strOfNums l)]] w fun e w' => ∃ A c, e = .returned (.slice A l.length c) ∧ Rd w' A l.length c l ∧ Kp no w w' := by
  have B0 := Blk.new w #[.string (strOfNums l)] 62
  have k0 : Kp no w (w.alloc (.cells #[.string (strOfNums l)] 62)) := (Kp.refl _ _).alloc _
  have D := Lib.hid (Defined_calls (w.alloc (.cells #[.string (strOfNums l)] 62)) _ h0)
  have c0 : (w.alloc (.cells #[.string (strOfNums l)] 62)).cell? ⟨w.heap.size, 0, none⟩ = some (.string (strOfNums l)) := B0.cell 0
  have SB := Lib.hid (fun W => str_bytes (w := W) hb (by omega : l.length ≤ 1099511627776) Tryd.und_string Tryd.und_bytes)
  clear h0
  generalize strOfNums l = S at *
  go_enter Tryd.func45, Tryd.ntmps45
  go_wp2_with (first | (go_at_call 44; refine D.out.mono ?_; rintro e w3 ⟨rfl, k3⟩; have c3 : w3.cell? ⟨w.heap.size, 0, none⟩ = some (.string S) := (B0.keepN k3).cell 0; obtain ⟨c4, w4, hcv, R4, k4, _⟩ := SB.out w3))
  go_ret
  exact ⟨_, c4, rfl, R4, (k0.then k3).then k4⟩
theorem strOf_ne (x : Int) (l : List Int) : strOfNums (x :: l) ≠ ⟨#[]⟩ := fun h => by
  have h1 := congrArg (fun s => s.data.toList) h
  rw [strOfNums_data] at h1
  simp at h1
theorem PeerCid_calls {w : World} {A : Option Addr} {n c : Nat} {l : List Int} (h : Rd w A n c l) (hE : MErrs w) (hn : n ≤ 100000) (hm : IsMH l) :
    Calls Tryd.prog 25 #[.slice A n c] w (Made w (1 :: 114 :: l)) := by
  obtain rfl := h.len
  have hcv := h.strT Tryd.und_bytes Tryd.und_ID
  have hbt : Byt (1 :: 114 :: l) := fun x hx => by
    simp only [List.mem_cons] at hx
    rcases hx with rfl | rfl | hx
    · omega
    · omega
    · exact h.byt x hx
  have D1 := Lib.hid (ToCid_calls h.byt hE hn hm)
  obtain ⟨L, hL⟩ : ∃ L, L = 1 :: 114 :: l := ⟨_, rfl⟩
  have hll : L.length ≤ 1000000 := by rw [hL]; simp; omega
  have hne : strOfNums L ≠ ⟨#[]⟩ := by rw [hL]; exact strOf_ne _ _
  have D2 := fun W => Lib.hid (Defined_calls W _ hne)
  rw [← hL] at D1 hbt ⊢
  have D3 := fun W => Lib.hid (CidBytes_calls (w := W) hbt hll hne)
  clear hL hne
  generalize strOfNums l = T at *
  generalize strOfNums L = S at *
  go_enter Tryd.func25, Tryd.ntmps25
  go_wp2_with (first
    | (go_at_call 43; refine D1.out.mono ?_; rintro e w1 ⟨rfl, k1⟩; have B1 := Blk.new w1 #[.string S] 62; have K1 : Kp no w (w1.alloc (.cells #[.string S] 62)) := k1.alloc _; have c1 := B1.cell 0)
    | (go_at_call 44; refine (D2 _).out.mono ?_; rintro e w3 ⟨rfl, k3⟩; have c3 := (B1.keepN k3).cell 0)
    | (go_at_call 45; refine (D3 _).out.mono ?_; rintro e w4 ⟨A4, c4, rfl, R4, k4⟩; have D4 := Lib.hid (Clone_calls R4 (by omega)))
    | (go_at_call 13; refine D4.out.mono ?_; rintro e w5 ⟨A5, c5, rfl, M5⟩))
  go_ret
  have K := ((K1.then k3).then k4)
  exact ⟨A5, c5, rfl, ⟨M5.own.lower K.size, M5.rd, K.then M5.kp⟩⟩
end Go.Proofs.YtnbpliccenanpaaDoor
