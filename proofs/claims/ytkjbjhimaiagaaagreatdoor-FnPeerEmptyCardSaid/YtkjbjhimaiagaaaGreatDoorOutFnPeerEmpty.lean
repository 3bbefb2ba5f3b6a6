/- FnPeerEmpty holds: for every input the law answers true, and its arguments read as before. The errors that package-level variables hold are as their initialisers lay them; the card ties that to the program's text. -/
import Derived.Test.YtkjbjhimaiagaaaGreatDoorEmpty
import Derived.Test.YtkjbjhimaiagaaaGreatDoorArg32
import Derived.Lay
import Derived.MakeChecks
import Derived.Lib.LaidTab
import Derived.Test.YtkjbjhimaiagaaaGreatDoorArg
import Derived.Test.YtkjbjhimaiagaaaGreatDoorRows
import Derived.Test.YtkjbjhimaiagaaaGreatDoorTie
import Derived.Test.YtkjbjhimaiagaaaGreatDoorCards
import Derived.SevenTiedAt
namespace Go.Proofs.YtkjbjhimaiagaaaGreatDoor
open Go Go.ChangeShapes Go.WideShapes Go.ChangeAt Go.RowKit
set_option linter.unusedVariables false
set_option maxRecDepth 100000

theorem fnPeerEmpty_lifted (os : Os) (started : os.Started) (H : Type) (enc : TypeId × Value → H) :
    ReturnsInHanded {} Tryz.checked os 6 .any (fun w args => (Rows.fnPeerEmptySpec.pre enc Tryz.prog Tryz.f6 [] false w args ∧ laidMetH Tryz.prog Rows.fnPeerEmptyRow.laid w) ∧ sizedMet enc Tryz.prog Tryz.f6 (OpenSpec.ofChange Rows.fnPeerEmptySpec) false w args)
      (Rows.fnPeerEmptySpec.post enc Tryz.prog Tryz.f6 false true false false) := by
  refine returnsInHanded_of_change_and (C := Tryz.checked) (X := fun w _ => laidMetH Tryz.prog Rows.fnPeerEmptyRow.laid w) (fun _ _ _ hh h => h.of_heap hh) ownKnobN started (by kernel_rfl) Tryz.func6
    (ChangeSpec.witness_shaped (enc := enc) (C := Tryz.checked) (os := os) (X := fun w _ => laidMetH Tryz.prog Rows.fnPeerEmptyRow.laid w) false (World.laidAll Tryz.prog os Rows.fnPeerEmptyRow.laid) #[.agg (Array.replicate 32 (.int .u8 0)), .int .u8 0] 8 (World.laidAll_os _ _ _) (World.shaped_of_ZipB (by kernel_rfl) (by kernel_rfl)) (by kernel_rfl) (by kernel_rfl) (by kernel_rfl) (by rw [MakeChecks.laidMetH_plain _ _ _ (by kernel_rfl)]; exact laidMet_laidAll _ (by kernel_rfl) (by kernel_rfl))) ?_
  intro W base args ds gs before hval0 hW hcnd hreach hL0 _
  have hval : ∀ (j : Nat) t v, Tryz.f6.params[j]? = some t → args[j]? = some v → Value.okWide Tryz.prog W .any base t v := hval0
  have hL : laidMet Tryz.prog Rows.fnPeerEmptyRow.laid W := by rw [← MakeChecks.laidMetH_plain _ _ _ (by kernel_rfl)]; exact hL0
  have e_ma := laid_is (n := "pub-symmory/pub/govarint.ErrOverflow") (g := 4) hL 6 rfl (by kernel_rfl) (by kernel_rfl)
  have e_mb := laid_is (n := "pub-symmory/pub/govarint.ErrUnderflow") (g := 6) hL 7 rfl (by kernel_rfl) (by kernel_rfl)
  have e_mc := laid_is (n := "pub-symmory/pub/govarint.ErrNotMinimal") (g := 5) hL 8 rfl (by kernel_rfl) (by kernel_rfl)
  have e_md := laid_is (n := "pub-symmory/pub/gomultihash.ErrTooShort") (g := 11) hL 12 rfl (by kernel_rfl) (by kernel_rfl)
  have e_nb := laid_is (n := "pub-symmory/pub/gocid.errCidTooShort") (g := 2) hL 16 rfl (by kernel_rfl) (by kernel_rfl)
  have e_na := laid_is (n := "pub-symmory/pub/libp2p/core/peer.ErrEmptyPeerID") (g := 0) hL 17 rfl (by kernel_rfl) (by kernel_rfl)
  have hME : MErrs W := ⟨e_ma.1, e_mb.1, e_mc.1, e_md.1⟩
  have hNE : NErrs W := ⟨e_na.1, e_nb.1⟩
  have hW' := hW
  obtain ⟨p, q, hA0, hV, rfl, hfz, hnd⟩ := hW
  have hA : DataW.TrodAll enc Tryz.prog W 0 (fun _ => true) true Tryz.f6.params.toList args.toList ds p := hA0
  rw [Tryz.params6] at hA hval
  obtain ⟨v0, vs0, d0, ds0, p0, q0, hargs, rfl, rfl, h0, r0⟩ := trodAll_cons hA
  obtain ⟨v1, vs1, d1, ds1, p1, q1, rfl, rfl, rfl, h1, r1⟩ := trodAll_cons r0
  obtain ⟨rfl, rfl, rfl⟩ := trodAll_nil r1
  obtain rfl : args = #[v0, v1] := by cases args; simp_all
  obtain ⟨rfl, rfl⟩ := trodVars_none hV
  have k0 := h0
  have lt0 : ∀ x ∈ p0, x.block < W.heap.size := by obtain ⟨m, hm⟩ := k0; exact DataW.trod_lt m _ _ _ hm
  obtain ⟨H0, rfl, hl0, hb0⟩ := arr32_arg (hval 0 22 v0 rfl rfl)
  obtain ⟨a1, rfl, rfl, rfl, w1⟩ := open_int Tryz.underlying5 (hval 1 5 v1 rfl rfl) h1
  have b1 := wf_u8 w1
  clear hA0 hval0
  refine (fnPeerEmpty_calls H0 hl0 hb0 a1 b1 hME hNE).mono fun e W' ⟨he, hk⟩ => ?_
  subst he
  have bel := hk.below
  exact ⟨_, rfl, _, _, _, [], _, [], hW', trodAll_mk1 (shut_bool Tryz.underlying4 _), (trodAll_cons_mk (Below.trod laidOutN (by kernel_rfl) (of_decide_eq_true (by kernel_rfl)) k0 bel lt0) (trodAll_cons_mk (shut_int Tryz.underlying5 w1) trodAll_mk0)), rfl, bel.frame _, fun h => by cases h⟩

theorem fnPeerEmpty_row : Rows.FnPeerEmptySaid :=
  OpenClaim.holds_of_wide 6 Tryz.f6 rfl rfl rfl rfl rfl rfl rfl ⟨rfl, rfl, rfl, rfl, rfl⟩ rfl rfl rfl rfl rfl (by kernel_rfl) Tryz.func6 (by kernel_rfl)
    (of_decide_eq_true (by kernel_rfl)) (by unfold Func.isWrapper; first | (rw [if_pos (by decide +kernel)]; kernel_rfl) | (rw [if_neg (by decide +kernel)]; exact ⟨rfl, rfl⟩))
    (fun os started H enc _ => fnPeerEmpty_lifted os started H enc)

/-- The card. -/
theorem fnPeerEmpty_holds : Rows.FnPeerEmptyCardSaid :=
  Claim7.holds_tied_plain_at .later [] [.data, .data, .data, .data, .sentinel, .sentinel, .sentinel, .sentinel, .sentinel, .sentinel, .data, .sentinel, .sentinel, .sentinel, .sentinel, .sentinel, .sentinel, .sentinel, .pinned] true (true, "c99e14c89164fbefed6098ab746e38431bdbe56ab7288eeb7393138f90d5e6e8") true
    fnPeerEmpty_row (fun _ h => by cases h) (by kernel_rfl) (fun _ h => by cases h) fnPeerEmpty_row_tie rfl ⟨rfl, rfl⟩ (by kernel_rfl) rfl
    (fun f fn hf hfn => by
      obtain rfl : f = 6 := Option.some.inj ((show Tryz.prog.funcNamed "pub-symmory/laws.FnPeerEmpty" = some 6 by kernel_rfl).symm.trans hf) |>.symm
      obtain rfl : fn = Tryz.f6 := (Option.some.inj (Tryz.func6.symm.trans hfn)).symm
      exact ⟨by kernel_rfl, fun j t ht => by
        rw [Tryz.params6] at ht
        have hm : t ∈ [22, 5] := by simpa using Array.mem_of_getElem? ht
        have hall : ([22, 5].all fun u => !Tryz.prog.wantsStandIn u) = true := by kernel_rfl
        exact (show Tryz.prog.wantsStandIn t = false by simpa using List.all_eq_true.1 hall t hm)⟩)
    (by kernel_rfl)
#print axioms fnPeerEmpty_holds
end Go.Proofs.YtkjbjhimaiagaaaGreatDoor
