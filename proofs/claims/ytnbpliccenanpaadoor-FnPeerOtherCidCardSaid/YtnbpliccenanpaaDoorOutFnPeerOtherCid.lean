/- FnPeerOtherCid holds: for every input the law answers true, and its arguments read as before. The errors that package-level variables hold are as their initialisers lay them; the card ties that to the program's text. -/
import Derived.Test.YtnbpliccenanpaaDoorOther
import Derived.Test.YtnbpliccenanpaaDoorArg32
import Derived.Lib.LaidTab
import Derived.Test.YtnbpliccenanpaaDoorArg
import Derived.Test.YtnbpliccenanpaaDoorRows
import Derived.Test.YtnbpliccenanpaaDoorTie
import Derived.Test.YtnbpliccenanpaaDoorCards
import Derived.SevenTiedAt
namespace Go.Proofs.YtnbpliccenanpaaDoor
open Go Go.ChangeShapes Go.WideShapes Go.ChangeAt Go.RowKit
set_option linter.unusedVariables false
set_option maxRecDepth 100000

theorem fnPeerOtherCid_door (os : Os) (args : Array Value) : laidMetH Tryd.prog Rows.fnPeerOtherCidRow.laid ((World.doorLaid Tryd.prog 223 os).forCall (fun _ _ => 0) ⟨#[], args, []⟩).memory :=
  laidMetH_of_parts3 (fuel := 8) (laidMet_of_run' 8 (by kernel_rfl) (by kernel_rfl)) (by kernel_rfl) (by kernel_rfl)

theorem fnPeerOtherCid_lifted (os : Os) (started : os.Started) (H : Type) (enc : TypeId × Value → H) :
    ReturnsInHanded {} Tryd.checked os 6 .any (fun w args => (Rows.fnPeerOtherCidSpec.pre enc Tryd.prog Tryd.f6 [] false w args ∧ laidMetH Tryd.prog Rows.fnPeerOtherCidRow.laid w) ∧ sizedMet enc Tryd.prog Tryd.f6 (OpenSpec.ofChange Rows.fnPeerOtherCidSpec) false w args)
      (Rows.fnPeerOtherCidSpec.post enc Tryd.prog Tryd.f6 false true false false) := by
  refine returnsInHanded_of_change_and (C := Tryd.checked) (X := fun w _ => laidMetH Tryd.prog Rows.fnPeerOtherCidRow.laid w) (fun _ _ _ hh h => h.of_heap hh) ownKnobN started (by kernel_rfl) Tryd.func6
    (ChangeSpec.witness_shaped (enc := enc) (C := Tryd.checked) (os := os) (X := fun w _ => laidMetH Tryd.prog Rows.fnPeerOtherCidRow.laid w) false (World.doorLaid Tryd.prog 223 os) #[.agg (Array.replicate 32 (.int .u8 0)), .int .u8 0, .int .u8 0, .int .u8 0] 8 rfl (World.shaped_of_RefB (by kernel_rfl) (by kernel_rfl)) (by kernel_rfl) (by kernel_rfl) (by kernel_rfl) (fnPeerOtherCid_door os _)) ?_
  intro W base args ds gs before hval0 hW hcnd hreach hL0 _
  have hval : ∀ (j : Nat) t v, Tryd.f6.params[j]? = some t → args[j]? = some v → Value.okWide Tryd.prog W .any base t v := hval0
  have hL : laidMet Tryd.prog Rows.fnPeerOtherCidRow.laid W := hL0
  have e_ma := laid_is (n := "pub-symmory/pub/govarint.ErrOverflow") (g := 2) hL 0 rfl (by kernel_rfl) (by kernel_rfl)
  have e_mb := laid_is (n := "pub-symmory/pub/govarint.ErrUnderflow") (g := 4) hL 1 rfl (by kernel_rfl) (by kernel_rfl)
  have e_mc := laid_is (n := "pub-symmory/pub/govarint.ErrNotMinimal") (g := 3) hL 2 rfl (by kernel_rfl) (by kernel_rfl)
  have e_md := laid_is (n := "pub-symmory/pub/gomultihash.ErrTooShort") (g := 7) hL 3 rfl (by kernel_rfl) (by kernel_rfl)
  have hME : MErrs W := ⟨e_ma.1, e_mb.1, e_mc.1, e_md.1⟩
  have hW' := hW
  obtain ⟨p, q, hA0, hV, rfl, hfz, hnd⟩ := hW
  have hA : DataW.TrodAll enc Tryd.prog W 0 (fun _ => true) true Tryd.f6.params.toList args.toList ds p := hA0
  rw [Tryd.params6] at hA hval
  obtain ⟨v0, vs0, d0, ds0, p0, q0, hargs, rfl, rfl, h0, r0⟩ := trodAll_cons hA
  obtain ⟨v1, vs1, d1, ds1, p1, q1, rfl, rfl, rfl, h1, r1⟩ := trodAll_cons r0
  obtain ⟨v2, vs2, d2, ds2, p2, q2, rfl, rfl, rfl, h2, r2⟩ := trodAll_cons r1
  obtain ⟨v3, vs3, d3, ds3, p3, q3, rfl, rfl, rfl, h3, r3⟩ := trodAll_cons r2
  obtain ⟨rfl, rfl, rfl⟩ := trodAll_nil r3
  obtain rfl : args = #[v0, v1, v2, v3] := by cases args; simp_all
  obtain ⟨rfl, rfl⟩ := trodVars_none hV
  have k0 := h0
  have lt0 : ∀ x ∈ p0, x.block < W.heap.size := by obtain ⟨m, hm⟩ := k0; exact DataW.trod_lt m _ _ _ hm
  obtain ⟨H0, rfl, hl0, hb0⟩ := arr32_arg (hval 0 31 v0 rfl rfl)
  obtain ⟨a1, rfl, rfl, rfl, w1⟩ := open_int Tryd.underlying5 (hval 1 5 v1 rfl rfl) h1
  have b1 := wf_u8 w1
  obtain ⟨a2, rfl, rfl, rfl, w2⟩ := open_int Tryd.underlying5 (hval 2 5 v2 rfl rfl) h2
  have b2 := wf_u8 w2
  obtain ⟨a3, rfl, rfl, rfl, w3⟩ := open_int Tryd.underlying5 (hval 3 5 v3 rfl rfl) h3
  have b3 := wf_u8 w3
  clear hA0 hval0
  refine (fnPeerOtherCid_calls H0 hl0 hb0 a1 a2 a3 b1 b2 b3 hME).mono fun e W' ⟨he, hk⟩ => ?_
  subst he
  have bel := hk.below
  exact ⟨_, rfl, _, _, _, [], _, [], hW', trodAll_mk1 (shut_bool Tryd.underlying4 _), (trodAll_cons_mk (Below.trod laidOutN (by kernel_rfl) (of_decide_eq_true (by kernel_rfl)) k0 bel lt0) (trodAll_cons_mk (shut_int Tryd.underlying5 w1) (trodAll_cons_mk (shut_int Tryd.underlying5 w2) (trodAll_cons_mk (shut_int Tryd.underlying5 w3) trodAll_mk0)))), rfl, bel.frame _, fun h => by cases h⟩

theorem fnPeerOtherCid_row : Rows.FnPeerOtherCidSaid :=
  OpenClaim.holds_of_wide 6 Tryd.f6 rfl rfl rfl rfl rfl rfl rfl ⟨rfl, rfl, rfl, rfl, rfl⟩ rfl rfl rfl rfl rfl (by kernel_rfl) Tryd.func6 (by kernel_rfl)
    (of_decide_eq_true (by kernel_rfl)) (by unfold Func.isWrapper; first | (rw [if_pos (by decide +kernel)]; kernel_rfl) | (rw [if_neg (by decide +kernel)]; exact ⟨rfl, rfl⟩))
    (fun os started H enc _ => fnPeerOtherCid_lifted os started H enc)

/-- The card. -/
theorem fnPeerOtherCid_holds : Rows.FnPeerOtherCidCardSaid :=
  Claim7.holds_tied_plain_at .later [] [.sentinel, .sentinel, .sentinel, .sentinel, .sentinel, .sentinel] true (true, "62f8511eff498af2c679fa914269b0ed8bec8ee7f0fcb4ad41e3e12a613ff501") false
    fnPeerOtherCid_row (fun _ h => by cases h) (by kernel_rfl) (fun _ h => by cases h) fnPeerOtherCid_row_tie rfl ⟨rfl, rfl⟩ (by kernel_rfl) rfl
    (fun f fn hf hfn => by
      obtain rfl : f = 6 := Option.some.inj ((show Tryd.prog.funcNamed "pub-symmory/laws.FnPeerOtherCid" = some 6 by kernel_rfl).symm.trans hf) |>.symm
      obtain rfl : fn = Tryd.f6 := (Option.some.inj (Tryd.func6.symm.trans hfn)).symm
      exact ⟨by kernel_rfl, fun j t ht => by
        rw [Tryd.params6] at ht
        have hm : t ∈ [31, 5, 5, 5] := by simpa using Array.mem_of_getElem? ht
        have hall : ([31, 5, 5, 5].all fun u => !Tryd.prog.wantsStandIn u) = true := by kernel_rfl
        exact (show Tryd.prog.wantsStandIn t = false by simpa using List.all_eq_true.1 hall t hm)⟩)
    (by kernel_rfl)
#print axioms fnPeerOtherCid_holds
end Go.Proofs.YtnbpliccenanpaaDoor
