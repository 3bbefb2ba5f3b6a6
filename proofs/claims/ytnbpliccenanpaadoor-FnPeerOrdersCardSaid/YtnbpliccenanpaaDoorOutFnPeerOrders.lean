/- FnPeerOrders holds: for every input the law answers true, and its arguments read as before. The errors that package-level variables hold are as their initialisers lay them; the card ties that to the program's text. -/
import Derived.Test.YtnbpliccenanpaaDoorOrdL
import Derived.Test.YtnbpliccenanpaaDoorArg32
import Derived.Lib.LaidTab
import Derived.Test.YtnbpliccenanpaaDoorArg
import Derived.Test.YtnbpliccenanpaaDoorRows
import Derived.Test.YtnbpliccenanpaaDoorTie
import Derived.Test.YtnbpliccenanpaaDoorCards
import Derived.SevenTiedAt
namespace Go.Proofs.YtnbpliccenanpaaDoor
open Go Go.ChangeShapes Go.WideShapes Go.ChangeAt Go.RowKit
set_option linter.unusedVariables false
set_option maxRecDepth 100000

theorem fnPeerOrders_door (os : Os) (args : Array Value) : laidMetH Tryd.prog Rows.fnPeerOrdersRow.laid ((World.doorLaid Tryd.prog 223 os).forCall (fun _ _ => 0) ⟨#[], args, []⟩).memory :=
  laidMetH_of_parts3 (fuel := 8) (laidMet_of_run' 8 (by kernel_rfl) (by kernel_rfl)) (by kernel_rfl) (by kernel_rfl)

theorem fnPeerOrders_lifted (os : Os) (started : os.Started) (H : Type) (enc : TypeId × Value → H) :
    ReturnsInHanded {} Tryd.checked os 7 .any (fun w args => (Rows.fnPeerOrdersSpec.pre enc Tryd.prog Tryd.f7 [] false w args ∧ laidMetH Tryd.prog Rows.fnPeerOrdersRow.laid w) ∧ sizedMet enc Tryd.prog Tryd.f7 (OpenSpec.ofChange Rows.fnPeerOrdersSpec) false w args)
      (Rows.fnPeerOrdersSpec.post enc Tryd.prog Tryd.f7 false true false false) := by
  refine returnsInHanded_of_change_and (C := Tryd.checked) (X := fun w _ => laidMetH Tryd.prog Rows.fnPeerOrdersRow.laid w) (fun _ _ _ hh h => h.of_heap hh) ownKnobN started (by kernel_rfl) Tryd.func7
    (ChangeSpec.witness_shaped (enc := enc) (C := Tryd.checked) (os := os) (X := fun w _ => laidMetH Tryd.prog Rows.fnPeerOrdersRow.laid w) false (World.doorLaid Tryd.prog 223 os) #[.slice none 0 0, .slice none 0 0] 8 rfl (World.shaped_of_RefB (by kernel_rfl) (by kernel_rfl)) (by kernel_rfl) (by kernel_rfl) (by kernel_rfl) (fnPeerOrders_door os _)) ?_
  intro W base args ds gs before hval0 hW hcnd hreach hL0 _
  have hval : ∀ (j : Nat) t v, Tryd.f7.params[j]? = some t → args[j]? = some v → Value.okWide Tryd.prog W .any base t v := hval0
  have hL : laidMet Tryd.prog Rows.fnPeerOrdersRow.laid W := hL0
  have e_ma := laid_is (n := "pub-symmory/pub/govarint.ErrOverflow") (g := 2) hL 0 rfl (by kernel_rfl) (by kernel_rfl)
  have e_mb := laid_is (n := "pub-symmory/pub/govarint.ErrUnderflow") (g := 4) hL 1 rfl (by kernel_rfl) (by kernel_rfl)
  have e_mc := laid_is (n := "pub-symmory/pub/govarint.ErrNotMinimal") (g := 3) hL 2 rfl (by kernel_rfl) (by kernel_rfl)
  have e_md := laid_is (n := "pub-symmory/pub/gomultihash.ErrTooShort") (g := 7) hL 3 rfl (by kernel_rfl) (by kernel_rfl)
  have hME : MErrs W := ⟨e_ma.1, e_mb.1, e_mc.1, e_md.1⟩
  have hW' := hW
  obtain ⟨p, q, hA0, hV, rfl, hfz, hnd⟩ := hW
  have hA : DataW.TrodAll enc Tryd.prog W 0 (fun _ => true) true Tryd.f7.params.toList args.toList ds p := hA0
  rw [Tryd.params7] at hA hval
  obtain ⟨v0, vs0, d0, ds0, p0, q0, hargs, rfl, rfl, h0, r0⟩ := trodAll_cons hA
  obtain ⟨v1, vs1, d1, ds1, p1, q1, rfl, rfl, rfl, h1, r1⟩ := trodAll_cons r0
  obtain ⟨rfl, rfl, rfl⟩ := trodAll_nil r1
  obtain rfl : args = #[v0, v1] := by cases args; simp_all
  obtain ⟨rfl, rfl⟩ := trodVars_none hV
  have k0 := h0
  have lt0 : ∀ x ∈ p0, x.block < W.heap.size := by obtain ⟨m, hm⟩ := k0; exact DataW.trod_lt m _ _ _ hm
  obtain ⟨A0, n0, c0, l0, rfl, R0⟩ := arrs_arg (hval 0 37 v0 rfl rfl) h0
  have k1 := h1
  have lt1 : ∀ x ∈ p1, x.block < W.heap.size := by obtain ⟨m, hm⟩ := k1; exact DataW.trod_lt m _ _ _ hm
  obtain ⟨A1, n1, c1, l1, rfl, R1, L1⟩ := bytes_arg (hval 1 22 v1 rfl rfl) h1
  clear hA0 hval0
  refine (fnPeerOrders_calls R0 R1 hME).mono fun e W' ⟨he, hk⟩ => ?_
  subst he
  have bel := hk.below
  exact ⟨_, rfl, _, _, _, [], _, [], hW', trodAll_mk1 (shut_bool Tryd.underlying4 _), (trodAll_cons_mk (Below.trod laidOutN (by kernel_rfl) (of_decide_eq_true (by kernel_rfl)) k0 bel lt0) (trodAll_cons_mk (Below.trod laidOutN (by kernel_rfl) (of_decide_eq_true (by kernel_rfl)) k1 bel lt1) trodAll_mk0)), rfl, bel.frame _, fun h => by cases h⟩

theorem fnPeerOrders_row : Rows.FnPeerOrdersSaid :=
  OpenClaim.holds_of_wide 7 Tryd.f7 rfl rfl rfl rfl rfl rfl rfl ⟨rfl, rfl, rfl, rfl, rfl⟩ rfl rfl rfl rfl rfl (by kernel_rfl) Tryd.func7 (by kernel_rfl)
    (of_decide_eq_true (by kernel_rfl)) (by unfold Func.isWrapper; first | (rw [if_pos (by decide +kernel)]; kernel_rfl) | (rw [if_neg (by decide +kernel)]; exact ⟨rfl, rfl⟩))
    (fun os started H enc _ => fnPeerOrders_lifted os started H enc)

/-- The card. -/
theorem fnPeerOrders_holds : Rows.FnPeerOrdersCardSaid :=
  Claim7.holds_tied_plain_at .later [] [.sentinel, .sentinel, .sentinel, .sentinel, .sentinel, .sentinel] true (true, "62f8511eff498af2c679fa914269b0ed8bec8ee7f0fcb4ad41e3e12a613ff501") false
    fnPeerOrders_row (fun _ h => by cases h) (by kernel_rfl) (fun _ h => by cases h) fnPeerOrders_row_tie rfl ⟨rfl, rfl⟩ (by kernel_rfl) rfl
    (fun f fn hf hfn => by
      obtain rfl : f = 7 := Option.some.inj ((show Tryd.prog.funcNamed "pub-symmory/laws.FnPeerOrders" = some 7 by kernel_rfl).symm.trans hf) |>.symm
      obtain rfl : fn = Tryd.f7 := (Option.some.inj (Tryd.func7.symm.trans hfn)).symm
      exact ⟨by kernel_rfl, fun j t ht => by
        rw [Tryd.params7] at ht
        have hm : t ∈ [37, 22] := by simpa using Array.mem_of_getElem? ht
        have hall : ([37, 22].all fun u => !Tryd.prog.wantsStandIn u) = true := by kernel_rfl
        exact (show Tryd.prog.wantsStandIn t = false by simpa using List.all_eq_true.1 hall t hm)⟩)
    (by kernel_rfl)
#print axioms fnPeerOrders_holds
end Go.Proofs.YtnbpliccenanpaaDoor
