/- FnPeerEdge holds: for every input the law answers true, and its arguments read as before. The errors that package-level variables hold are as their initialisers lay them; the card ties that to the program's text. -/
import Derived.Test.YthdbchahmbcfeaaDoorEdE
import Derived.Test.YthdbchahmbcfeaaDoorRcK
import Derived.Lib.LaidTab
import Derived.Test.YthdbchahmbcfeaaDoorArg
import Derived.Test.YthdbchahmbcfeaaDoorRows
import Derived.Test.YthdbchahmbcfeaaDoorTie
import Derived.Test.YthdbchahmbcfeaaDoorCards
import Derived.SevenTiedAt
namespace Go.Proofs.YthdbchahmbcfeaaDoor
open Go Go.ChangeShapes Go.WideShapes Go.ChangeAt Go.RowKit
set_option linter.unusedVariables false
set_option maxRecDepth 100000

theorem fnPeerEdge_door (os : Os) (args : Array Value) : laidMetH Tryd.prog Rows.fnPeerEdgeRow.laid ((World.doorLaid Tryd.prog 223 os).forCall (fun _ _ => 0) ⟨#[], args, []⟩).memory :=
  laidMetH_of_parts3 (fuel := 8) (laidMet_of_run' 8 (by kernel_rfl) (by kernel_rfl)) (by kernel_rfl) (by kernel_rfl)

theorem fnPeerEdge_lifted (os : Os) (started : os.Started) (H : Type) (enc : TypeId × Value → H) :
    ReturnsInHanded {} Tryd.checked os 3 .any (fun w args => (Rows.fnPeerEdgeSpec.pre enc Tryd.prog Tryd.f3 [] false w args ∧ laidMetH Tryd.prog Rows.fnPeerEdgeRow.laid w) ∧ sizedMet enc Tryd.prog Tryd.f3 (OpenSpec.ofChange Rows.fnPeerEdgeSpec) false w args)
      (Rows.fnPeerEdgeSpec.post enc Tryd.prog Tryd.f3 false true false false) := by
  refine handed_open (C := Tryd.checked) (X := fun w _ => laidMetH Tryd.prog Rows.fnPeerEdgeRow.laid w) (fun _ _ _ hh h => h.of_heap hh) ownKnobN started (by kernel_rfl) Tryd.func3
    (ChangeSpec.witness_shaped (enc := enc) (C := Tryd.checked) (os := os) (X := fun w _ => laidMetH Tryd.prog Rows.fnPeerEdgeRow.laid w) false (World.doorLaid Tryd.prog 223 os) #[.int .u8 0, .int .u8 0] 8 rfl (World.shaped_of_RefB (by kernel_rfl) (by kernel_rfl)) (by kernel_rfl) (by kernel_rfl) (by kernel_rfl) (fnPeerEdge_door os _)) ?_
  intro W base args ds gs before hval0 hW hL0 hSO
  have hval : ∀ (j : Nat) t v, Tryd.f3.params[j]? = some t → args[j]? = some v → Value.okWide Tryd.prog W .any base t v := hval0
  have hL : laidMet Tryd.prog Rows.fnPeerEdgeRow.laid W := hL0
  have e_kr := laid_is (n := "pub-symmory/pub/libp2p/core/crypto/pb.errRequired") (g := 3) hL 0 rfl (by kernel_rfl) (by kernel_rfl)
  have e_ma := laid_is (n := "pub-symmory/pub/govarint.ErrOverflow") (g := 7) hL 1 rfl (by kernel_rfl) (by kernel_rfl)
  have e_mb := laid_is (n := "pub-symmory/pub/govarint.ErrUnderflow") (g := 9) hL 2 rfl (by kernel_rfl) (by kernel_rfl)
  have e_mc := laid_is (n := "pub-symmory/pub/govarint.ErrNotMinimal") (g := 8) hL 3 rfl (by kernel_rfl) (by kernel_rfl)
  have e_md := laid_is (n := "pub-symmory/pub/gomultihash.ErrTooShort") (g := 4) hL 6 rfl (by kernel_rfl) (by kernel_rfl)
  have e_bk := laid_is (n := "pub-symmory/pub/libp2p/core/crypto.ErrBadKeyType") (g := 0) hL 9 rfl (by kernel_rfl) (by kernel_rfl)
  have hME : MErrs W := ⟨e_ma.1, e_mb.1, e_mc.1, e_md.1⟩
  obtain ⟨K, hKK⟩ := keys_of_shaped hSO
  have hW' := hW
  obtain ⟨p, q, hA0, hV, rfl, hfz, hnd⟩ := hW
  have hA : DataW.TrodAll enc Tryd.prog W 0 (fun _ => true) true Tryd.f3.params.toList args.toList ds p := hA0
  rw [Tryd.params3] at hA hval
  obtain ⟨v0, vs0, d0, ds0, p0, q0, hargs, rfl, rfl, h0, r0⟩ := trodAll_cons hA
  obtain ⟨v1, vs1, d1, ds1, p1, q1, rfl, rfl, rfl, h1, r1⟩ := trodAll_cons r0
  obtain ⟨rfl, rfl, rfl⟩ := trodAll_nil r1
  obtain rfl : args = #[v0, v1] := by cases args; simp_all
  obtain ⟨rfl, rfl⟩ := trodVars_none hV
  obtain ⟨a0, rfl, rfl, rfl, w0⟩ := open_int Tryd.underlying5 (hval 0 5 v0 rfl rfl) h0
  have b0 := wf_u8 w0
  obtain ⟨a1, rfl, rfl, rfl, w1⟩ := open_int Tryd.underlying5 (hval 1 5 v1 rfl rfl) h1
  have b1 := wf_u8 w1
  clear hA0 hval0
  refine (fnPeerEdge_calls b0.1 b0.2 b1.1 b1.2 hME hKK).mono fun e W' ⟨he, hk⟩ => ?_
  subst he
  have bel := hk.below
  exact ⟨_, rfl, _, _, _, [], _, [], hW', trodAll_mk1 (shut_bool Tryd.underlying4 _), (trodAll_cons_mk (shut_int Tryd.underlying5 w0) (trodAll_cons_mk (shut_int Tryd.underlying5 w1) trodAll_mk0)), rfl, bel.frame _, fun h => by cases h⟩

theorem fnPeerEdge_row : Rows.FnPeerEdgeSaid :=
  OpenClaim.holds_of_wide 3 Tryd.f3 rfl rfl rfl rfl rfl rfl rfl ⟨rfl, rfl, rfl, rfl, rfl⟩ rfl rfl rfl rfl rfl (by kernel_rfl) Tryd.func3 (by kernel_rfl)
    (of_decide_eq_true (by kernel_rfl)) (by unfold Func.isWrapper; first | (rw [if_pos (by decide +kernel)]; kernel_rfl) | (rw [if_neg (by decide +kernel)]; exact ⟨rfl, rfl⟩))
    (fun os started H enc _ => fnPeerEdge_lifted os started H enc)

/-- The card. -/
theorem fnPeerEdge_holds : Rows.FnPeerEdgeCardSaid :=
  Claim7.holds_tied_plain_at .later [] [.sentinel, .sentinel, .sentinel, .sentinel, .sentinel, .sentinel, .sentinel, .sentinel, .sentinel, .sentinel] true (true, "ebfc0b8441a71b9348339ba47d847c10e00126efaf5a09eba47891c066236ddb") false
    fnPeerEdge_row (fun _ h => by cases h) (by kernel_rfl) (fun _ h => by cases h) fnPeerEdge_row_tie rfl ⟨rfl, rfl⟩ (by kernel_rfl) rfl
    (fun f fn hf hfn => by
      obtain rfl : f = 3 := Option.some.inj ((show Tryd.prog.funcNamed "pub-symmory/laws.FnPeerEdge" = some 3 by kernel_rfl).symm.trans hf) |>.symm
      obtain rfl : fn = Tryd.f3 := (Option.some.inj (Tryd.func3.symm.trans hfn)).symm
      exact ⟨by kernel_rfl, fun j t ht => by
        rw [Tryd.params3] at ht
        have hm : t ∈ [5, 5] := by simpa using Array.mem_of_getElem? ht
        have hall : ([5, 5].all fun u => !Tryd.prog.wantsStandIn u) = true := by kernel_rfl
        exact (show Tryd.prog.wantsStandIn t = false by simpa using List.all_eq_true.1 hall t hm)⟩)
    (by kernel_rfl)
#print axioms fnPeerEdge_holds
end Go.Proofs.YthdbchahmbcfeaaDoor
