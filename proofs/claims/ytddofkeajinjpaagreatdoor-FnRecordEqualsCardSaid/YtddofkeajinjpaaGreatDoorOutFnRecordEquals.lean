/- FnRecordEquals holds: for every input the law answers true, and its arguments read as before. The errors that package-level variables hold are as their initialisers lay them; the card ties that to the program's text. -/
import Derived.Test.YtddofkeajinjpaaGreatDoorEqs
import Derived.Test.YtddofkeajinjpaaGreatDoorRcK
import Derived.Lib.LaidTab
import Derived.Test.YtddofkeajinjpaaGreatDoorArg
import Derived.Test.YtddofkeajinjpaaGreatDoorRows
import Derived.Test.YtddofkeajinjpaaGreatDoorTie
import Derived.Test.YtddofkeajinjpaaGreatDoorCards
import Derived.SevenTiedAt
namespace Go.Proofs.YtddofkeajinjpaaGreatDoor
open Go Go.ChangeShapes Go.WideShapes Go.ChangeAt Go.RowKit
set_option linter.unusedVariables false
set_option maxRecDepth 100000

theorem fnRecordEquals_door (os : Os) (args : Array Value) : laidMetH Tryz.prog Rows.fnRecordEqualsRow.laid ((World.doorLaid Tryz.prog 261 os).forCall (fun _ _ => 0) ⟨#[], args, []⟩).memory :=
  laidMetH_of_parts3 (fuel := 8) (laidMet_of_run' 8 (by kernel_rfl) (by kernel_rfl)) (by kernel_rfl) (by kernel_rfl)

theorem fnRecordEquals_lifted (os : Os) (started : os.Started) (H : Type) (enc : TypeId × Value → H) :
    ReturnsInHanded {} Tryz.checked os 3 .any (fun w args => (Rows.fnRecordEqualsSpec.pre enc Tryz.prog Tryz.f3 [] false w args ∧ laidMetH Tryz.prog Rows.fnRecordEqualsRow.laid w) ∧ sizedMet enc Tryz.prog Tryz.f3 (OpenSpec.ofChange Rows.fnRecordEqualsSpec) false w args)
      (Rows.fnRecordEqualsSpec.post enc Tryz.prog Tryz.f3 false true false false) := by
  refine handed_open (C := Tryz.checked) (X := fun w _ => laidMetH Tryz.prog Rows.fnRecordEqualsRow.laid w) (fun _ _ _ hh h => h.of_heap hh) ownKnobN started (by kernel_rfl) Tryz.func3
    (ChangeSpec.witness_shaped (enc := enc) (C := Tryz.checked) (os := os) (X := fun w _ => laidMetH Tryz.prog Rows.fnRecordEqualsRow.laid w) false (World.doorLaid Tryz.prog 261 os) #[.slice none 0 0, .slice none 0 0] 8 rfl (World.shaped_of_RefB (by kernel_rfl) (by kernel_rfl)) (by kernel_rfl) (by kernel_rfl) (by kernel_rfl) (fnRecordEquals_door os _)) ?_
  intro W base args ds gs before hval0 hW hL0 hSO
  have hval : ∀ (j : Nat) t v, Tryz.f3.params[j]? = some t → args[j]? = some v → Value.okWide Tryz.prog W .any base t v := hval0
  have hL : laidMet Tryz.prog Rows.fnRecordEqualsRow.laid W := hL0
  have e_pa := laid_is (n := "io.ErrUnexpectedEOF") (g := 4) hL 0 rfl (by kernel_rfl) (by kernel_rfl)
  have e_pb := laid_is (n := "pub-symmory/pub/protowire.errFieldNumber") (g := 5) hL 1 rfl (by kernel_rfl) (by kernel_rfl)
  have e_pc := laid_is (n := "pub-symmory/pub/protowire.errOverflow") (g := 6) hL 2 rfl (by kernel_rfl) (by kernel_rfl)
  have e_pd := laid_is (n := "pub-symmory/pub/protowire.errReserved") (g := 7) hL 3 rfl (by kernel_rfl) (by kernel_rfl)
  have e_pe := laid_is (n := "pub-symmory/pub/protowire.errEndGroup") (g := 8) hL 4 rfl (by kernel_rfl) (by kernel_rfl)
  have e_pf := laid_is (n := "pub-symmory/pub/protowire.errParse") (g := 9) hL 5 rfl (by kernel_rfl) (by kernel_rfl)
  have e_kn := laid_is (n := "pub-symmory/pub/libp2p/core/crypto/pb.errNumber") (g := 11) hL 6 rfl (by kernel_rfl) (by kernel_rfl)
  have e_kr := laid_is (n := "pub-symmory/pub/libp2p/core/crypto/pb.errRequired") (g := 12) hL 7 rfl (by kernel_rfl) (by kernel_rfl)
  have e_en := laid_is (n := "pub-symmory/pub/libp2p/core/record/pb.errNumber") (g := 0) hL 8 rfl (by kernel_rfl) (by kernel_rfl)
  have e_bk := laid_is (n := "pub-symmory/pub/libp2p/core/crypto.ErrBadKeyType") (g := 10) hL 9 rfl (by kernel_rfl) (by kernel_rfl)
  have e_bd := laid_is (n := "pub-symmory/pub/libp2p/core/record.ErrEmptyDomain") (g := 1) hL 10 rfl (by kernel_rfl) (by kernel_rfl)
  have e_bt := laid_is (n := "pub-symmory/pub/libp2p/core/record.ErrEmptyPayloadType") (g := 2) hL 11 rfl (by kernel_rfl) (by kernel_rfl)
  have e_bs := laid_is (n := "pub-symmory/pub/libp2p/core/record.ErrInvalidSignature") (g := 3) hL 12 rfl (by kernel_rfl) (by kernel_rfl)
  have hP : PErrs W := ⟨e_pa.1, e_pb.1, e_pc.1, e_pd.1, e_pe.1, e_pf.1⟩
  have hE : KErrs W := ⟨hP, e_kn.1, e_kr.1, by have := e_bd.2; have := e_bk.2; have := e_bs.2; have := e_bt.2; have := e_en.2; have := e_kn.2; have := e_kr.2; have := e_pa.2; have := e_pb.2; have := e_pc.2; have := e_pd.2; have := e_pe.2; have := e_pf.2; omega⟩
  have hEE : EErrs W := ⟨hE, e_en.1⟩
  obtain ⟨K, hKK⟩ := keys_of_shaped hSO
  have hOW : OpW W K := ⟨hEE, e_bk.1, e_bs.1, hKK⟩
  have hW' := hW
  obtain ⟨p, q, hA0, hV, rfl, hfz, hnd⟩ := hW
  have hA : DataW.TrodAll enc Tryz.prog W 0 (fun _ => true) true Tryz.f3.params.toList args.toList ds p := hA0
  rw [Tryz.params3] at hA hval
  obtain ⟨v0, vs0, d0, ds0, p0, q0, hargs, rfl, rfl, h0, r0⟩ := trodAll_cons hA
  obtain ⟨v1, vs1, d1, ds1, p1, q1, rfl, rfl, rfl, h1, r1⟩ := trodAll_cons r0
  obtain ⟨rfl, rfl, rfl⟩ := trodAll_nil r1
  obtain rfl : args = #[v0, v1] := by cases args; simp_all
  obtain ⟨rfl, rfl⟩ := trodVars_none hV
  have k0 := h0
  have lt0 : ∀ x ∈ p0, x.block < W.heap.size := by obtain ⟨m, hm⟩ := k0; exact DataW.trod_lt m _ _ _ hm
  obtain ⟨A0, n0, c0, l0, rfl, R0⟩ := recs_arg (hval 0 22 v0 rfl rfl) h0
  have k1 := h1
  have lt1 : ∀ x ∈ p1, x.block < W.heap.size := by obtain ⟨m, hm⟩ := k1; exact DataW.trod_lt m _ _ _ hm
  obtain ⟨A1, n1, c1, l1, rfl, R1⟩ := toys_arg (hval 1 23 v1 rfl rfl) h1
  clear hA0 hval0
  refine (fnRecordEquals_calls R0 R1 hOW).mono fun e W' ⟨he, hk⟩ => ?_
  subst he
  have bel := hk.below
  exact ⟨_, rfl, _, _, _, [], _, [], hW', trodAll_mk1 (shut_bool Tryz.underlying4 _), (trodAll_cons_mk (Below.trod laidOutN (by kernel_rfl) (of_decide_eq_true (by kernel_rfl)) k0 bel lt0) (trodAll_cons_mk (Below.trod laidOutN (by kernel_rfl) (of_decide_eq_true (by kernel_rfl)) k1 bel lt1) trodAll_mk0)), rfl, bel.frame _, fun h => by cases h⟩

theorem fnRecordEquals_row : Rows.FnRecordEqualsSaid :=
  OpenClaim.holds_of_wide 3 Tryz.f3 rfl rfl rfl rfl rfl rfl rfl ⟨rfl, rfl, rfl, rfl, rfl⟩ rfl rfl rfl rfl rfl (by kernel_rfl) Tryz.func3 (by kernel_rfl)
    (of_decide_eq_true (by kernel_rfl)) (by unfold Func.isWrapper; first | (rw [if_pos (by decide +kernel)]; kernel_rfl) | (rw [if_neg (by decide +kernel)]; exact ⟨rfl, rfl⟩))
    (fun os started H enc _ => fnRecordEquals_lifted os started H enc)

/-- The card. -/
theorem fnRecordEquals_holds : Rows.FnRecordEqualsCardSaid :=
  Claim7.holds_tied_plain_at .later [] [.sentinel, .sentinel, .sentinel, .sentinel, .sentinel, .sentinel, .sentinel, .sentinel, .sentinel, .sentinel, .sentinel, .sentinel, .sentinel] true (true, "7903611e80af2a5f047bb3d7a5a6a3c45c555750416f4ee1f51747a0cba0882d") false
    fnRecordEquals_row (fun _ h => by cases h) (by kernel_rfl) (fun _ h => by cases h) fnRecordEquals_row_tie rfl ⟨rfl, rfl⟩ (by kernel_rfl) rfl
    (fun f fn hf hfn => by
      obtain rfl : f = 3 := Option.some.inj ((show Tryz.prog.funcNamed "pub-symmory/laws.FnRecordEquals" = some 3 by kernel_rfl).symm.trans hf) |>.symm
      obtain rfl : fn = Tryz.f3 := (Option.some.inj (Tryz.func3.symm.trans hfn)).symm
      exact ⟨by kernel_rfl, fun j t ht => by
        rw [Tryz.params3] at ht
        have hm : t ∈ [22, 23] := by simpa using Array.mem_of_getElem? ht
        have hall : ([22, 23].all fun u => !Tryz.prog.wantsStandIn u) = true := by kernel_rfl
        exact (show Tryz.prog.wantsStandIn t = false by simpa using List.all_eq_true.1 hall t hm)⟩)
    (by kernel_rfl)
#print axioms fnRecordEquals_holds
end Go.Proofs.YtddofkeajinjpaaGreatDoor
