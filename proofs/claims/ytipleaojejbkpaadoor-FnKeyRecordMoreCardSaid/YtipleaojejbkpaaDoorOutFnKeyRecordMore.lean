/- FnKeyRecordMore holds: for every input the law answers true, and its arguments read as before. The errors that package-level variables hold are as their initialisers lay them; the card ties that to the program's text. -/
import Derived.Test.YtipleaojejbkpaaDoorRMore
import Derived.Test.YtipleaojejbkpaaDoorRArg
import Derived.Lib.LaidTab
import Derived.Test.YtipleaojejbkpaaDoorArg
import Derived.Test.YtipleaojejbkpaaDoorRows
import Derived.Test.YtipleaojejbkpaaDoorTie
import Derived.Test.YtipleaojejbkpaaDoorCards
import Derived.SevenTiedAt
namespace Go.Proofs.YtipleaojejbkpaaDoor
open Go Go.ChangeShapes Go.WideShapes Go.ChangeAt Go.RowKit
set_option linter.unusedVariables false
set_option maxRecDepth 100000

theorem fnKeyRecordMore_door (os : Os) (args : Array Value) : laidMetH Tryd.prog Rows.fnKeyRecordMoreRow.laid ((World.doorLaid Tryd.prog 214 os).forCall (fun _ _ => 0) ⟨#[], args, []⟩).memory :=
  laidMetH_of_parts3 (fuel := 8) (laidMet_of_run' 8 (by kernel_rfl) (by kernel_rfl)) (by kernel_rfl) (by kernel_rfl)

theorem fnKeyRecordMore_lifted (os : Os) (started : os.Started) (H : Type) (enc : TypeId × Value → H) :
    ReturnsInHanded {} Tryd.checked os 11 .any (fun w args => (Rows.fnKeyRecordMoreSpec.pre enc Tryd.prog Tryd.f11 [] false w args ∧ laidMetH Tryd.prog Rows.fnKeyRecordMoreRow.laid w) ∧ sizedMet enc Tryd.prog Tryd.f11 (OpenSpec.ofChange Rows.fnKeyRecordMoreSpec) false w args)
      (Rows.fnKeyRecordMoreSpec.post enc Tryd.prog Tryd.f11 false true false false) := by
  refine returnsInHanded_of_change_and (C := Tryd.checked) (X := fun w _ => laidMetH Tryd.prog Rows.fnKeyRecordMoreRow.laid w) (fun _ _ _ hh h => h.of_heap hh) ownKnobN started (by kernel_rfl) Tryd.func11
    (ChangeSpec.witness_shaped (enc := enc) (C := Tryd.checked) (os := os) (X := fun w _ => laidMetH Tryd.prog Rows.fnKeyRecordMoreRow.laid w) false (World.doorLaid Tryd.prog 214 os) #[.agg #[.slice none 0 0, .int .u64 0, .slice none 0 0], .int .u16 0, .slice none 0 0, .int .u64 0] 8 rfl (World.shaped_of_RefB (by kernel_rfl) (by kernel_rfl)) (by kernel_rfl) (by kernel_rfl) (by kernel_rfl) (fnKeyRecordMore_door os _)) ?_
  intro W base args ds gs before hval0 hW hcnd hreach hL0 _
  have hval : ∀ (j : Nat) t v, Tryd.f11.params[j]? = some t → args[j]? = some v → Value.okWide Tryd.prog W .any base t v := hval0
  have hL : laidMet Tryd.prog Rows.fnKeyRecordMoreRow.laid W := hL0
  have e_pa := laid_is (n := "io.ErrUnexpectedEOF") (g := 4) hL 0 rfl (by kernel_rfl) (by kernel_rfl)
  have e_pb := laid_is (n := "pub-symmory/pub/protowire.errFieldNumber") (g := 5) hL 1 rfl (by kernel_rfl) (by kernel_rfl)
  have e_pc := laid_is (n := "pub-symmory/pub/protowire.errOverflow") (g := 6) hL 2 rfl (by kernel_rfl) (by kernel_rfl)
  have e_pd := laid_is (n := "pub-symmory/pub/protowire.errReserved") (g := 7) hL 3 rfl (by kernel_rfl) (by kernel_rfl)
  have e_pe := laid_is (n := "pub-symmory/pub/protowire.errEndGroup") (g := 8) hL 4 rfl (by kernel_rfl) (by kernel_rfl)
  have e_pf := laid_is (n := "pub-symmory/pub/protowire.errParse") (g := 9) hL 5 rfl (by kernel_rfl) (by kernel_rfl)
  have e_rn := laid_is (n := "pub-symmory/pub/libp2p/core/peer/pb.errNumber") (g := 0) hL 6 rfl (by kernel_rfl) (by kernel_rfl)
  have hP : PErrs W := ⟨e_pa.1, e_pb.1, e_pc.1, e_pd.1, e_pe.1, e_pf.1⟩
  have hRE : RErrs W := ⟨hP, e_rn.1, by have := e_pa.2; have := e_pb.2; have := e_pc.2; have := e_pd.2; have := e_pe.2; have := e_pf.2; have := e_rn.2; omega⟩
  have hW' := hW
  obtain ⟨p, q, hA0, hV, rfl, hfz, hnd⟩ := hW
  have hA : DataW.TrodAll enc Tryd.prog W 0 (fun _ => true) true Tryd.f11.params.toList args.toList ds p := hA0
  rw [Tryd.params11] at hA hval
  obtain ⟨v0, vs0, d0, ds0, p0, q0, hargs, rfl, rfl, h0, r0⟩ := trodAll_cons hA
  obtain ⟨v1, vs1, d1, ds1, p1, q1, rfl, rfl, rfl, h1, r1⟩ := trodAll_cons r0
  obtain ⟨v2, vs2, d2, ds2, p2, q2, rfl, rfl, rfl, h2, r2⟩ := trodAll_cons r1
  obtain ⟨v3, vs3, d3, ds3, p3, q3, rfl, rfl, rfl, h3, r3⟩ := trodAll_cons r2
  obtain ⟨rfl, rfl, rfl⟩ := trodAll_nil r3
  obtain rfl : args = #[v0, v1, v2, v3] := by cases args; simp_all
  obtain ⟨rfl, rfl⟩ := trodVars_none hV
  have k0 := h0
  have lt0 : ∀ x ∈ p0, x.block < W.heap.size := by obtain ⟨m, hm⟩ := k0; exact DataW.trod_lt m _ _ _ hm
  obtain ⟨s0, rfl, S0⟩ := RecordData_arg (hval 0 47 v0 rfl rfl) h0
  obtain ⟨a1, rfl, rfl, rfl, w1⟩ := open_int Tryd.underlying37 (hval 1 37 v1 rfl rfl) h1
  have b1 := wf_u16 w1
  have k2 := h2
  have lt2 : ∀ x ∈ p2, x.block < W.heap.size := by obtain ⟨m, hm⟩ := k2; exact DataW.trod_lt m _ _ _ hm
  obtain ⟨A2, n2, c2, l2, rfl, R2, L2⟩ := bytes_arg (hval 2 24 v2 rfl rfl) h2
  obtain ⟨a3, rfl, rfl, rfl, w3⟩ := open_int Tryd.underlying38 (hval 3 38 v3 rfl rfl) h3
  have b3 := wf_u64 w3
  clear hA0 hval0
  refine (fnKeyRecordMore_calls s0 a1 a3 S0 R2 b1 b3 hRE).mono fun e W' ⟨he, hk⟩ => ?_
  subst he
  have bel := hk.below
  exact ⟨_, rfl, _, _, _, [], _, [], hW', trodAll_mk1 (shut_bool Tryd.underlying4 _), (trodAll_cons_mk (Below.trod laidOutN (by kernel_rfl) (of_decide_eq_true (by kernel_rfl)) k0 bel lt0) (trodAll_cons_mk (shut_int Tryd.underlying37 w1) (trodAll_cons_mk (Below.trod laidOutN (by kernel_rfl) (of_decide_eq_true (by kernel_rfl)) k2 bel lt2) (trodAll_cons_mk (shut_int Tryd.underlying38 w3) trodAll_mk0)))), rfl, bel.frame _, fun h => by cases h⟩

theorem fnKeyRecordMore_row : Rows.FnKeyRecordMoreSaid :=
  OpenClaim.holds_of_wide 11 Tryd.f11 rfl rfl rfl rfl rfl rfl rfl ⟨rfl, rfl, rfl, rfl, rfl⟩ rfl rfl rfl rfl rfl (by kernel_rfl) Tryd.func11 (by kernel_rfl)
    (of_decide_eq_true (by kernel_rfl)) (by unfold Func.isWrapper; first | (rw [if_pos (by decide +kernel)]; kernel_rfl) | (rw [if_neg (by decide +kernel)]; exact ⟨rfl, rfl⟩))
    (fun os started H enc _ => fnKeyRecordMore_lifted os started H enc)

/-- The card. -/
theorem fnKeyRecordMore_holds : Rows.FnKeyRecordMoreCardSaid :=
  Claim7.holds_tied_plain_at .later [] [.sentinel, .sentinel, .sentinel, .sentinel, .sentinel, .sentinel, .sentinel] true (true, "f59ad7c3cb56d45eb8efd7fecfce11bb4da974b24ae0e95ef10e04413eb0e1b1") false
    fnKeyRecordMore_row (fun _ h => by cases h) (by kernel_rfl) (fun _ h => by cases h) fnKeyRecordMore_row_tie rfl ⟨rfl, rfl⟩ (by kernel_rfl) rfl
    (fun f fn hf hfn => by
      obtain rfl : f = 11 := Option.some.inj ((show Tryd.prog.funcNamed "pub-symmory/laws.FnKeyRecordMore" = some 11 by kernel_rfl).symm.trans hf) |>.symm
      obtain rfl : fn = Tryd.f11 := (Option.some.inj (Tryd.func11.symm.trans hfn)).symm
      exact ⟨by kernel_rfl, fun j t ht => by
        rw [Tryd.params11] at ht
        have hm : t ∈ [47, 37, 24, 38] := by simpa using Array.mem_of_getElem? ht
        have hall : ([47, 37, 24, 38].all fun u => !Tryd.prog.wantsStandIn u) = true := by kernel_rfl
        exact (show Tryd.prog.wantsStandIn t = false by simpa using List.all_eq_true.1 hall t hm)⟩)
    (by kernel_rfl)
#print axioms fnKeyRecordMore_holds
end Go.Proofs.YtipleaojejbkpaaDoor
