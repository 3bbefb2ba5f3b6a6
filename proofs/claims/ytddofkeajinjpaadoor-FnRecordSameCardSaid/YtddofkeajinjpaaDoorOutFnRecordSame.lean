/- FnRecordSame holds: for every input the law answers true, and its arguments read as before. The errors that package-level variables hold are as their initialisers lay them; the card ties that to the program's text. -/
import Derived.Test.YtddofkeajinjpaaDoorSm
import Derived.Test.YtddofkeajinjpaaDoorRcK
import Derived.Lib.LaidTab
import Derived.Test.YtddofkeajinjpaaDoorArg
import Derived.Test.YtddofkeajinjpaaDoorRows
import Derived.Test.YtddofkeajinjpaaDoorTie
import Derived.Test.YtddofkeajinjpaaDoorCards
import Derived.SevenTiedAt
namespace Go.Proofs.YtddofkeajinjpaaDoor
open Go Go.ChangeShapes Go.WideShapes Go.ChangeAt Go.RowKit
set_option linter.unusedVariables false
set_option maxRecDepth 100000

theorem fnRecordSame_door (os : Os) (args : Array Value) : laidMetH Tryd.prog Rows.fnRecordSameRow.laid ((World.doorLaid Tryd.prog 261 os).forCall (fun _ _ => 0) ⟨#[], args, []⟩).memory :=
  laidMetH_of_parts3 (fuel := 8) (laidMet_of_run' 8 (by kernel_rfl) (by kernel_rfl)) (by kernel_rfl) (by kernel_rfl)

theorem fnRecordSame_lifted (os : Os) (started : os.Started) (H : Type) (enc : TypeId × Value → H) :
    ReturnsInHanded {} Tryd.checked os 9 .any (fun w args => (Rows.fnRecordSameSpec.pre enc Tryd.prog Tryd.f9 [] false w args ∧ laidMetH Tryd.prog Rows.fnRecordSameRow.laid w) ∧ sizedMet enc Tryd.prog Tryd.f9 (OpenSpec.ofChange Rows.fnRecordSameSpec) false w args)
      (Rows.fnRecordSameSpec.post enc Tryd.prog Tryd.f9 false true false false) := by
  refine handed_open (C := Tryd.checked) (X := fun w _ => laidMetH Tryd.prog Rows.fnRecordSameRow.laid w) (fun _ _ _ hh h => h.of_heap hh) ownKnobN started (by kernel_rfl) Tryd.func9
    (ChangeSpec.witness_shaped (enc := enc) (C := Tryd.checked) (os := os) (X := fun w _ => laidMetH Tryd.prog Rows.fnRecordSameRow.laid w) false (World.doorLaid Tryd.prog 261 os) #[.agg #[.string ⟨#[]⟩, .slice none 0 0, .slice none 0 0], .agg #[.string ⟨#[]⟩, .slice none 0 0, .slice none 0 0], .agg #[.int .i32 0, .slice none 0 0], .agg #[.int .i32 0, .slice none 0 0]] 8 rfl (World.shaped_of_RefB (by kernel_rfl) (by kernel_rfl)) (by kernel_rfl) (by kernel_rfl) (by kernel_rfl) (fnRecordSame_door os _)) ?_
  intro W base args ds gs before hval0 hW hL0 hSO
  have hval : ∀ (j : Nat) t v, Tryd.f9.params[j]? = some t → args[j]? = some v → Value.okWide Tryd.prog W .any base t v := hval0
  have hL : laidMet Tryd.prog Rows.fnRecordSameRow.laid W := hL0
  have e_pa := laid_is (n := "io.ErrUnexpectedEOF") (g := 4) hL 0 rfl (by kernel_rfl) (by kernel_rfl)
  have e_pb := laid_is (n := "pub-symmory/pub/protowire.errFieldNumber") (g := 5) hL 1 rfl (by kernel_rfl) (by kernel_rfl)
  have e_pc := laid_is (n := "pub-symmory/pub/protowire.errOverflow") (g := 6) hL 2 rfl (by kernel_rfl) (by kernel_rfl)
  have e_pd := laid_is (n := "pub-symmory/pub/protowire.errReserved") (g := 7) hL 3 rfl (by kernel_rfl) (by kernel_rfl)
  have e_pe := laid_is (n := "pub-symmory/pub/protowire.errEndGroup") (g := 8) hL 4 rfl (by kernel_rfl) (by kernel_rfl)
  have e_pf := laid_is (n := "pub-symmory/pub/protowire.errParse") (g := 9) hL 5 rfl (by kernel_rfl) (by kernel_rfl)
  have e_kn := laid_is (n := "pub-symmory/pub/libp2p/core/crypto/pb.errNumber") (g := 11) hL 6 rfl (by kernel_rfl) (by kernel_rfl)
  have e_kr := laid_is (n := "pub-symmory/pub/libp2p/core/crypto/pb.errRequired") (g := 12) hL 7 rfl (by kernel_rfl) (by kernel_rfl)
  have e_en := laid_is (n := "pub-symmory/pub/libp2p/core/record/pb.errNumber") (g := 1) hL 8 rfl (by kernel_rfl) (by kernel_rfl)
  have e_bk := laid_is (n := "pub-symmory/pub/libp2p/core/crypto.ErrBadKeyType") (g := 10) hL 9 rfl (by kernel_rfl) (by kernel_rfl)
  have e_bd := laid_is (n := "pub-symmory/pub/libp2p/core/record.ErrEmptyDomain") (g := 2) hL 10 rfl (by kernel_rfl) (by kernel_rfl)
  have e_bt := laid_is (n := "pub-symmory/pub/libp2p/core/record.ErrEmptyPayloadType") (g := 3) hL 11 rfl (by kernel_rfl) (by kernel_rfl)
  have e_bs := laid_is (n := "pub-symmory/pub/libp2p/core/record.ErrInvalidSignature") (g := 0) hL 12 rfl (by kernel_rfl) (by kernel_rfl)
  have hP : PErrs W := ⟨e_pa.1, e_pb.1, e_pc.1, e_pd.1, e_pe.1, e_pf.1⟩
  have hE : KErrs W := ⟨hP, e_kn.1, e_kr.1, by have := e_bd.2; have := e_bk.2; have := e_bs.2; have := e_bt.2; have := e_en.2; have := e_kn.2; have := e_kr.2; have := e_pa.2; have := e_pb.2; have := e_pc.2; have := e_pd.2; have := e_pe.2; have := e_pf.2; omega⟩
  have hEE : EErrs W := ⟨hE, e_en.1⟩
  obtain ⟨K, hKK⟩ := keys_of_shaped hSO
  have hOW : OpW W K := ⟨hEE, e_bk.1, e_bs.1, hKK⟩
  have hW' := hW
  obtain ⟨p, q, hA0, hV, rfl, hfz, hnd⟩ := hW
  have hA : DataW.TrodAll enc Tryd.prog W 0 (fun _ => true) true Tryd.f9.params.toList args.toList ds p := hA0
  rw [Tryd.params9] at hA hval
  obtain ⟨v0, vs0, d0, ds0, p0, q0, hargs, rfl, rfl, h0, r0⟩ := trodAll_cons hA
  obtain ⟨v1, vs1, d1, ds1, p1, q1, rfl, rfl, rfl, h1, r1⟩ := trodAll_cons r0
  obtain ⟨v2, vs2, d2, ds2, p2, q2, rfl, rfl, rfl, h2, r2⟩ := trodAll_cons r1
  obtain ⟨v3, vs3, d3, ds3, p3, q3, rfl, rfl, rfl, h3, r3⟩ := trodAll_cons r2
  obtain ⟨rfl, rfl, rfl⟩ := trodAll_nil r3
  obtain rfl : args = #[v0, v1, v2, v3] := by cases args; simp_all
  obtain ⟨rfl, rfl⟩ := trodVars_none hV
  have k0 := h0
  have lt0 : ∀ x ∈ p0, x.block < W.heap.size := by obtain ⟨m, hm⟩ := k0; exact DataW.trod_lt m _ _ _ hm
  obtain ⟨s0, rfl, S0⟩ := Record_arg (hval 0 24 v0 rfl rfl) h0
  have k1 := h1
  have lt1 : ∀ x ∈ p1, x.block < W.heap.size := by obtain ⟨m, hm⟩ := k1; exact DataW.trod_lt m _ _ _ hm
  obtain ⟨s1, rfl, S1⟩ := Record_arg (hval 1 24 v1 rfl rfl) h1
  have k2 := h2
  have lt2 : ∀ x ∈ p2, x.block < W.heap.size := by obtain ⟨m, hm⟩ := k2; exact DataW.trod_lt m _ _ _ hm
  obtain ⟨s2, rfl, S2⟩ := Toy_arg (hval 2 30 v2 rfl rfl) h2
  have k3 := h3
  have lt3 : ∀ x ∈ p3, x.block < W.heap.size := by obtain ⟨m, hm⟩ := k3; exact DataW.trod_lt m _ _ _ hm
  obtain ⟨s3, rfl, S3⟩ := Toy_arg (hval 3 30 v3 rfl rfl) h3
  clear hA0 hval0
  refine (fnRecordSame_calls (da := s0.d) (db := s1.d) S0.d S1.d S0.t S0.p S1.t S1.p S2.d S3.d hOW).mono fun e W' ⟨he, hk⟩ => ?_
  subst he
  have bel := hk.below
  exact ⟨_, rfl, _, _, _, [], _, [], hW', trodAll_mk1 (shut_bool Tryd.underlying4 _), (trodAll_cons_mk (Below.trod laidOutN (by kernel_rfl) (of_decide_eq_true (by kernel_rfl)) k0 bel lt0) (trodAll_cons_mk (Below.trod laidOutN (by kernel_rfl) (of_decide_eq_true (by kernel_rfl)) k1 bel lt1) (trodAll_cons_mk (Below.trod laidOutN (by kernel_rfl) (of_decide_eq_true (by kernel_rfl)) k2 bel lt2) (trodAll_cons_mk (Below.trod laidOutN (by kernel_rfl) (of_decide_eq_true (by kernel_rfl)) k3 bel lt3) trodAll_mk0)))), rfl, bel.frame _, fun h => by cases h⟩

theorem fnRecordSame_row : Rows.FnRecordSameSaid :=
  OpenClaim.holds_of_wide 9 Tryd.f9 rfl rfl rfl rfl rfl rfl rfl ⟨rfl, rfl, rfl, rfl, rfl⟩ rfl rfl rfl rfl rfl (by kernel_rfl) Tryd.func9 (by kernel_rfl)
    (of_decide_eq_true (by kernel_rfl)) (by unfold Func.isWrapper; first | (rw [if_pos (by decide +kernel)]; kernel_rfl) | (rw [if_neg (by decide +kernel)]; exact ⟨rfl, rfl⟩))
    (fun os started H enc _ => fnRecordSame_lifted os started H enc)

/-- The card. -/
theorem fnRecordSame_holds : Rows.FnRecordSameCardSaid :=
  Claim7.holds_tied_plain_at .later [] [.sentinel, .sentinel, .sentinel, .sentinel, .sentinel, .sentinel, .sentinel, .sentinel, .sentinel, .sentinel, .sentinel, .sentinel, .sentinel] true (true, "d987f6577d58a0b2dc769df3f7cc76f4a34c7fcc30328542f80988f38e08a714") false
    fnRecordSame_row (fun _ h => by cases h) (by kernel_rfl) (fun _ h => by cases h) fnRecordSame_row_tie rfl ⟨rfl, rfl⟩ (by kernel_rfl) rfl
    (fun f fn hf hfn => by
      obtain rfl : f = 9 := Option.some.inj ((show Tryd.prog.funcNamed "pub-symmory/laws.FnRecordSame" = some 9 by kernel_rfl).symm.trans hf) |>.symm
      obtain rfl : fn = Tryd.f9 := (Option.some.inj (Tryd.func9.symm.trans hfn)).symm
      exact ⟨by kernel_rfl, fun j t ht => by
        rw [Tryd.params9] at ht
        have hm : t ∈ [24, 24, 30, 30] := by simpa using Array.mem_of_getElem? ht
        have hall : ([24, 24, 30, 30].all fun u => !Tryd.prog.wantsStandIn u) = true := by kernel_rfl
        exact (show Tryd.prog.wantsStandIn t = false by simpa using List.all_eq_true.1 hall t hm)⟩)
    (by kernel_rfl)
#print axioms fnRecordSame_holds
end Go.Proofs.YtddofkeajinjpaaDoor
