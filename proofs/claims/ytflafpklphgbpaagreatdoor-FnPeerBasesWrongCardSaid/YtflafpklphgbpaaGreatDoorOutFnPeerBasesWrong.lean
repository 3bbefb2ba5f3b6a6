/- FnPeerBasesWrong holds: for every input the law answers true, and its arguments read as before. The errors that package-level variables hold are as their initialisers lay them; the card ties that to the program's text. -/
import Derived.Test.YtflafpklphgbpaaGreatDoorBwX
import Derived.Test.YtflafpklphgbpaaGreatDoorArX
import Derived.Lay
import Derived.MakeChecks
import Derived.Lib.LaidTab
import Derived.Test.YtflafpklphgbpaaGreatDoorRows
import Derived.Test.YtflafpklphgbpaaGreatDoorTie
import Derived.Test.YtflafpklphgbpaaGreatDoorCards
import Derived.SevenTiedAt
namespace Go.Proofs.YtflafpklphgbpaaGreatDoor
open Go Go.ChangeShapes Go.WideShapes Go.ChangeAt Go.RowKit
set_option linter.unusedVariables false
set_option maxRecDepth 100000

theorem fnPeerBasesWrong_lifted (os : Os) (started : os.Started) (H : Type) (enc : TypeId × Value → H) :
    ReturnsInHanded {} Tryz.checked os 3 .any (fun w args => (Rows.fnPeerBasesWrongSpec.pre enc Tryz.prog Tryz.f3 [] false w args ∧ laidMetH Tryz.prog Rows.fnPeerBasesWrongRow.laid w) ∧ sizedMet enc Tryz.prog Tryz.f3 (OpenSpec.ofChange Rows.fnPeerBasesWrongSpec) false w args)
      (Rows.fnPeerBasesWrongSpec.post enc Tryz.prog Tryz.f3 false true false false) := by
  refine returnsInHanded_of_change_and (C := Tryz.checked) (X := fun w _ => laidMetH Tryz.prog Rows.fnPeerBasesWrongRow.laid w) (fun _ _ _ hh h => h.of_heap hh) ownKnobN started (by kernel_rfl) Tryz.func3
    (ChangeSpec.witness_shaped (enc := enc) (C := Tryz.checked) (os := os) (X := fun w _ => laidMetH Tryz.prog Rows.fnPeerBasesWrongRow.laid w) false (World.laidAll Tryz.prog os Rows.fnPeerBasesWrongRow.laid) #[.agg (Array.replicate 32 (.int .u8 0)), .int .u8 0, .int .u8 0, .int .u8 0, .int .u8 0] 8 (World.laidAll_os _ _ _) (World.shaped_of_ZipB (by kernel_rfl) (by kernel_rfl)) (by kernel_rfl) (by kernel_rfl) (by kernel_rfl) (by rw [MakeChecks.laidMetH_plain _ _ _ (by kernel_rfl)]; exact laidMet_laidAll _ (by kernel_rfl) (by kernel_rfl))) ?_
  intro W base args ds gs before hval0 hW hcnd hreach hL0 _
  have hval : ∀ (j : Nat) t v, Tryz.f3.params[j]? = some t → args[j]? = some v → Value.okWide Tryz.prog W .any base t v := hval0
  have hL : laidMet Tryz.prog Rows.fnPeerBasesWrongRow.laid W := by rw [← MakeChecks.laidMetH_plain _ _ _ (by kernel_rfl)]; exact hL0
  have e_ma := laid_is (n := "pub-symmory/pub/govarint.ErrOverflow") (g := 3) hL 6 rfl (by kernel_rfl) (by kernel_rfl)
  have e_mb := laid_is (n := "pub-symmory/pub/govarint.ErrUnderflow") (g := 5) hL 7 rfl (by kernel_rfl) (by kernel_rfl)
  have e_mc := laid_is (n := "pub-symmory/pub/govarint.ErrNotMinimal") (g := 4) hL 8 rfl (by kernel_rfl) (by kernel_rfl)
  have e_hl := laid_is (n := "encoding/hex.ErrLength") (g := 8) hL 9 rfl (by kernel_rfl) (by kernel_rfl)
  have e_md := laid_is (n := "pub-symmory/pub/gomultihash.ErrTooShort") (g := 10) hL 12 rfl (by kernel_rfl) (by kernel_rfl)
  have e_qa := laid_is (n := "pub-symmory/pub/gomultihash.ErrInvalidMultihash") (g := 0) hL 13 rfl (by kernel_rfl) (by kernel_rfl)
  have e_nb := laid_is (n := "pub-symmory/pub/gocid.errCidTooShort") (g := 1) hL 16 rfl (by kernel_rfl) (by kernel_rfl)
  have hME : MErrs W := ⟨e_ma.1, e_mb.1, e_mc.1, e_md.1⟩
  have hQE : QErrs W := ⟨hME, e_qa.1⟩
  have hW' := hW
  obtain ⟨p, q, hA0, hV, rfl, hfz, hnd⟩ := hW
  have hA : DataW.TrodAll enc Tryz.prog W 0 (fun _ => true) true Tryz.f3.params.toList args.toList ds p := hA0
  rw [Tryz.params3] at hA hval
  obtain ⟨v0, vs0, d0, ds0, p0, q0, hargs, rfl, rfl, h0, r0⟩ := trodAll_cons hA
  obtain ⟨v1, vs1, d1, ds1, p1, q1, rfl, rfl, rfl, h1, r1⟩ := trodAll_cons r0
  obtain ⟨v2, vs2, d2, ds2, p2, q2, rfl, rfl, rfl, h2, r2⟩ := trodAll_cons r1
  obtain ⟨v3, vs3, d3, ds3, p3, q3, rfl, rfl, rfl, h3, r3⟩ := trodAll_cons r2
  obtain ⟨v4, vs4, d4, ds4, p4, q4, rfl, rfl, rfl, h4, r4⟩ := trodAll_cons r3
  obtain ⟨rfl, rfl, rfl⟩ := trodAll_nil r4
  obtain rfl : args = #[v0, v1, v2, v3, v4] := by cases args; simp_all
  obtain ⟨rfl, rfl⟩ := trodVars_none hV
  have k0 := h0
  have lt0 : ∀ x ∈ p0, x.block < W.heap.size := by obtain ⟨m, hm⟩ := k0; exact DataW.trod_lt m _ _ _ hm
  obtain ⟨H0, rfl, hl0, hb0⟩ := arr32_arg (hval 0 22 v0 rfl rfl)
  obtain ⟨a1, rfl, rfl, rfl, w1⟩ := open_int Tryz.underlying5 (hval 1 5 v1 rfl rfl) h1
  have b1 := wf_u8 w1
  obtain ⟨a2, rfl, rfl, rfl, w2⟩ := open_int Tryz.underlying5 (hval 2 5 v2 rfl rfl) h2
  have b2 := wf_u8 w2
  obtain ⟨a3, rfl, rfl, rfl, w3⟩ := open_int Tryz.underlying5 (hval 3 5 v3 rfl rfl) h3
  have b3 := wf_u8 w3
  obtain ⟨a4, rfl, rfl, rfl, w4⟩ := open_int Tryz.underlying5 (hval 4 5 v4 rfl rfl) h4
  have b4 := wf_u8 w4
  clear hA0 hval0
  refine (fnPeerBasesWrong_calls H0 hl0 hb0 a1 a2 a3 a4 b1 b2 b3 b4 hQE e_hl.1).mono fun e W' ⟨he, hk⟩ => ?_
  subst he
  have bel := hk.below
  exact ⟨_, rfl, _, _, _, [], _, [], hW', trodAll_mk1 (shut_bool Tryz.underlying4 _), (trodAll_cons_mk (Below.trod laidOutN (by kernel_rfl) (of_decide_eq_true (by kernel_rfl)) k0 bel lt0) (trodAll_cons_mk (shut_int Tryz.underlying5 w1) (trodAll_cons_mk (shut_int Tryz.underlying5 w2) (trodAll_cons_mk (shut_int Tryz.underlying5 w3) (trodAll_cons_mk (shut_int Tryz.underlying5 w4) trodAll_mk0))))), rfl, bel.frame _, fun h => by cases h⟩

theorem fnPeerBasesWrong_row : Rows.FnPeerBasesWrongSaid :=
  OpenClaim.holds_of_wide 3 Tryz.f3 rfl rfl rfl rfl rfl rfl rfl ⟨rfl, rfl, rfl, rfl, rfl⟩ rfl rfl rfl rfl rfl (by kernel_rfl) Tryz.func3 (by kernel_rfl)
    (of_decide_eq_true (by kernel_rfl)) (by unfold Func.isWrapper; first | (rw [if_pos (by decide +kernel)]; kernel_rfl) | (rw [if_neg (by decide +kernel)]; exact ⟨rfl, rfl⟩))
    (fun os started H enc _ => fnPeerBasesWrong_lifted os started H enc)

/-- The card. -/
theorem fnPeerBasesWrong_holds : Rows.FnPeerBasesWrongCardSaid :=
  Claim7.holds_tied_plain_at .later [] [.data, .data, .data, .data, .sentinel, .sentinel, .sentinel, .sentinel, .sentinel, .sentinel, .data, .sentinel, .sentinel, .sentinel, .sentinel, .sentinel, .sentinel, .pinned] true (true, "caa44f39692d4a9873e3e7789c29d2e094919ba33fc22a0e605a8d6b6f43f6bd") true
    fnPeerBasesWrong_row (fun _ h => by cases h) (by kernel_rfl) (fun _ h => by cases h) fnPeerBasesWrong_row_tie rfl ⟨rfl, rfl⟩ (by kernel_rfl) rfl
    (fun f fn hf hfn => by
      obtain rfl : f = 3 := Option.some.inj ((show Tryz.prog.funcNamed "pub-symmory/laws.FnPeerBasesWrong" = some 3 by kernel_rfl).symm.trans hf) |>.symm
      obtain rfl : fn = Tryz.f3 := (Option.some.inj (Tryz.func3.symm.trans hfn)).symm
      exact ⟨by kernel_rfl, fun j t ht => by
        rw [Tryz.params3] at ht
        have hm : t ∈ [22, 5, 5, 5, 5] := by simpa using Array.mem_of_getElem? ht
        have hall : ([22, 5, 5, 5, 5].all fun u => !Tryz.prog.wantsStandIn u) = true := by kernel_rfl
        exact (show Tryz.prog.wantsStandIn t = false by simpa using List.all_eq_true.1 hall t hm)⟩)
    (by kernel_rfl)
#print axioms fnPeerBasesWrong_holds
end Go.Proofs.YtflafpklphgbpaaGreatDoor
