/- A record as a law's argument. The table of Go's SHA2-256 in a world that is shaped: 64 numbers. A law's walk with the world's shape at hand. -/
import Derived.Test.YthdbchahmbcfeaaDoorArg
import Derived.Test.YthdbchahmbcfeaaDoorBytes
import Derived.Test.YthdbchahmbcfeaaDoorShiA
import Derived.Deep.DeepHandedRow
namespace Go.Proofs.YthdbchahmbcfeaaDoor
open Go Go.ChangeShapes Go.WideShapes Go.ChangeAt Go.RowKit
set_option linter.unusedVariables false
set_option linter.unusedSimpArgs false
set_option maxRecDepth 100000

/-- A record's fields. -/
structure RcV where
  d : List Int
  A : Option Addr
  c : Nat
  t : List Int
  B : Option Addr
  m : Nat
  p : List Int
def RcV.cells (x : RcV) : Array Value := #[.string (strOfNums x.d), .slice x.A x.t.length x.c, .slice x.B x.p.length x.m]
structure RcV.At (x : RcV) (w : World) : Prop where
  d : Byt x.d
  t : Rd w x.A x.t.length x.c x.t
  p : Rd w x.B x.p.length x.m x.p
theorem strOf_all (s : ByteArray) : ∃ l, Byt l ∧ s = strOfNums l := by
  refine ⟨s.data.toList.map (fun b => (b.toNat : Int)), ?_, ?_⟩
  · intro x hx
    simp only [List.mem_map] at hx
    obtain ⟨b, _, rfl⟩ := hx
    have := b.toNat_lt
    omega
  · apply ByteArray.ext
    apply Array.toList_inj.1
    rw [strOfNums_data, List.map_map]
    simp [Function.comp_def]
theorem cellsB : Tryd.prog.cellsOf 22 = 1 := by kernel_rfl
theorem field_bytes {H : Type} {enc : TypeId × Value → H} {W : World} {base n : Nat} {v : Value} {y : DataW H × List MemPlace} (ho : Cell.okWide Tryd.prog W .any base 22 v)
    (ht : DataW.trod enc Tryd.prog W 0 (fun _ => true) true n 22 [v] = some y) : ∃ A n c l, v = .slice A n c ∧ Rd W A n c l ∧ Lo W.heap.size A := by
  have hv : Value.okWide Tryd.prog W .any base 22 v := by
    unfold Value.okWide
    rw [Tryd.underlying22]
    exact ho
  obtain ⟨A, m, c, rfl⟩ := okWide_slice Tryd.underlying22 hv
  exact bytes_arg (d := y.1) (p := y.2) hv ⟨n, ht⟩
end Go.Proofs.YthdbchahmbcfeaaDoor
namespace Go.Proofs.YthdbchahmbcfeaaDoor
open Go Go.ChangeShapes Go.WideShapes Go.ChangeAt Go.RowKit
set_option linter.unusedVariables false
set_option maxRecDepth 100000
theorem keys_of_shaped {W : World} (h : W.ShapedOpen Tryd.prog) : ∃ K, Keys W K := by
  have h0 : (((begin Tryd.prog (fun _ _ => 0) default).world.heap[11]?).bind Obj.row?).map (fun x => (x.1.size, x.2)) = some (64, 171) := by kernel_rfl
  obtain ⟨⟨zero, t⟩, hz, he⟩ := Option.map_eq_some_iff.1 h0
  simp only [Prod.mk.injEq] at he
  obtain ⟨hs, rfl⟩ := he
  obtain ⟨cs, hb, hc, hr⟩ := h.1 11 zero 171 (of_decide_eq_true (by kernel_rfl)) hz
  obtain ⟨ts, hts, _, hrow⟩ := hr (by kernel_rfl)
  have ht : Tryd.prog.cellTypes Tryd.prog.depth 171 = some (List.replicate 64 56) := by kernel_rfl
  obtain rfl : ts = List.replicate 64 56 := Option.some.inj (hts.symm.trans ht)
  have hsz : cs.size = 64 := hc.trans hs
  have each : ∀ i : Nat, i < 64 → ∃ x, cs[i]? = some (.int .u32 x) ∧ 0 ≤ x ∧ x < 4294967296 := by
    intro i hi
    have hget : cs[i]? = some (cs[i]'(by omega)) := Array.getElem?_eq_getElem (by omega)
    obtain ⟨u, hu, hok⟩ := hrow i _ hget
    generalize cs[i]'(by omega) = v at *
    have : u = 56 := by
      have hm : i % (List.replicate 64 (56 : TypeId)).length < 64 := by rw [List.length_replicate]; exact Nat.mod_lt _ (by omega)
      rw [List.getElem?_replicate, if_pos hm] at hu
      exact (Option.some.inj hu).symm
    subst this
    simp only [Cell.ok, Tryd.underlying56] at hok
    cases v with
    | int k' m =>
      obtain ⟨rfl, h1, h2⟩ := hok
      simp [IntKind.min, IntKind.max, IntKind.signed, IntKind.bits] at h1 h2
      exact ⟨m, hget, by omega, by omega⟩
    | _ => exact hok.elim
  have hK : ∃ K : List Int, K.length = 64 ∧ ∀ i : Nat, i < 64 → cs[i]? = some (.int .u32 (K.getD i 0)) ∧ 0 ≤ K.getD i 0 ∧ K.getD i 0 < 4294967296 := by
    refine ⟨(List.range 64).map (fun i => intOf (cs.getD i (.bool false))), by simp, fun i hi => ?_⟩
    obtain ⟨x, hx, x0, x1⟩ := each i hi
    have e : ((List.range 64).map (fun i => intOf (cs.getD i (.bool false)))).getD i 0 = x := by
      rw [List.getD_eq_getElem?_getD, List.getElem?_map, List.getElem?_range hi]
      simp [Array.getD_eq_getD_getElem?, hx, intOf]
    rw [e]
    exact ⟨hx, x0, x1⟩
  obtain ⟨K, hl, hk⟩ := hK
  exact ⟨K, hl, fun i => by
    by_cases hi : i < 64
    · exact (hk i hi).2
    · rw [List.getD_eq_getElem?_getD, List.getElem?_eq_none (by omega)]; exact ⟨by decide, by decide⟩, fun i hi => (cell_of_row W _ i cs _ (0, 0) hb).trans (hk i hi).1⟩
theorem handed_open {H : Type} {enc : TypeId × Value → H} {a : Assume} {C : Checked} {os : Os} {f : FuncId} {fn : Func} {s : ChangeSpec} {conds : List PathCond} {apart fresh handsOn again : Bool} {X : World → Array Value → Prop}
    (hX : ∀ (w w' : World) (args : Array Value), w.heap = w'.heap → X w args → X w' args)
    (own : ownKnob C.prog.godebug = none) (started : os.Started) (noInit : C.prog.inits.idxOf? f = none) (hfn : C.prog.funcs[f]? = some fn)
    (witness : ∃ (w : World) (tape : Tape) (i : Input), w.os = os ∧ (w.forCall tape i).Shaped C.prog ∧ i.vars = [] ∧ Input.okWide C.prog (w.forCall tape i) .any w.heap.size f i ∧
      ((s.pre enc C.prog fn conds apart (w.forCall tape i).memory i.args ∧ X (w.forCall tape i).memory i.args) ∧ sizedMet enc C.prog fn (OpenSpec.ofChange s) apart (w.forCall tape i).memory i.args) ∧ a.holds C.prog (lone (Frame.enter C.prog f i.args .normal) [] (w.forCall tape i)))
    (contract : ∀ (W : World) (base : Nat) (args : Array Value) (ds gs : List (DataW H)) (before : List MemPlace),
      (∀ (j : Nat) t v, fn.params[j]? = some t → args[j]? = some v → Value.okWide C.prog W .any base t v) →
      DataW.Whole enc C.prog fn.params.toList s.vars apart W args.toList ds gs before →
      X W args → W.ShapedOpen C.prog →
      Calls C.prog f args W fun e W' => ∃ v, e = .returned v ∧ s.post enc C.prog fn apart fresh handsOn again W args v W') :
    ReturnsInHanded a C os f .any (fun w args => (s.pre enc C.prog fn conds apart w args ∧ X w args) ∧ sizedMet enc C.prog fn (OpenSpec.ofChange s) apart w args) (s.post enc C.prog fn apart fresh handsOn again) := by
  refine returnsInHanded_of_calls own started noInit witness ?_
  intro w tape i _ hsh _ hok hpre hholds
  obtain ⟨_, _, _, fn', hfn', _, _, _, _, hval⟩ := hok
  have e : fn' = fn := Option.some.inj (hfn'.symm.trans hfn)
  subst e
  obtain ⟨⟨⟨ds, gs, before, hw, hc⟩, hx⟩, hz⟩ := hpre
  have hw' := DataW.Whole.of_heap (w' := w.forCall tape i) (by rfl) hw
  refine (contract (w.forCall tape i) w.heap.size i.args ds gs before hval hw' (hX _ _ _ (by rfl) hx) hsh).mono fun e W' ⟨v, he, hp⟩ => ?_
  subst he
  exact ChangeSpec.post_blind hp
end Go.Proofs.YthdbchahmbcfeaaDoor
