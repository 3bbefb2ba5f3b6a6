/- Two envelopes' messages, one behind the other, plain: what is read of them. -/
import Derived.Test.YtipleaojejbkpaaDoorEMoreP
namespace Go.Proofs.YtipleaojejbkpaaDoor
open Go
set_option linter.unusedVariables false
set_option linter.unusedSimpArgs false
set_option maxRecDepth 100000

theorem fo_on2 (s : ES) (l : List Int) : fo estep (obf 2 l) s = .ok { s with ty := if l = [] then s.ty else l } := by
  unfold obf
  by_cases he : l = []
  · rw [if_pos he, if_pos he]; rfl
  · rw [if_neg he, if_neg he, fo_one, estep_2]
theorem fo_on3 (s : ES) (l : List Int) : fo estep (obf 3 l) s = .ok { s with pl := if l = [] then s.pl else l } := by
  unfold obf
  by_cases he : l = []
  · rw [if_pos he, if_pos he]; rfl
  · rw [if_neg he, if_neg he, fo_one, estep_3]
theorem fo_on5 (s : ES) (l : List Int) : fo estep (obf 5 l) s = .ok { s with sg := if l = [] then s.sg else l } := by
  unfold obf
  by_cases he : l = []
  · rw [if_pos he, if_pos he]; rfl
  · rw [if_neg he, if_neg he, fo_one, estep_5]
/-- An envelope with a key, read over what is there. -/
theorem fo_over {x : EV} (hx : EOk x) (hh : x.has = true) (s : ES) :
    fo estep (ebf x) s = .ok ⟨some (some x.k, some x.d0), if x.d1 = [] then s.ty else x.d1, if x.d2 = [] then s.pl else x.d2, if x.d3 = [] then s.sg else x.d3⟩ := by
  unfold ebf
  rw [hh, fo_app]
  have h1 : fo estep [⟨1, 2, 0, kb x.k x.d0⟩] s = .ok { s with key := some (some x.k, some x.d0) } := by
    rw [fo_one, estep_1, wf_kb hx.k0 hx.k1 hx.b0 (by have := hx.n0; omega)]
    show R3.ok _ = R3.ok _
    have e : ∀ ks : KS, [(⟨1, 0, ku x.k, []⟩ : Fld), ⟨2, 2, 0, x.d0⟩].foldl kstep ks = (some x.k, some x.d0) := by
      intro ks
      simp [kstep, ku_wrap x.k hx.k0 hx.k1]
    rw [e]
  have h1' : fo estep (if true = true then [⟨1, 2, 0, kb x.k x.d0⟩] else []) s = .ok { s with key := some (some x.k, some x.d0) } := h1
  rw [h1']
  simp only
  rw [fo_app, fo_on2]
  simp only
  rw [fo_app, fo_on3]
  simp only
  rw [fo_on5]
theorem ERes_joined {x z y : EV} {ok : Bool} (hx : EOk x) (hz : EOk z) (hxh : x.has = true) (hzh : z.has = true) (h : ERes (eb x ++ eb z) y ok) :
    ok = true ∧ y.has = true ∧ y.k = z.k ∧ y.d0 = z.d0 ∧ y.d1 = (if z.d1 = [] then x.d1 else z.d1) ∧ y.d2 = (if z.d2 = [] then x.d2 else z.d2) ∧ y.d3 = (if z.d3 = [] then x.d3 else z.d3) := by
  have he : Byt (eb z) := by
    unfold eb
    refine Byt.app ?_ ((ob_byt (by omega) (by omega) hz.b1 hz.n1).app ((ob_byt (by omega) (by omega) hz.b2 hz.n2).app (ob_byt (by omega) (by omega) hz.b3 hz.n3)))
    rw [hzh]
    exact wb_byt (by omega) (by omega) (kb_byt hz.k0 hz.k1 hz.b0 (by have := hz.n0; omega)) (by have := kb_len z.k z.d0; have := hz.n0; omega)
  have F1 := From_eb (From.start (eb x ++ eb z)) hx he
  have F2 := From_eb (r := []) (by rw [List.append_nil]; exact F1) hz Byt.nil
  have hw := F2.done
  have hf : fo estep ([] ++ ebf x ++ ebf z) ES.zero = .ok ⟨some (some z.k, some z.d0), if z.d1 = [] then x.d1 else z.d1, if z.d2 = [] then x.d2 else z.d2, if z.d3 = [] then x.d3 else z.d3⟩ := by
    rw [fo_app, List.nil_append, fo_ebf hx]
    simp only
    rw [fo_over hz hzh]
    rfl
  unfold ERes at h
  rw [whole_ok hw, hf] at h
  obtain ⟨h1, h2⟩ := h
  obtain ⟨a1, a2⟩ := h2.key
  simp only [Prod.mk.injEq, Option.some.injEq] at a2
  exact ⟨h1, a1, a2.1.symm, a2.2.symm, h2.ty, h2.pl, h2.sg⟩
end Go.Proofs.YtipleaojejbkpaaDoor
