/- Fields of bytes that are left out where they are empty; envelopes' messages, their parts long: for seats without peer records. -/
import Derived.Test.YtddofkeajinjpaaGreatDoorEMoreP
import Derived.Test.YtddofkeajinjpaaGreatDoorTag
import Derived.Test.YtddofkeajinjpaaGreatDoorMar
import Derived.Test.YtddofkeajinjpaaGreatDoorEnvE
namespace Go.Proofs.YtddofkeajinjpaaGreatDoor
open Go Go.RowKit
set_option linter.unusedVariables false
set_option linter.unusedSimpArgs false
set_option maxRecDepth 100000

theorem ob_len {f : Int} (l : List Int) : (ob f l).length ≤ l.length + 11 := by
  unfold ob
  split
  · simp
  · have := wb_len f l; have := (vint_len l.length).2; omega
theorem ob_nil {f : Int} {l : List Int} (h : l.length = 0) : ob f l = [] := by unfold ob; rw [if_pos (List.eq_nil_of_length_eq_zero h)]
theorem ob_some {f : Int} {l : List Int} (h : 0 < l.length) : ob f l = wb f l := by unfold ob; rw [if_neg (by intro h0; rw [h0] at h; simp at h)]

/-- Bytes of one's own, so far. -/
def SoFar (w : World) (q : List Int) (v : Value) (wx : World) : Prop := ∃ B1 c1, v = .slice B1 q.length c1 ∧ Own wx 5 w.heap.size (.slice B1 q.length c1) q ∧ Kp no w wx

/-- What is right of an envelope's parts, its payload long. -/
structure EOkL (x : EV) : Prop where
  k0 : -2147483648 ≤ x.k
  k1 : x.k ≤ 2147483647
  b0 : Byt x.d0
  b1 : Byt x.d1
  b2 : Byt x.d2
  b3 : Byt x.d3
  n0 : x.d0.length ≤ 300
  n1 : x.d1.length ≤ 10000
  n2 : x.d2.length ≤ 10000
  n3 : x.d3.length ≤ 10000
theorem ob_bytL {f : Int} {l : List Int} (h0 : 0 ≤ f) (h1 : f ≤ 30) (hl : Byt l) (hn : l.length ≤ 10000) : Byt (ob f l) := by
  unfold ob
  split
  · exact Byt.nil
  · exact wb_byt h0 h1 hl (by omega)
theorem From_obL {b r : List Int} {p : List Fld} {f : Int} {l : List Int} (h : From b p (ob f l ++ r)) (h0 : 1 ≤ f) (h1 : f ≤ 15) (hl : Byt l) (hn : l.length ≤ 10000) (hr : Byt r) : From b (p ++ obf f l) r := by
  unfold ob at h
  unfold obf
  split at h
  · rename_i he
    rw [if_pos he]
    simpa using h
  · rename_i he
    rw [if_neg he]
    exact h.step ((wb_byt (by omega) (by omega) hl (by omega)).app hr) (by have := wb_pos f l; rw [List.length_append]; omega) (hd_wb f l r h0 h1 (by omega))
theorem eb_bytL {x : EV} (hx : EOkL x) : Byt (eb x) := by
  unfold eb
  refine Byt.app ?_ ((ob_bytL (by omega) (by omega) hx.b1 hx.n1).app ((ob_bytL (by omega) (by omega) hx.b2 hx.n2).app (ob_bytL (by omega) (by omega) hx.b3 hx.n3)))
  split
  · exact wb_byt (by omega) (by omega) (kb_byt hx.k0 hx.k1 hx.b0 (by have := hx.n0; omega)) (by have := kb_len x.k x.d0; have := hx.n0; omega)
  · exact Byt.nil
theorem eb_lenL {x : EV} (hx : EOkL x) : (eb x).length ≤ 40000 := by
  have := ob_len (f := 2) x.d1; have := ob_len (f := 3) x.d2; have := ob_len (f := 5) x.d3
  have := hx.n0; have := hx.n1; have := hx.n2; have := hx.n3
  unfold eb
  simp only [List.length_append]
  split
  · have := kb_len x.k x.d0; have := wb_len 1 (kb x.k x.d0); have := (vint_len (kb x.k x.d0).length).2; omega
  · simp only [List.length_nil]; omega
theorem wf_ebL {x : EV} (hx : EOkL x) : wf (eb x) = .ok (ebf x) := by
  have hb5 := ob_bytL (f := 5) (by omega) (by omega) hx.b3 hx.n3
  have hb3 := (ob_bytL (f := 3) (by omega) (by omega) hx.b2 hx.n2).app hb5
  have hb2 := (ob_bytL (f := 2) (by omega) (by omega) hx.b1 hx.n1).app hb3
  have hk := kb_byt hx.k0 hx.k1 hx.b0 (by have := hx.n0; omega)
  have hkl := kb_len x.k x.d0
  have h : From (eb x) [] ((if x.has then wb 1 (kb x.k x.d0) else []) ++ (ob 2 x.d1 ++ (ob 3 x.d2 ++ ob 5 x.d3))) := From.start (eb x)
  have h1 : From (eb x) ([] ++ (if x.has then [⟨1, 2, 0, kb x.k x.d0⟩] else [])) (ob 2 x.d1 ++ (ob 3 x.d2 ++ ob 5 x.d3)) := by
    cases hh : x.has with
    | false => rw [hh] at h; simpa using h
    | true =>
      rw [hh] at h
      have h : From (eb x) [] (wb 1 (kb x.k x.d0) ++ (ob 2 x.d1 ++ (ob 3 x.d2 ++ ob 5 x.d3))) := h
      exact h.step ((wb_byt (by omega) (by omega) hk (by have := hx.n0; omega)).app hb2) (by have := wb_pos 1 (kb x.k x.d0); rw [List.length_append]; omega) (hd_wb 1 _ _ (by omega) (by omega) (by have := hx.n0; omega))
  have h2 := From_obL h1 (by omega) (by omega) hx.b1 hx.n1 hb3
  have h3 := From_obL h2 (by omega) (by omega) hx.b2 hx.n2 hb5
  have h5 := From_obL (r := []) (by rw [List.append_nil]; exact h3) (by omega) (by omega) hx.b3 hx.n3 Byt.nil
  have e2 : ebf x = [] ++ (if x.has then [⟨1, 2, 0, kb x.k x.d0⟩] else []) ++ obf 2 x.d1 ++ obf 3 x.d2 ++ obf 5 x.d3 := by simp [ebf]
  rw [e2]
  exact h5.done
theorem fo_ebfL {x : EV} (hx : EOkL x) : fo estep (ebf x) ES.zero = .ok (est x) := by
  unfold ebf
  rw [fo_app]
  have h1 : fo estep (if x.has then [⟨1, 2, 0, kb x.k x.d0⟩] else []) ES.zero = .ok ⟨if x.has then some (some x.k, some x.d0) else none, [], [], []⟩ := by
    cases hh : x.has with
    | false => rfl
    | true =>
      show fo estep [⟨1, 2, 0, kb x.k x.d0⟩] ES.zero = _
      rw [fo_one, estep_1, wf_kb hx.k0 hx.k1 hx.b0 (by have := hx.n0; omega)]
      show R3.ok _ = R3.ok _
      have := kall_kb x.k x.d0 hx.k0 hx.k1
      unfold kall at this
      simp only [ES.zero, Option.getD_none]
      rw [this]; rfl
  rw [h1]
  simp only
  rw [fo_app, fo_obf2 _ _ rfl]
  simp only
  rw [fo_app, fo_obf3 _ _ rfl]
  simp only
  rw [fo_obf5 _ _ rfl]
  rfl
theorem ERes_one {x y : EV} {ok : Bool} (hx : EOkL x) (h : ERes (eb x) y ok) : ok = true ∧ y.d2 = x.d2 := by
  unfold ERes at h
  rw [whole_ok (wf_ebL hx), fo_ebfL hx] at h
  have he : efin (.ok (est x)) = .ok (est x) := by
    unfold est
    cases hh : x.has with
    | false => rfl
    | true => rfl
  rw [he] at h
  exact ⟨h.1, h.2.pl⟩
end Go.Proofs.YtddofkeajinjpaaGreatDoor
