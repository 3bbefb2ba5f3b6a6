/- Envelopes' messages as the laws join them, plain: what is read of them. -/
import Derived.Test.YtddofkeajinjpaaGreatDoorEnvC
import Derived.Test.YtddofkeajinjpaaGreatDoorPlain
namespace Go.Proofs.YtddofkeajinjpaaGreatDoor
open Go
set_option linter.unusedVariables false
set_option linter.unusedSimpArgs false
set_option maxRecDepth 100000

/-- A field of bytes that is left out where they are empty. -/
def ob (f : Int) (l : List Int) : List Int := if l = [] then [] else wb f l
def obf (f : Int) (l : List Int) : List Fld := if l = [] then [] else [⟨f, 2, 0, l⟩]
/-- An envelope's message, and its fields. -/
def eb (x : EV) : List Int := (if x.has then wb 1 (kb x.k x.d0) else []) ++ (ob 2 x.d1 ++ (ob 3 x.d2 ++ ob 5 x.d3))
def ebf (x : EV) : List Fld := (if x.has then [⟨1, 2, 0, kb x.k x.d0⟩] else []) ++ (obf 2 x.d1 ++ (obf 3 x.d2 ++ obf 5 x.d3))
/-- What is right of an envelope's parts. -/
structure EOk (x : EV) : Prop where
  k0 : -2147483648 ≤ x.k
  k1 : x.k ≤ 2147483647
  b0 : Byt x.d0
  b1 : Byt x.d1
  b2 : Byt x.d2
  b3 : Byt x.d3
  n0 : x.d0.length ≤ 300
  n1 : x.d1.length ≤ 300
  n2 : x.d2.length ≤ 300
  n3 : x.d3.length ≤ 300
  plain : x.has = false → x.k = 0 ∧ x.d0 = []
theorem ob_byt {f : Int} {l : List Int} (h0 : 0 ≤ f) (h1 : f ≤ 30) (hl : Byt l) (hn : l.length ≤ 300) : Byt (ob f l) := by
  unfold ob
  split
  · exact Byt.nil
  · exact wb_byt h0 h1 hl (by omega)
theorem From_ob {b r : List Int} {p : List Fld} {f : Int} {l : List Int} (h : From b p (ob f l ++ r)) (h0 : 1 ≤ f) (h1 : f ≤ 15) (hl : Byt l) (hn : l.length ≤ 300) (hr : Byt r) : From b (p ++ obf f l) r := by
  unfold ob at h
  unfold obf
  split at h
  · rename_i he
    rw [if_pos he]
    simpa using h
  · rename_i he
    rw [if_neg he]
    exact h.step ((wb_byt (by omega) (by omega) hl (by omega)).app hr) (by have := wb_pos f l; rw [List.length_append]; omega) (hd_wb f l r h0 h1 (by omega))
theorem From_eb {b r : List Int} {p : List Fld} {x : EV} (h : From b p (eb x ++ r)) (hx : EOk x) (hr : Byt r) : From b (p ++ ebf x) r := by
  have hb5 := (ob_byt (f := 5) (by omega) (by omega) hx.b3 hx.n3).app hr
  have hb3 := (ob_byt (f := 3) (by omega) (by omega) hx.b2 hx.n2).app hb5
  have hb2 := (ob_byt (f := 2) (by omega) (by omega) hx.b1 hx.n1).app hb3
  have hk := kb_byt hx.k0 hx.k1 hx.b0 (by have := hx.n0; omega)
  have hkl := kb_len x.k x.d0
  have e : eb x ++ r = (if x.has then wb 1 (kb x.k x.d0) else []) ++ (ob 2 x.d1 ++ (ob 3 x.d2 ++ (ob 5 x.d3 ++ r))) := by simp [eb]
  rw [e] at h
  have h1 : From b (p ++ (if x.has then [⟨1, 2, 0, kb x.k x.d0⟩] else [])) (ob 2 x.d1 ++ (ob 3 x.d2 ++ (ob 5 x.d3 ++ r))) := by
    cases hh : x.has with
    | false => rw [hh] at h; simpa using h
    | true =>
      rw [hh] at h
      have h : From b p (wb 1 (kb x.k x.d0) ++ (ob 2 x.d1 ++ (ob 3 x.d2 ++ (ob 5 x.d3 ++ r)))) := h
      exact h.step ((wb_byt (by omega) (by omega) hk (by have := hx.n0; omega)).app hb2) (by have := wb_pos 1 (kb x.k x.d0); rw [List.length_append]; omega) (hd_wb 1 _ _ (by omega) (by omega) (by have := hx.n0; omega))
  have h2 := From_ob h1 (by omega) (by omega) hx.b1 hx.n1 hb3
  have h3 := From_ob h2 (by omega) (by omega) hx.b2 hx.n2 hb5
  have h5 := From_ob h3 (by omega) (by omega) hx.b3 hx.n3 hr
  have e2 : p ++ ebf x = p ++ (if x.has then [⟨1, 2, 0, kb x.k x.d0⟩] else []) ++ obf 2 x.d1 ++ obf 3 x.d2 ++ obf 5 x.d3 := by simp [ebf]
  rw [e2]
  exact h5
/-- The state that an envelope's fields tell. -/
def est (x : EV) : ES := ⟨if x.has then some (some x.k, some x.d0) else none, x.d1, x.d2, x.d3⟩
theorem fo_obf2 (s : ES) (l : List Int) (h : s.ty = []) : fo estep (obf 2 l) s = .ok { s with ty := l } := by
  unfold obf
  split
  · rename_i he; subst he; rw [← h]; rfl
  · rw [fo_one, estep_2]
theorem fo_obf3 (s : ES) (l : List Int) (h : s.pl = []) : fo estep (obf 3 l) s = .ok { s with pl := l } := by
  unfold obf
  split
  · rename_i he; subst he; rw [← h]; rfl
  · rw [fo_one, estep_3]
theorem fo_obf5 (s : ES) (l : List Int) (h : s.sg = []) : fo estep (obf 5 l) s = .ok { s with sg := l } := by
  unfold obf
  split
  · rename_i he; subst he; rw [← h]; rfl
  · rw [fo_one, estep_5]
theorem fo_ebf {x : EV} (hx : EOk x) : fo estep (ebf x) ES.zero = .ok (est x) := by
  unfold ebf
  rw [fo_app]
  have h1 : fo estep (if x.has then [⟨1, 2, 0, kb x.k x.d0⟩] else []) ES.zero = .ok ⟨if x.has then some (some x.k, some x.d0) else none, [], [], []⟩ := by
    cases hh : x.has with
    | false => rfl
    | true =>
      show fo estep [⟨1, 2, 0, kb x.k x.d0⟩] ES.zero = _
      rw [fo_one, estep_1, wf_kb hx.k0 hx.k1 hx.b0 (by have := hx.n0; omega)]
      show R3.ok _ = R3.ok _
      have := kall_kb x.k x.d0 hx.k0 hx.k1
      unfold kall at this
      simp only [ES.zero, Option.getD_none]
      rw [this]; rfl
  rw [h1]
  simp only
  rw [fo_app, fo_obf2 _ _ rfl]
  simp only
  rw [fo_app, fo_obf3 _ _ rfl]
  simp only
  rw [fo_obf5 _ _ rfl]
  rfl
theorem fo_other (s : ES) (y : Fld) (h : y.num = 4 ∨ 6 ≤ y.num) : fo estep [y] s = .ok s := by
  rw [fo_one, estep_num] <;> omega
theorem efin_est {x : EV} (hx : EOk x) : efin (.ok (est x)) = .ok (est x) := by
  unfold est
  cases hh : x.has with
  | false => rfl
  | true => rfl
theorem told_est {x y : EV} (hx : EOk x) (h : ETold (est x) y) : y.has = x.has ∧ y.k = x.k ∧ y.d0 = x.d0 ∧ y.d1 = x.d1 ∧ y.d2 = x.d2 ∧ y.d3 = x.d3 := by
  have hk := h.key
  have h1 := h.ty
  have h2 := h.pl
  have h3 := h.sg
  unfold est at hk h1 h2 h3
  cases hh : x.has with
  | false =>
    rw [hh] at hk
    obtain ⟨a1, a2, a3⟩ := hk
    obtain ⟨p1, p2⟩ := hx.plain hh
    exact ⟨a1, by rw [a2, p1], by rw [a3, p2], h1, h2, h3⟩
  | true =>
    rw [hh] at hk
    obtain ⟨a1, a2⟩ := hk
    simp only [Prod.mk.injEq, Option.some.injEq] at a2
    exact ⟨a1, a2.1.symm, a2.2.symm, h1, h2, h3⟩
/-- Fields that an envelope does not have change nothing. -/
theorem ERes_more {x y : EV} {ok : Bool} {g v : Int} {m : List Int} (hx : EOk x) (g0 : 6 ≤ g) (g1 : g ≤ 100000) (v0 : 0 ≤ v) (v1 : v < 18446744073709551616) (hm : Byt m) (hn : m.length ≤ 300)
    (h : ERes (other 4 0 m false ++ (eb x ++ (other g v [] true ++ (other g 0 m false ++ other 4 v [] true)))) y ok) : ok = true ∧ y.has = x.has ∧ y.k = x.k ∧ y.d0 = x.d0 ∧ y.d1 = x.d1 ∧ y.d2 = x.d2 ∧ y.d3 = x.d3 := by
  have z1 : Byt (other 4 v [] true) := other_byt (by omega) (by omega) v0 v1 Byt.nil (by simp)
  have z2 : Byt (other g 0 m false ++ other 4 v [] true) := (other_byt (by omega) g1 (by omega) (by omega) hm (by omega)).app z1
  have z3 : Byt (other g v [] true ++ (other g 0 m false ++ other 4 v [] true)) := (other_byt (by omega) g1 v0 v1 Byt.nil (by simp)).app z2
  have he : Byt (eb x) := by
    unfold eb
    refine Byt.app ?_ ((ob_byt (by omega) (by omega) hx.b1 hx.n1).app ((ob_byt (by omega) (by omega) hx.b2 hx.n2).app (ob_byt (by omega) (by omega) hx.b3 hx.n3)))
    split
    · exact wb_byt (by omega) (by omega) (kb_byt hx.k0 hx.k1 hx.b0 (by have := hx.n0; omega)) (by have := kb_len x.k x.d0; have := hx.n0; omega)
    · exact Byt.nil
  obtain ⟨y1, n1, F1⟩ := From_other (From.start (other 4 0 m false ++ (eb x ++ (other g v [] true ++ (other g 0 m false ++ other 4 v [] true))))) (by omega) (by omega) (by omega) (by omega) hm (by omega) (he.app z3)
  have F2 := From_eb F1 hx z3
  obtain ⟨y3, n3, F3⟩ := From_other F2 (by omega) g1 v0 v1 Byt.nil (by simp) z2
  obtain ⟨y4, n4, F4⟩ := From_other F3 (by omega) g1 (by omega) (by omega) hm (by omega) z1
  obtain ⟨y5, n5, F5⟩ := From_other (r := []) (by rw [List.append_nil]; exact F4) (by omega) (by omega) v0 v1 Byt.nil (by simp) Byt.nil
  have hw := F5.done
  have hf : fo estep ([] ++ [y1] ++ ebf x ++ [y3] ++ [y4] ++ [y5]) ES.zero = .ok (est x) := by
    rw [fo_app, fo_app, fo_app, fo_app, List.nil_append, fo_other _ y1 (by omega)]
    simp only
    rw [fo_ebf hx]
    simp only
    rw [fo_other _ y3 (by omega)]
    simp only
    rw [fo_other _ y4 (by omega)]
    simp only
    rw [fo_other _ y5 (by omega)]
  unfold ERes at h
  rw [whole_ok hw, hf, efin_est hx] at h
  exact ⟨h.1, told_est hx h.2⟩
end Go.Proofs.YtddofkeajinjpaaGreatDoor
