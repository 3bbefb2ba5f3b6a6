/- A record's message, plain: what is read of it. -/
import Derived.Test.YtipleaojejbkpaaDoorRMar
import Derived.Test.YtipleaojejbkpaaDoorEMoreP
namespace Go.Proofs.YtipleaojejbkpaaDoor
open Go
set_option linter.unusedVariables false
set_option linter.unusedSimpArgs false
set_option maxRecDepth 100000

/-- What is right of a record's parts. -/
structure ROk (x : RS) : Prop where
  bp : Byt x.peer
  np : x.peer.length ≤ 300
  s0 : 0 ≤ x.seq
  s1 : x.seq < 18446744073709551616
  ba : ∀ a ∈ x.addrs, Byt a
  na : ∀ a ∈ x.addrs, a.length ≤ 300
  nn : x.addrs.length ≤ 20
def sqf (q : Int) : List Fld := if q = 0 then [] else [⟨2, 0, q, []⟩]
def raf (L : List (List Int)) : List Fld := L.map (fun a => ⟨3, 2, 0, ob 1 a⟩)
def rbf (x : RS) : List Fld := obf 1 x.peer ++ sqf x.seq ++ raf x.addrs
theorem sqb_byt {q : Int} (h0 : 0 ≤ q) (h1 : q < 18446744073709551616) : Byt (sqb q) := by
  unfold sqb
  split
  · exact Byt.nil
  · exact (Byt.one (by omega) (by omega)).app (vint_byt q h0 h1)
theorem aw_byt {a : List Int} (h : Byt a) (hn : a.length ≤ 300) : Byt (aw a) := by
  have := ob_len (f := 1) a
  exact wb_byt (by omega) (by omega) (ob_byt (by omega) (by omega) h hn) (by omega)
theorem ras_cons (a : List Int) (L : List (List Int)) : ras (a :: L) = aw a ++ ras L := by simp [ras]
theorem ras_byt : ∀ {L : List (List Int)}, (∀ a ∈ L, Byt a) → (∀ a ∈ L, a.length ≤ 300) → Byt (ras L)
  | [], _, _ => Byt.nil
  | a :: L, h, hn => by
    rw [ras_cons]
    exact (aw_byt (h a (by simp)) (hn a (by simp))).app (ras_byt (fun b hb => h b (by simp [hb])) (fun b hb => hn b (by simp [hb])))
theorem ras_len : ∀ {L : List (List Int)}, (∀ a ∈ L, a.length ≤ 300) → (ras L).length ≤ 400 * L.length
  | [], _ => by simp [ras]
  | a :: L, hn => by
    rw [ras_cons, List.length_append, List.length_cons]
    have := aw_len a
    have := hn a (by simp)
    have := ras_len (L := L) (fun b hb => hn b (by simp [hb]))
    omega
theorem rb_byt {x : RS} (h : ROk x) : Byt (rb x) := ((ob_byt (by omega) (by omega) h.bp h.np).app (sqb_byt h.s0 h.s1)).app (ras_byt h.ba h.na)
theorem rb_len {x : RS} (h : ROk x) : (rb x).length ≤ 9000 := by
  unfold rb
  have := ob_len (f := 1) x.peer
  have := sqb_len x.seq
  have := ras_len h.na
  have := h.np
  have := h.nn
  simp only [List.length_append]
  omega
theorem From_sq {b r : List Int} {p : List Fld} {q : Int} (h : From b p (sqb q ++ r)) (h0 : 0 ≤ q) (h1 : q < 18446744073709551616) (hr : Byt r) : From b (p ++ sqf q) r := by
  have hb := (sqb_byt h0 h1).app hr
  unfold sqb at h hb
  unfold sqf
  split at h
  · rename_i he
    rw [if_pos he]
    simpa using h
  · rename_i he
    rw [if_neg he]
    rw [if_neg he] at hb
    exact h.step hb (by simp) (by have := hd_small 2 q r (by omega) (by omega) h0 h1; simpa using this)
theorem From_ra : ∀ {L : List (List Int)} {b r : List Int} {p : List Fld}, From b p (ras L ++ r) → (∀ a ∈ L, Byt a) → (∀ a ∈ L, a.length ≤ 300) → Byt r → From b (p ++ raf L) r
  | [], b, r, p, h, _, _, _ => by simpa [ras, raf] using h
  | a :: L, b, r, p, h, hb, hn, hr => by
    have ha := hb a (by simp)
    have hna := hn a (by simp)
    have hL := ras_byt (L := L) (fun c hc => hb c (by simp [hc])) (fun c hc => hn c (by simp [hc]))
    have hol := ob_len (f := 1) a
    rw [ras_cons, List.append_assoc] at h
    have h1 : From b (p ++ [⟨3, 2, 0, ob 1 a⟩]) (ras L ++ r) := h.step ((aw_byt ha hna).app (hL.app hr)) (by have := wb_pos 3 (ob 1 a); rw [List.length_append]; unfold aw; omega) (hd_wb 3 (ob 1 a) (ras L ++ r) (by omega) (by omega) (by omega))
    have h2 := From_ra (L := L) h1 (fun c hc => hb c (by simp [hc])) (fun c hc => hn c (by simp [hc])) hr
    have e : p ++ raf (a :: L) = p ++ [⟨3, 2, 0, ob 1 a⟩] ++ raf L := by simp [raf]
    rw [e]; exact h2
theorem From_rb {b r : List Int} {p : List Fld} {x : RS} (h : From b p (rb x ++ r)) (hx : ROk x) (hr : Byt r) : From b (p ++ rbf x) r := by
  have h3 := (ras_byt hx.ba hx.na).app hr
  have h2 := (sqb_byt hx.s0 hx.s1).app h3
  have e : rb x ++ r = ob 1 x.peer ++ (sqb x.seq ++ (ras x.addrs ++ r)) := by simp [rb]
  rw [e] at h
  have a1 := From_ob h (by omega) (by omega) hx.bp hx.np h2
  have a2 := From_sq a1 hx.s0 hx.s1 h3
  have a3 := From_ra a2 hx.ba hx.na hr
  have e2 : p ++ rbf x = p ++ obf 1 x.peer ++ sqf x.seq ++ raf x.addrs := by simp [rbf]
  rw [e2]; exact a3
theorem wf_ob {a : List Int} (h : Byt a) (hn : a.length ≤ 300) : wf (ob 1 a) = .ok (obf 1 a) := by
  have h1 := From_ob (r := []) (by rw [List.append_nil]; exact From.start (ob 1 a)) (by omega) (by omega) h hn Byt.nil
  simpa using h1.done
theorem fo_obf1 (a : List Int) : fo astep (obf 1 a) [] = .ok a := by
  unfold obf
  split
  · rename_i he; subst he; rfl
  · rw [fo_one, astep_1]
theorem whole_ob {a : List Int} (h : Byt a) (hn : a.length ≤ 300) : whole astep (ob 1 a) [] = .ok a := by rw [whole_ok (wf_ob h hn), fo_obf1]
theorem fo_raf : ∀ {L : List (List Int)} (s : RS), (∀ a ∈ L, Byt a) → (∀ a ∈ L, a.length ≤ 300) → fo rstep (raf L) s = .ok { s with addrs := s.addrs ++ L }
  | [], s, _, _ => by simp [raf, fo]
  | a :: L, s, hb, hn => by
    have e : raf (a :: L) = [⟨3, 2, 0, ob 1 a⟩] ++ raf L := by simp [raf]
    rw [e, fo_app, fo_one, rstep_3, whole_ob (hb a (by simp)) (hn a (by simp))]
    simp only [addressed]
    rw [fo_raf _ (fun c hc => hb c (by simp [hc])) (fun c hc => hn c (by simp [hc]))]
    simp
theorem fo_sqf (s : RS) (q : Int) (h : s.seq = 0) : fo rstep (sqf q) s = .ok { s with seq := q } := by
  unfold sqf
  split
  · rename_i he; subst he; rw [← h]; rfl
  · rw [fo_one, rstep_2]
theorem fo_obfr (s : RS) (l : List Int) (h : s.peer = []) : fo rstep (obf 1 l) s = .ok { s with peer := l } := by
  unfold obf
  split
  · rename_i he; subst he; rw [← h]; rfl
  · rw [fo_one, rstep_1]
theorem fo_rbf {x : RS} (hx : ROk x) : fo rstep (rbf x) RS.zero = .ok x := by
  unfold rbf
  rw [fo_app, fo_app, fo_obfr _ _ rfl]
  simp only
  rw [fo_sqf _ _ rfl]
  simp only
  rw [fo_raf _ hx.ba hx.na]
  simp [RS.zero]
theorem whole_rb {x : RS} (hx : ROk x) : whole rstep (rb x) RS.zero = .ok x := by
  have h1 := From_rb (r := []) (by rw [List.append_nil]; exact From.start (rb x)) hx Byt.nil
  have h2 := h1.done
  rw [List.nil_append] at h2
  rw [whole_ok h2, fo_rbf hx]
theorem rlive : rb ⟨[5], 3, []⟩ = [10, 1, 5, 16, 3] := by simp [rb, ob, wb, sqb, ras, vint_1]
theorem rlive_res {x : RV} {ok : Bool} (h : RRes [10, 1, 5, 16, 3] x ok) : ok = true ∧ x.seq = 3 ∧ x.d = [5] := by
  rw [← rlive] at h
  unfold RRes at h
  rw [whole_rb ⟨Byt.one (by omega) (by omega), by simp, by simp, by simp, by simp, by simp, by simp⟩] at h
  exact ⟨h.1, h.2.q, h.2.p⟩
end Go.Proofs.YtipleaojejbkpaaDoor
