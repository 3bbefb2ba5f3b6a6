/- Fields of other numbers in a record, plain. -/
import Derived.Test.YtipleaojejbkpaaDoorRcC
import Derived.Test.YtipleaojejbkpaaDoorPlain
import Derived.Test.YtipleaojejbkpaaDoorField
namespace Go.Proofs.YtipleaojejbkpaaDoor
open Go
set_option linter.unusedVariables false
set_option linter.unusedSimpArgs false
set_option maxRecDepth 100000

/-- An address with other fields; all of them. -/
def inn (g v : Int) (m a : List Int) : List Int := other g v [] true ++ (other 1 0 a false ++ other g 0 m false)
def am (g v : Int) (m a : List Int) : List Int := other 3 0 (inn g v m a) false
def ams (g v : Int) (m : List Int) (L : List (List Int)) : List Int := (L.map (am g v m)).flatten
def moreB (g v : Int) (m : List Int) (x : RS) : List Int := (other g 0 m false ++ (other 1 0 x.peer false ++ (other g v [] true ++ other 2 x.seq [] true))) ++ ams g v m x.addrs
theorem other_len (g u : Int) (l : List Int) (b : Bool) : (other g u l b).length ≤ l.length + 20 := by
  unfold other
  split
  · have := (vint_len (g * 8)).2; have := (vint_len u).2; rw [List.length_append]; omega
  · have := (vint_len (g * 8 + 2)).2; have := (vint_len (l.length : Int)).2; simp only [List.length_append]; omega
theorem inn_len (g v : Int) (m a : List Int) : (inn g v m a).length ≤ a.length + m.length + 60 := by
  unfold inn
  have := other_len g v [] true; have := other_len 1 0 a false; have := other_len g 0 m false
  simp only [List.length_append, List.length_nil] at *; omega
theorem am_len (g v : Int) (m a : List Int) : (am g v m a).length ≤ a.length + m.length + 80 := by
  unfold am
  have := other_len 3 0 (inn g v m a) false; have := inn_len g v m a; omega
theorem ams_next (g v : Int) (m : List Int) (L : List (List Int)) (k : Nat) (hk : k < L.length) : ams g v m (L.take (k + 1)) = ams g v m (L.take k) ++ am g v m (L.getD k []) := by
  unfold ams
  rw [take_next L k hk, List.map_append, List.flatten_append]
  simp
structure MoreOk (g v : Int) (m : List Int) : Prop where
  g0 : 4 ≤ g
  g1 : g ≤ 100000
  v0 : 0 ≤ v
  v1 : v < 18446744073709551616
  b : Byt m
  n : m.length ≤ 300
theorem inn_byt {g v : Int} {m a : List Int} (h : MoreOk g v m) (ha : Byt a) (hn : a.length ≤ 300) : Byt (inn g v m a) := by
  have := h.g0; have := h.g1; have := h.n
  exact (other_byt (by omega) (by omega) h.v0 h.v1 Byt.nil (by simp)).app ((other_byt (by omega) (by omega) (by omega) (by omega) ha (by omega)).app (other_byt (by omega) (by omega) (by omega) (by omega) h.b (by omega)))
theorem am_byt {g v : Int} {m a : List Int} (h : MoreOk g v m) (ha : Byt a) (hn : a.length ≤ 300) : Byt (am g v m a) := by
  have := h.n; have := inn_len g v m a
  exact other_byt (by omega) (by omega) (by omega) (by omega) (inn_byt h ha hn) (by omega)
theorem ams_byt {g v : Int} {m : List Int} (h : MoreOk g v m) : ∀ {L : List (List Int)}, (∀ a ∈ L, Byt a) → (∀ a ∈ L, a.length ≤ 300) → Byt (ams g v m L)
  | [], _, _ => Byt.nil
  | a :: L, hb, hn => by
    have e : ams g v m (a :: L) = am g v m a ++ ams g v m L := by simp [ams]
    rw [e]
    exact (am_byt h (hb a (by simp)) (hn a (by simp))).app (ams_byt h (fun b hb' => hb b (by simp [hb'])) (fun b hb' => hn b (by simp [hb'])))
theorem whole_inn {g v : Int} {m a : List Int} (h : MoreOk g v m) (ha : Byt a) (hn : a.length ≤ 300) : whole astep (inn g v m a) [] = .ok a := by
  have g0 := h.g0; have g1 := h.g1; have hm := h.n
  have b3 : Byt (other g 0 m false) := other_byt (by omega) (by omega) (by omega) (by omega) h.b (by omega)
  have b2 : Byt (other 1 0 a false ++ other g 0 m false) := (other_byt (by omega) (by omega) (by omega) (by omega) ha (by omega)).app b3
  obtain ⟨y1, n1, F1⟩ := From_other (From.start (inn g v m a)) (by omega) (by omega) h.v0 h.v1 Byt.nil (by simp) b2
  have F2 := F1.step (f := ⟨1, 2, 0, a⟩) (r := other g 0 m false) b2 (by have := other_pos 1 0 a false; rw [List.length_append]; omega) (by rw [other_wb 1 a (by omega)]; exact hd_wb 1 a _ (by omega) (by omega) (by omega))
  obtain ⟨y3, n3, F3⟩ := From_other (r := []) (by rw [List.append_nil]; exact F2) (by omega) (by omega) (by omega) (by omega) h.b (by omega) Byt.nil
  rw [whole_ok F3.done, fo_app, fo_app, List.nil_append, fo_one, astep_0 _ y1 (by omega)]
  simp only
  rw [fo_one, astep_1]
  simp only
  rw [fo_one, astep_0 _ y3 (by omega)]
def amf (g v : Int) (m : List Int) (L : List (List Int)) : List Fld := L.map (fun a => ⟨3, 2, 0, inn g v m a⟩)
theorem From_am {g v : Int} {m : List Int} (hk : MoreOk g v m) : ∀ {L : List (List Int)} {b r : List Int} {p : List Fld}, From b p (ams g v m L ++ r) → (∀ a ∈ L, Byt a) → (∀ a ∈ L, a.length ≤ 300) → Byt r → From b (p ++ amf g v m L) r
  | [], b, r, p, h, _, _, _ => by simpa [ams, amf] using h
  | a :: L, b, r, p, h, hb, hn, hr => by
    have ha := hb a (by simp)
    have hna := hn a (by simp)
    have hL := ams_byt hk (L := L) (fun c hc => hb c (by simp [hc])) (fun c hc => hn c (by simp [hc]))
    have hil := inn_len g v m a
    have hm := hk.n
    have e : ams g v m (a :: L) ++ r = am g v m a ++ (ams g v m L ++ r) := by simp [ams]
    rw [e] at h
    have e2 : am g v m a ++ (ams g v m L ++ r) = vint (3 * 8 + 2) ++ (vint ((inn g v m a).length : Int) ++ (inn g v m a ++ (ams g v m L ++ r))) := by simp [am, other]
    have h1 : From b (p ++ [⟨3, 2, 0, inn g v m a⟩]) (ams g v m L ++ r) := h.step ((am_byt hk ha hna).app (hL.app hr)) (by have := other_pos 3 0 (inn g v m a) false; rw [List.length_append]; unfold am; omega) (by rw [e2]; exact hd_bytes 3 (inn g v m a) _ (by omega) (by omega) (by omega))
    have h2 := From_am hk (L := L) h1 (fun c hc => hb c (by simp [hc])) (fun c hc => hn c (by simp [hc])) hr
    have e3 : p ++ amf g v m (a :: L) = p ++ [⟨3, 2, 0, inn g v m a⟩] ++ amf g v m L := by simp [amf]
    rw [e3]; exact h2
theorem fo_amf {g v : Int} {m : List Int} (hk : MoreOk g v m) : ∀ {L : List (List Int)} (s : RS), (∀ a ∈ L, Byt a) → (∀ a ∈ L, a.length ≤ 300) → fo rstep (amf g v m L) s = .ok { s with addrs := s.addrs ++ L }
  | [], s, _, _ => by simp [amf, fo]
  | a :: L, s, hb, hn => by
    have e : amf g v m (a :: L) = [⟨3, 2, 0, inn g v m a⟩] ++ amf g v m L := by simp [amf]
    rw [e, fo_app, fo_one, rstep_3, whole_inn hk (hb a (by simp)) (hn a (by simp))]
    simp only [addressed]
    rw [fo_amf hk _ (fun c hc => hb c (by simp [hc])) (fun c hc => hn c (by simp [hc]))]
    simp
theorem RRes_more {x : RS} {g v : Int} {m : List Int} (hx : ROk x) (hk : MoreOk g v m) {y : RV} {ok : Bool} (h : RRes (moreB g v m x) y ok) : ok = true ∧ y.d = x.peer ∧ y.seq = x.seq ∧ y.L = x.addrs := by
  have g0 := hk.g0; have g1 := hk.g1; have hm := hk.n; have hp := hx.np
  have b5 := ams_byt hk hx.ba hx.na
  have b4 : Byt (other 2 x.seq [] true ++ ams g v m x.addrs) := (other_byt (by omega) (by omega) hx.s0 hx.s1 Byt.nil (by simp)).app b5
  have b3 : Byt (other g v [] true ++ (other 2 x.seq [] true ++ ams g v m x.addrs)) := (other_byt (by omega) (by omega) hk.v0 hk.v1 Byt.nil (by simp)).app b4
  have b2 : Byt (other 1 0 x.peer false ++ (other g v [] true ++ (other 2 x.seq [] true ++ ams g v m x.addrs))) := (other_byt (by omega) (by omega) (by omega) (by omega) hx.bp (by omega)).app b3
  have e : moreB g v m x = other g 0 m false ++ (other 1 0 x.peer false ++ (other g v [] true ++ (other 2 x.seq [] true ++ ams g v m x.addrs))) := by simp [moreB]
  have e4 : other 2 x.seq [] true ++ ams g v m x.addrs = [2 * 8] ++ vint x.seq ++ ams g v m x.addrs := by
    rw [show other 2 x.seq [] true = vint (2 * 8) ++ vint x.seq from by simp [other], vint_1 (2 * 8) (by omega)]
  obtain ⟨y1, n1, F1⟩ := From_other (by rw [← e]; exact From.start (moreB g v m x)) (by omega) (by omega) (by omega) (by omega) hk.b (by omega) b2
  have F2 := F1.step (f := ⟨1, 2, 0, x.peer⟩) (r := other g v [] true ++ (other 2 x.seq [] true ++ ams g v m x.addrs)) b2 (by have := other_pos 1 0 x.peer false; rw [List.length_append]; omega) (by rw [other_wb 1 x.peer (by omega)]; exact hd_wb 1 x.peer _ (by omega) (by omega) (by omega))
  obtain ⟨y3, n3, F3⟩ := From_other F2 (by omega) (by omega) hk.v0 hk.v1 Byt.nil (by simp) b4
  have F4 := F3.step (f := ⟨2, 0, x.seq, []⟩) (r := ams g v m x.addrs) b4 (by have := other_pos 2 x.seq [] true; rw [List.length_append]; omega) (by rw [e4]; exact hd_small 2 x.seq _ (by omega) (by omega) hx.s0 hx.s1)
  have F5 := From_am hk (r := []) (by rw [List.append_nil]; exact F4) hx.ba hx.na Byt.nil
  unfold RRes at h
  rw [whole_ok F5.done, fo_app, fo_app, fo_app, fo_app, List.nil_append, fo_one, rstep_0 _ y1 (by omega) (by omega) (by omega)] at h
  simp only at h
  rw [fo_one, rstep_1] at h
  simp only at h
  rw [fo_one, rstep_0 _ y3 (by omega) (by omega) (by omega)] at h
  simp only at h
  rw [fo_one, rstep_2] at h
  simp only at h
  rw [fo_amf hk _ hx.ba hx.na] at h
  exact ⟨h.1, h.2.p, h.2.q, by rw [h.2.a]; simp [RS.zero]⟩
end Go.Proofs.YtipleaojejbkpaaDoor
