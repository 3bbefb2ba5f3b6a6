/- A record's message that is cut, plain. -/
import Derived.Test.YtipleaojejbkpaaDoorRcC
import Derived.Test.YtipleaojejbkpaaDoorPlain
namespace Go.Proofs.YtipleaojejbkpaaDoor
open Go
set_option linter.unusedVariables false
set_option linter.unusedSimpArgs false
set_option maxRecDepth 100000

theorem rv_empty (k : Nat) : rv k [] = none := by cases k <;> simp [rv]
theorem rv_vi_take : ∀ (k : Nat) (v : Int) (i : Nat), 0 ≤ v → i < (vi k v).length → rv (k + 1) ((vi k v).take i) = none
  | k, v, 0, _, _ => by rw [List.take_zero]; exact rv_empty _
  | 0, v, i + 1, _, h => by simp [vi] at h
  | k + 1, v, i + 1, h0, h => by
    unfold vi at h ⊢
    split at h
    · simp at h
    · rename_i hv
      rw [if_neg hv]
      rw [List.length_cons] at h
      have ih := rv_vi_take k (v / 128) i (by omega) (by omega)
      rw [List.take_succ_cons, rv_step]
      simp only [List.length_cons, List.getD_cons_zero, List.drop_succ_cons, List.drop_zero]
      rw [if_neg (by omega), if_neg (by omega), if_neg (by omega), ih]
      rfl
theorem rv_vint_take (v : Int) (h0 : 0 ≤ v) (i : Nat) (h : i < (vint v).length) : rv 10 ((vint v).take i) = none := by
  rw [vint_eq] at h ⊢
  exact rv_vi_take 9 v i h0 h

/-- A field as it is written; cut, it is none. -/
structure Chunk (c : List Int) (f : Fld) : Prop where
  byt : Byt c
  pos : 0 < c.length
  hd : ∀ r, hd (c ++ r) = .fld f r
  cut : ∀ i, 0 < i → i < c.length → Go.Proofs.YtipleaojejbkpaaDoor.hd (c.take i) = .bad
theorem Chunk.bytes (f : Int) (l : List Int) (h0 : 1 ≤ f) (h1 : f ≤ 15) (hl : Byt l) (hn : l.length ≤ 100000) : Chunk (wb f l) ⟨f, 2, 0, l⟩ := by
  refine ⟨wb_byt (by omega) (by omega) hl (by omega), wb_pos f l, fun r => hd_wb f l r h0 h1 (by omega), fun i i0 i1 => ?_⟩
  obtain ⟨i, rfl⟩ : ∃ k, i = k + 1 := ⟨i - 1, by omega⟩
  have e : (wb f l).take (i + 1) = vint (f * 8 + 2) ++ (vint (l.length : Int) ++ l).take i := by
    rw [vint_1 (f * 8 + 2) (by omega)]; simp [wb]
  have hlen := wb_len f l
  rw [e, hd_of (tag_of f 2 _ h0 (by omega) (by omega) (by omega)) (by omega), drop_app]
  refine hdv_bytes_none ?_
  unfold bsz
  by_cases hi : i < (vint (l.length : Int)).length
  · rw [List.take_append_of_le_length (by omega), rv_vint_take _ (by omega) i hi]
  · have e2 : (vint (l.length : Int) ++ l).take i = vint (l.length : Int) ++ l.take (i - (vint (l.length : Int)).length) := by
      rw [List.take_append, List.take_of_length_le (by omega)]
    rw [e2, rv_vint _ _ (by omega) (by omega)]
    simp only [List.length_append, List.length_take]
    rw [if_neg (by omega)]
theorem Chunk.num (f q : Int) (h0 : 1 ≤ f) (h1 : f ≤ 15) (q0 : 0 ≤ q) (q1 : q < 18446744073709551616) : Chunk ([f * 8] ++ vint q) ⟨f, 0, q, []⟩ := by
  refine ⟨(Byt.one (by omega) (by omega)).app (vint_byt q q0 q1), by simp, fun r => hd_small f q r h0 h1 q0 q1, fun i i0 i1 => ?_⟩
  obtain ⟨i, rfl⟩ : ∃ k, i = k + 1 := ⟨i - 1, by omega⟩
  have e : ([f * 8] ++ vint q).take (i + 1) = vint (f * 8 + 0) ++ (vint q).take i := by
    rw [vint_1 (f * 8 + 0) (by omega)]; simp
  rw [e, hd_of (tag_of f 0 _ h0 (by omega) (by omega) (by omega)) (by omega), drop_app]
  exact hdv_num_none (rv_vint_take q q0 i (by simp at i1; omega))
theorem torn_chunks : ∀ (cs : List (List Int × Fld)), (∀ p ∈ cs, Chunk p.1 p.2) → ∀ j, wf ((cs.map (·.1)).flatten.take j) = .bad ∨ ∃ n, wf ((cs.map (·.1)).flatten.take j) = .ok ((cs.take n).map (·.2))
  | [], _, j => .inr ⟨0, by simp [wf_nil]⟩
  | (c, f) :: cs, h, j => by
    have hc : Chunk c f := h (c, f) (by simp)
    have hcs : ∀ p ∈ cs, Chunk p.1 p.2 := fun p hp => h p (by simp [hp])
    have hbs : ∀ k, Byt ((cs.map (·.1)).flatten.take k) := fun k => by
      refine Byt.take ?_ k
      intro x hx
      obtain ⟨l, hl, hxl⟩ := List.mem_flatten.1 hx
      obtain ⟨p, hp, rfl⟩ := List.mem_map.1 hl
      exact (hcs p hp).byt x hxl
    simp only [List.map_cons, List.flatten_cons]
    by_cases h0 : j = 0
    · subst h0
      exact .inr ⟨0, by simp [wf_nil]⟩
    by_cases hj : j < c.length
    · left
      rw [List.take_append_of_le_length (by omega)]
      exact (From.start _).bad (hc.byt.take j) (by rw [List.length_take]; omega) (hc.cut j (by omega) hj)
    · have e : (c ++ (cs.map (·.1)).flatten).take j = c ++ (cs.map (·.1)).flatten.take (j - c.length) := by
        rw [List.take_append, List.take_of_length_le (by omega)]
      rw [e]
      have F := (From.start (c ++ (cs.map (·.1)).flatten.take (j - c.length))).step (hc.byt.app (hbs _)) (by have := hc.pos; rw [List.length_append]; omega) (hc.hd _)
      unfold From at F
      rw [F]
      rcases torn_chunks cs hcs (j - c.length) with hb | ⟨n, hn⟩
      · left; rw [hb]; rfl
      · right
        refine ⟨n + 1, ?_⟩
        rw [hn]; simp [Res.pre]
def rcs (x : RS) : List (List Int × Fld) := (if x.peer = [] then [] else [(wb 1 x.peer, ⟨1, 2, 0, x.peer⟩)]) ++ (if x.seq = 0 then [] else [([2 * 8] ++ vint x.seq, ⟨2, 0, x.seq, []⟩)]) ++ x.addrs.map (fun a => (aw a, ⟨3, 2, 0, ob 1 a⟩))
theorem rcs_bytes (x : RS) : ((rcs x).map (·.1)).flatten = rb x := by
  unfold rcs rb ob sqb ras
  simp only [List.map_append, List.flatten_append, List.map_map]
  congr 1
  congr 1
  · split <;> simp
  · split <;> simp
theorem rcs_flds (x : RS) : (rcs x).map (·.2) = rbf x := by
  unfold rcs rbf obf sqf raf
  simp only [List.map_append, List.map_map]
  congr 1
  congr 1
  · split <;> simp
  · split <;> simp
theorem rcs_ok {x : RS} (hx : ROk x) : ∀ p ∈ rcs x, Chunk p.1 p.2 := by
  intro p hp
  unfold rcs at hp
  rcases List.mem_append.1 hp with hp | hp
  · rcases List.mem_append.1 hp with hp | hp
    · split at hp
      · simp at hp
      · obtain rfl : p = _ := by simpa using hp
        exact Chunk.bytes 1 x.peer (by omega) (by omega) hx.bp (by have := hx.np; omega)
    · split at hp
      · simp at hp
      · obtain rfl : p = _ := by simpa using hp
        exact Chunk.num 2 x.seq (by omega) (by omega) hx.s0 hx.s1
  · obtain ⟨a, ha, rfl⟩ := List.mem_map.1 hp
    have hol := ob_len (f := 1) a
    have hna := hx.na a ha
    exact Chunk.bytes 3 (ob 1 a) (by omega) (by omega) (ob_byt (by omega) (by omega) (hx.ba a ha) hna) (by omega)
theorem take_one {α : Type} (n : Nat) (l : List α) (h : l.length ≤ 1) : l.take n = [] ∨ l.take n = l := by
  cases n with
  | zero => exact .inl rfl
  | succ n => exact .inr (List.take_of_length_le (by omega))
theorem fo_part {x : RS} (hx : ROk x) (n : Nat) : ∃ s, fo rstep ((rbf x).take n) RS.zero = .ok s ∧ (s.peer = [] ∨ s.peer = x.peer) ∧ (s.seq = 0 ∨ s.seq = x.seq) ∧ ∃ m, m ≤ x.addrs.length ∧ s.addrs = x.addrs.take m := by
  unfold rbf
  rw [List.take_append, List.take_append]
  have l1 : (obf 1 x.peer).length ≤ 1 := by unfold obf; split <;> simp
  have l2 : (sqf x.seq).length ≤ 1 := by unfold sqf; split <;> simp
  generalize n - (obf 1 x.peer ++ sqf x.seq).length = n3
  generalize n - (obf 1 x.peer).length = n2
  have h1 : ∃ p, fo rstep ((obf 1 x.peer).take n) RS.zero = .ok { RS.zero with peer := p } ∧ (p = [] ∨ p = x.peer) := by
    rcases take_one n _ l1 with h | h
    · rw [h]; exact ⟨[], rfl, .inl rfl⟩
    · rw [h]; exact ⟨x.peer, fo_obfr _ _ rfl, .inr rfl⟩
  obtain ⟨p, h1, hp⟩ := h1
  have h2 : ∃ q, fo rstep ((sqf x.seq).take n2) { RS.zero with peer := p } = .ok { RS.zero with peer := p, seq := q } ∧ (q = 0 ∨ q = x.seq) := by
    rcases take_one n2 _ l2 with h | h
    · rw [h]; exact ⟨0, rfl, .inl rfl⟩
    · rw [h]; exact ⟨x.seq, fo_sqf _ _ rfl, .inr rfl⟩
  obtain ⟨q, h2, hq⟩ := h2
  have e3 : (raf x.addrs).take n3 = raf (x.addrs.take n3) := by simp [raf, List.map_take]
  have h3 := fo_raf (L := x.addrs.take n3) { RS.zero with peer := p, seq := q } (fun a ha => hx.ba a (List.mem_of_mem_take ha)) (fun a ha => hx.na a (List.mem_of_mem_take ha))
  refine ⟨{ RS.zero with peer := p, seq := q, addrs := x.addrs.take n3 }, ?_, hp, hq, min n3 x.addrs.length, by omega, ?_⟩
  · rw [fo_app, fo_app, h1]
    simp only
    rw [h2]
    simp only
    rw [e3, h3]
    simp [RS.zero]
  · show x.addrs.take n3 = _
    rcases Nat.le_total n3 x.addrs.length with h | h
    · rw [Nat.min_eq_left h]
    · rw [Nat.min_eq_right h, List.take_length, List.take_of_length_le h]
theorem RRes_cut {x : RS} (hx : ROk x) (j : Nat) {y : RV} {ok : Bool} (h : RRes ((rb x).take j) y ok) :
    ok = false ∨ (ok = true ∧ (y.d = [] ∨ y.d = x.peer) ∧ (y.seq = 0 ∨ y.seq = x.seq) ∧ ∃ m, m ≤ x.addrs.length ∧ y.L = x.addrs.take m) := by
  unfold RRes at h
  rw [← rcs_bytes] at h
  rcases torn_chunks (rcs x) (rcs_ok hx) j with hw | ⟨n, hw⟩
  · rw [show whole rstep (((rcs x).map (·.1)).flatten.take j) RS.zero = .bad from by unfold whole; rw [hw]] at h
    exact .inl h
  · obtain ⟨s, h1, h2, h3, h4⟩ := fo_part hx n
    rw [List.map_take, rcs_flds] at hw
    rw [whole_ok hw, h1] at h
    obtain ⟨ho, ht⟩ := h
    exact .inr ⟨ho, by rw [ht.p]; exact h2, by rw [ht.q]; exact h3, by rw [ht.a]; exact h4⟩
end Go.Proofs.YtipleaojejbkpaaDoor
