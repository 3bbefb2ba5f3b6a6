/- Rows of one's own, one cell an element; append of one element; lists of bytes in such rows. FnRecordEquals: rows of records and of keys as arguments; their sizes. FnRecordEquals. -/
import Derived.Test.YtddofkeajinjpaaGreatDoorAppend
import Derived.Test.YtddofkeajinjpaaGreatDoorConcat
import Derived.Test.YtddofkeajinjpaaGreatDoorSmK
import Derived.DataReads
import Derived.Handy
namespace Go.Proofs.YtddofkeajinjpaaGreatDoor
open Go Go.RowKit
set_option linter.unusedVariables false
set_option linter.unusedSimpArgs false
set_option maxRecDepth 100000

/-- A row of one's own: one cell an element. -/
structure VOwn (w : World) (e : TypeId) (B : Nat) (v : Value) (us : List Value) : Prop where
  row : w.ownsRow B e 1 v us.length us
theorem VOwn.nil (w : World) (e : TypeId) (B : Nat) : VOwn w e B (.slice none 0 0) [] := ⟨⟨rfl, .inl ⟨rfl, rfl⟩⟩⟩
theorem VOwn.base {w : World} {e : TypeId} {B : Nat} {v : Value} {us : List Value} (h : VOwn w e B v us) (k : Nat) (hk : v.ownBlock = some k) : B ≤ k ∧ k < w.heap.size := h.row.lt k hk
theorem VOwn.mono {w : World} {e : TypeId} {B B' : Nat} {v : Value} {us : List Value} (h : VOwn w e B v us) (hb : B' ≤ B) : VOwn w e B' v us := by
  refine ⟨⟨h.row.1, ?_⟩⟩
  rcases h.row.2 with h2 | ⟨g, cap, cur, hv, hg, r⟩
  · exact .inl h2
  · exact .inr ⟨g, cap, cur, hv, by omega, r⟩
theorem VOwn.keep {w w' : World} {S : Nat → Prop} {e : TypeId} {B : Nat} {v : Value} {us : List Value} (h : VOwn w e B v us) (k : Kp S w w') (hs : ∀ i, v.ownBlock = some i → ¬ S i) : VOwn w' e B v us := by
  refine ⟨⟨h.row.1, ?_⟩⟩
  rcases h.row.2 with h2 | ⟨g, cap, cur, hv, hg, hh, r⟩
  · exact .inl h2
  · exact .inr ⟨g, cap, cur, hv, hg, (k.block g (Array.getElem?_eq_some_iff.1 hh).1 (hs g (by rw [hv]; rfl))).trans hh, r⟩
theorem VOwn.keepN {w w' : World} {e : TypeId} {B : Nat} {v : Value} {us : List Value} (h : VOwn w e B v us) (k : Kp no w w') : VOwn w' e B v us := h.keep k (fun _ _ h => h)
theorem VOwn.form {w : World} {e : TypeId} {B : Nat} {v : Value} {us : List Value} (h : VOwn w e B v us) : ∃ A c, v = .slice A us.length c ∧ us.length ≤ c ∧ c ≤ 9223372036854775807 ∧ (0 < us.length → ∃ g, A = some ⟨g, 0, none⟩ ∧ ∀ j (hj : j < us.length), w.cell? ⟨g, j, none⟩ = some us[j]) := by
  rcases h.row.2 with ⟨rfl, h0⟩ | ⟨g, cap, cur, hv, hb, hh, hnc, hcm, hsz, ht⟩
  · exact ⟨none, 0, by rw [h0], by omega, by omega, fun hp => absurd hp (by omega)⟩
  · simp only [maxLen] at hcm
    refine ⟨_, _, hv, hnc, by omega, fun hp => ⟨g, rfl, fun j hj => ?_⟩⟩
    rw [cell_of_row w g _ cur e (0, 0) hh]
    have h2 : us[j]? = cur.toList[j]? := by rw [← ht, List.getElem?_take, if_pos (by omega)]
    rw [List.getElem?_eq_getElem hj] at h2
    simpa using h2.symm

section
variable {P : Program} {ops : Array Oper} {rest : List Oper} {o : Oper} {a : Act} {Q : Exit → Act → World → Prop}
/-- 'append(v, u)', behind 'at_builtin'; u lies in a new block of its own. -/
theorem one_append {W : World} (B : Nat) (hgd : o.guard = none) (s x : Operand) (t e : TypeId)
    (ho : o.op = .call { callee := .builtin .append, args := #[s, x], argTypes := #[t, t] })
    (ht : P.underlying t = some (.slice e)) (z : Value) (by_ : Nat) (hinfo : (P.info? e).map (fun i => (i.zero, i.size, i.bytes)) = some (some z, 1, by_)) (hz : z.cells.size = 1) (hby : by_ ≤ 24)
    (v : Value) (us : List Value) (u : Value) (b0 : Nat) (hs : a.eval s = v) (hx : a.eval x = .slice (some ⟨b0, 0, none⟩) 1 1) (hc : W.cell? ⟨b0, 0, none⟩ = some u) (h1 : u.oneCell' = true)
    (HO : VOwn W e B v us) (hB : B ≤ W.heap.size) (hl : us.length ≤ 1099511627776)
    (h : ∀ A1 c1 w1, VOwn w1 e B (.slice A1 (us.length + 1) c1) (us ++ [u]) → Kp (Of v) W w1 → Went W v (.slice A1 (us.length + 1) c1) → wpList P ops Q rest (a.put o.dst (.slice A1 (us.length + 1) c1)) w1) :
    wpList P ops Q (o :: rest) a W := by
  obtain ⟨i0, hi, hzz⟩ := Option.map_eq_some_iff.1 hinfo
  simp only [Prod.mk.injEq] at hzz
  obtain ⟨hz0, hz1, hz2⟩ := hzz
  have hcells : ∀ j u', [u][j]? = some u' → W.cell? ((⟨b0, 0, none⟩ : Addr).add j) = some u' := by
    intro j u' hu
    cases j with
    | zero =>
      have ha : (⟨b0, 0, none⟩ : Addr).add 0 = ⟨b0, 0, none⟩ := by unfold Addr.add; split <;> simp_all
      rw [ha, hc]; simpa using hu
    | succ j => simp at hu
  obtain ⟨v1, w1, hr, h2, h3, h4, h5⟩ := run_append_own_at (P := P) W B t o.type e i0 z 1 by_ ht hi hz0 hz1 hz2 hz (by omega) v us.length us HO.row ⟨b0, 0, none⟩ 1 1 [u] rfl hcells
    (by intro u' hu; simp only [List.mem_cons, List.not_mem_nil, or_false] at hu; rw [hu]; exact h1) (by simp only [maxLen]; omega)
    (Nat.le_trans (Nat.mul_le_mul_left _ hby) (by omega)) hB
  refine wpList_plain hgd fun K hK => ?_
  unfold Oper.wp execOp
  simp only [ho, resolve, invoke, builtin, Sem.run_bind, Sem.run_pure, Result.andThen_ok, List.map_toArray, List.map_cons, List.map_nil, hs, hx, hr]
  obtain ⟨A1, c1, rfl⟩ : ∃ A1 c1, v1 = .slice A1 (us.length + 1) c1 := by
    rcases h2.2 with ⟨rfl, h0⟩ | ⟨g, cap, cur, rfl, _⟩
    · omega
    · exact ⟨_, _, rfl⟩
  exact hK _ _ (h A1 c1 w1 ⟨by simpa using h2⟩ ((Kp.refl _ _).grown h3 fun k hk _ => hk) (h5.imp_right fun h => ⟨_, h, Nat.le_refl _⟩))
end
theorem Kp.vown {S : Nat → Prop} {w0 w w' : World} {e : TypeId} {B : Nat} {v : Value} {us : List Value} (h : Kp S w0 w) (ho : VOwn w e B v us) (hb : w0.heap.size ≤ B) (k : Kp (Of v) w w') : Kp S w0 w' :=
  h.trans k fun i hi hv => absurd (ho.base i hv).1 (by omega)

/-! ### Lists of bytes -/
/-- The value u reads as the bytes l, outside of v's own row. -/
def ElAt (w : World) (v u : Value) (l : List Int) : Prop := ∃ A c, u = .slice A l.length c ∧ Rd w A l.length c l ∧ ∀ a, A = some a → a.block < w.heap.size ∧ v.ownBlock ≠ some a.block
theorem ElAt.keepN {w w' : World} {v u : Value} {l : List Int} (h : ElAt w v u l) (k : Kp no w w') : ElAt w' v u l := by
  obtain ⟨A, c, rfl, hr, ho⟩ := h
  exact ⟨A, c, rfl, hr.keepN k, fun a ha => ⟨Nat.lt_of_lt_of_le (ho a ha).1 k.size, (ho a ha).2⟩⟩
theorem ElAt.went {w w1 : World} {v v1 u : Value} {l : List Int} (h : ElAt w v u l) (k : Kp (Of v) w w1) (hw : Went w v v1) : ElAt w1 v1 u l := by
  obtain ⟨A, c, rfl, hr, ho⟩ := h
  refine ⟨A, c, rfl, hr.keep k (fun a ha hs => (ho a ha).2 hs), fun a ha => ⟨Nat.lt_of_lt_of_le (ho a ha).1 k.size, fun he => ?_⟩⟩
  rcases hw with hw | ⟨b, hw, hb⟩
  · exact (ho a ha).2 (hw ▸ he)
  · rw [hw] at he
    injection he with he
    have := (ho a ha).1
    omega
/-- v's own row holds lists of bytes. -/
structure VS (w : World) (B : Nat) (v : Value) (L : List (List Int)) : Prop where
  ex : ∃ us : List Value, VOwn w 28 B v us ∧ us.length = L.length ∧ ∀ (j : Nat) (hj : j < us.length), ElAt w v us[j] (L.getD j [])
theorem VS.nil (w : World) (B : Nat) : VS w B (.slice none 0 0) [] := ⟨[], VOwn.nil _ _ _, rfl, fun j hj => absurd hj (by simp)⟩
theorem VS.keepN {w w' : World} {B : Nat} {v : Value} {L : List (List Int)} (h : VS w B v L) (k : Kp no w w') : VS w' B v L := by
  obtain ⟨us, ho, hl, he⟩ := h.ex
  exact ⟨us, ho.keepN k, hl, fun j hj => (he j hj).keepN k⟩
theorem VS.form {w : World} {B : Nat} {v : Value} {L : List (List Int)} (h : VS w B v L) : ∃ A c, v = .slice A L.length c ∧ L.length ≤ c ∧ c ≤ 9223372036854775807 := by
  obtain ⟨us, ho, hl, _⟩ := h.ex
  obtain ⟨A, c, hv, h1, h2, _⟩ := ho.form
  exact ⟨A, c, by rw [← hl]; exact hv, by omega, h2⟩
theorem VS.app {w w1 : World} {B : Nat} {v v1 u : Value} {us : List Value} {L : List (List Int)} {l : List Int} (hl : us.length = L.length) (he : ∀ (j : Nat) (hj : j < us.length), ElAt w v us[j] (L.getD j []))
    (hu : ElAt w v u l) (ho : VOwn w1 28 B v1 (us ++ [u])) (k : Kp (Of v) w w1) (hw : Went w v v1) : VS w1 B v1 (L ++ [l]) := by
  refine ⟨us ++ [u], ho, by simp [hl], fun j hj => ?_⟩
  by_cases hjl : j < us.length
  · rw [List.getElem_append_left hjl, show (L ++ [l]).getD j [] = L.getD j [] from by rw [List.getD_eq_getElem?_getD, List.getD_eq_getElem?_getD, List.getElem?_append_left (by omega)]]
    exact (he j hjl).went k hw
  · have hj' : j = us.length := by simp at hj; omega
    subst hj'
    rw [List.getElem_append_right (Nat.le_refl _), show (L ++ [l]).getD us.length [] = l from by rw [List.getD_eq_getElem?_getD, List.getElem?_append_right (by omega), hl]; simp]
    simpa using hu.went k hw
theorem VS.rd {w : World} {B : Nat} {v : Value} {L : List (List Int)} (h : VS w B v L) : ∃ A c, v = .slice A L.length c ∧ RdS w A L.length c L := by
  obtain ⟨us, ho, hl, he⟩ := h.ex
  obtain ⟨A, c, hv, h1, h2, h3⟩ := ho.form
  refine ⟨A, c, by rw [← hl]; exact hv, rfl, by omega, h2, fun hp => ?_⟩
  obtain ⟨g, rfl, hc⟩ := h3 (by omega)
  refine ⟨g, 0, rfl, fun j hj => ?_⟩
  obtain ⟨A', c', hu, hr, _⟩ := he j (by omega)
  exact ⟨A', c', by rw [Nat.zero_add, hc j (by omega), hu], hr⟩
theorem Tryz.und_bytess' : Tryz.prog.underlying 27 = some (.slice 28) := by kernel_rfl
theorem Tryz.info_bytes : (Tryz.prog.info? 28).map (fun i => (i.zero, i.size, i.bytes)) = some (some (.slice none 0 0), 1, 24) := by kernel_rfl
end Go.Proofs.YtddofkeajinjpaaGreatDoor
namespace Go.Proofs.YtddofkeajinjpaaGreatDoor
open Go Go.ChangeShapes Go.WideShapes Go.ChangeAt Go.RowKit
set_option linter.unusedVariables false
set_option linter.unusedSimpArgs false
set_option maxRecDepth 100000

/-- A row of records that is read. -/
structure RdR (w : World) (A : Option Addr) (n c : Nat) (f : Nat → RcV) : Prop where
  cap : n ≤ c
  max : c ≤ 9223372036854775807
  ok : ∀ j, j < n → (f j).At w
  at_ : 0 < n → ∃ g o, A = some ⟨g, o, none⟩ ∧ ∀ j, j < n → w.cell? ⟨g, o + j * 3, none⟩ = some (.string (strOfNums (f j).d)) ∧ w.cell? ⟨g, o + j * 3 + 1, none⟩ = some (.slice (f j).A (f j).t.length (f j).c) ∧ w.cell? ⟨g, o + j * 3 + 2, none⟩ = some (.slice (f j).B (f j).p.length (f j).m)
/-- A row of keys that is read. -/
structure RdT (w : World) (A : Option Addr) (n c : Nat) (f : Nat → ToV) : Prop where
  cap : n ≤ c
  max : c ≤ 9223372036854775807
  ok : ∀ j, j < n → (f j).At w
  at_ : 0 < n → ∃ g o, A = some ⟨g, o, none⟩ ∧ ∀ j, j < n → w.cell? ⟨g, o + j * 2, none⟩ = some (.int .i32 (f j).k) ∧ w.cell? ⟨g, o + j * 2 + 1, none⟩ = some (.slice (f j).A (f j).d.length (f j).c)
theorem RcV.At.keepN {x : RcV} {w w' : World} (h : x.At w) (k : Kp no w w') : x.At w' := ⟨h.d, h.t.keepN k, h.p.keepN k⟩
theorem ToV.At.keepN {x : ToV} {w w' : World} (h : x.At w) (k : Kp no w w') : x.At w' := ⟨h.d.keepN k⟩
theorem RdR.keepN {w w' : World} {A : Option Addr} {n c : Nat} {f : Nat → RcV} (h : RdR w A n c f) (k : Kp no w w') : RdR w' A n c f :=
  ⟨h.cap, h.max, fun j hj => (h.ok j hj).keepN k, fun hp => by
    obtain ⟨g, o, rfl, hc⟩ := h.at_ hp
    exact ⟨g, o, rfl, fun j hj => ⟨k.cellN (hc j hj).1, k.cellN (hc j hj).2.1, k.cellN (hc j hj).2.2⟩⟩⟩
theorem RdT.keepN {w w' : World} {A : Option Addr} {n c : Nat} {f : Nat → ToV} (h : RdT w A n c f) (k : Kp no w w') : RdT w' A n c f :=
  ⟨h.cap, h.max, fun j hj => (h.ok j hj).keepN k, fun hp => by
    obtain ⟨g, o, rfl, hc⟩ := h.at_ hp
    exact ⟨g, o, rfl, fun j hj => ⟨k.cellN (hc j hj).1, k.cellN (hc j hj).2⟩⟩⟩

theorem addr_plain (b o j : Nat) : (⟨b, o, none⟩ : Addr).add j = ⟨b, o + j, none⟩ := by
  unfold Addr.add
  split
  · subst_vars; rfl
  · rfl
theorem spare_noneE {w : World} {b o : Nat} {s : Option Nat} {j : Nat} {u : Value} (h : w.cell? ((⟨b, o, s⟩ : Addr).add j) = some u) (hj : j = 0) : s = none := by
  subst hj
  cases s with
  | none => rfl
  | some s =>
    simp only [Addr.add, if_true, World.cell?] at h
    split at h <;> simp at h
theorem bytes_trod {H : Type} {enc : TypeId × Value → H} {W : World} {n : Nat} {cs : List Value} {y : DataW H × List MemPlace}
    (hf : DataW.trod enc Tryz.prog W 0 (fun _ => true) true n 28 cs = some y) : ∃ A l c, cs = [.slice A l.length c] ∧ Rd W A l.length c l := by
  rcases open_ints Tryz.underlying28 Tryz.underlying5 (by kernel_rfl) hf with ⟨rfl, _⟩ | ⟨x, m, c', zs, rfl, _, hl, hm, hz, _, hcell, hwz⟩
  · exact ⟨none, [], 0, rfl, Rd.nil _⟩
  · have hz' : zs.length = c' := by simpa using hz
    have hb : Byt zs := fun x hx => by
      have := hwz x hx
      simp [Lit.wf, IntKind.min, IntKind.max, IntKind.signed, IntKind.bits] at this
      omega
    have hlen : (zs.take m).length = m := by rw [List.length_take]; omega
    have R : Rd W (some x) m c' (zs.take m) := ⟨hlen, hl, by simpa [maxLen] using hm, hb.take m, fun hp => by
      obtain ⟨b, o, sp⟩ := x
      have h0 := hcell 0 (by omega)
      have hsp : sp = none := spare_noneE h0 rfl
      subst hsp
      refine ⟨b, o, rfl, fun j hj => ?_⟩
      have := hcell j (by omega)
      rw [addr_plain] at this
      rw [this]
      simp [List.getD_eq_getElem?_getD, List.getElem?_take, hj]⟩
    exact ⟨some x, zs.take m, c', by rw [hlen], by rw [hlen]; exact R⟩
theorem rec_trod {H : Type} {enc : TypeId × Value → H} {W : World} {n : Nat} {cs : List Value} {y : DataW H × List MemPlace}
    (hf : DataW.trod enc Tryz.prog W 0 (fun _ => true) true n 30 cs = some y) : ∃ x : RcV, cs = [.string (strOfNums x.d), .slice x.A x.t.length x.c, .slice x.B x.p.length x.m] ∧ x.At W := by
  obtain ⟨xs, m, rfl, hx, hlen, hxl, hat⟩ := DataW.trod_struct Tryz.underlying30 hf
  rw [cellsR] at hlen
  match cs, hlen with
  | [v0, v1, v2], _ =>
    have hx3 : xs.length = 3 := hxl
    have a0 : DataW.trod enc Tryz.prog W 0 (fun _ => true) true m 9 (([v0, v1, v2].drop 0).take (Tryz.prog.cellsOf 9)) = xs[0]? := hat 0 _ rfl
    rw [show Tryz.prog.cellsOf 9 = 1 from by kernel_rfl, List.getElem?_eq_getElem (by omega)] at a0
    have a1 : DataW.trod enc Tryz.prog W 0 (fun _ => true) true m 28 (([v0, v1, v2].drop 1).take (Tryz.prog.cellsOf 28)) = xs[1]? := hat 1 _ rfl
    rw [cellsB, List.getElem?_eq_getElem (by omega)] at a1
    have a2 : DataW.trod enc Tryz.prog W 0 (fun _ => true) true m 28 (([v0, v1, v2].drop 2).take (Tryz.prog.cellsOf 28)) = xs[2]? := hat 2 _ rfl
    rw [cellsB, List.getElem?_eq_getElem (by omega)] at a2
    obtain ⟨s, h0, _⟩ := DataW.trod_string Tryz.underlying9 a0
    obtain ⟨A1, l1, c1, h1, r1⟩ := bytes_trod a1
    obtain ⟨A2, l2, c2, h2, r2⟩ := bytes_trod a2
    obtain ⟨dl, hd, rfl⟩ := strOf_all s
    refine ⟨⟨dl, A1, c1, l1, A2, c2, l2⟩, ?_, ⟨hd, r1, r2⟩⟩
    simp only [List.drop_zero, List.drop_succ_cons, List.take_succ_cons, List.take_zero, List.cons.injEq, and_true] at h0 h1 h2
    rw [h0, h1, h2]
theorem toy_trod {H : Type} {enc : TypeId × Value → H} {W : World} {n : Nat} {cs : List Value} {y : DataW H × List MemPlace}
    (hf : DataW.trod enc Tryz.prog W 0 (fun _ => true) true n 34 cs = some y) : ∃ x : ToV, cs = [.int .i32 x.k, .slice x.A x.d.length x.c] ∧ x.At W := by
  obtain ⟨xs, m, rfl, hx, hlen, hxl, hat⟩ := DataW.trod_struct Tryz.underlying34 hf
  rw [cellsT] at hlen
  match cs, hlen with
  | [v0, v1], _ =>
    have hx3 : xs.length = 2 := hxl
    have a0 : DataW.trod enc Tryz.prog W 0 (fun _ => true) true m 21 (([v0, v1].drop 0).take (Tryz.prog.cellsOf 21)) = xs[0]? := hat 0 _ rfl
    rw [show Tryz.prog.cellsOf 21 = 1 from by kernel_rfl, List.getElem?_eq_getElem (by omega)] at a0
    have a1 : DataW.trod enc Tryz.prog W 0 (fun _ => true) true m 28 (([v0, v1].drop 1).take (Tryz.prog.cellsOf 28)) = xs[1]? := hat 1 _ rfl
    rw [cellsB, List.getElem?_eq_getElem (by omega)] at a1
    obtain ⟨z, h0, _, _⟩ := DataW.trod_int Tryz.underlying21 a0
    obtain ⟨A1, l1, c1, h1, r1⟩ := bytes_trod a1
    refine ⟨⟨z, A1, c1, l1⟩, ?_, ⟨r1⟩⟩
    simp only [List.drop_zero, List.drop_succ_cons, List.take_succ_cons, List.take_zero, List.cons.injEq, and_true] at h0 h1
    rw [h0, h1]
theorem Tryz.und_recs : Tryz.prog.underlying 22 = some (.slice 30) := by kernel_rfl
theorem Tryz.und_toys : Tryz.prog.underlying 23 = some (.slice 34) := by kernel_rfl
theorem recs_arg {H : Type} {enc : TypeId × Value → H} {W : World} {base : Nat} {v : Value} {d : DataW H} {p : List MemPlace}
    (hv : Value.okWide Tryz.prog W .any base 22 v) (h : DataW.Trod enc Tryz.prog W 0 (fun _ => true) true 22 v d p) :
    ∃ A n c f, v = .slice A n c ∧ RdR W A n c f := by
  obtain ⟨A, n, c, rfl⟩ := okWide_slice Tryz.und_recs hv
  obtain ⟨fuel, hf⟩ := h
  rcases DataW.trod_slice Tryz.und_recs hf with ⟨hcs, _⟩ | ⟨a, len, cap, elems, rest, m, _, hcs, _, hb, hl, hm, hlen, hel, _, _⟩
  · simp [Value.cells] at hcs
    obtain ⟨rfl, rfl, rfl⟩ := hcs
    exact ⟨none, 0, 0, fun _ => ⟨[], none, 0, [], none, 0, []⟩, rfl, by omega, by omega, fun j hj => by omega, fun hp => by omega⟩
  · simp [Value.cells] at hcs
    obtain ⟨rfl, rfl, rfl⟩ := hcs
    have hone : ∀ i, i < n → ∃ x : RcV, x.At W ∧ ∀ j, j < 3 → W.cell? ((a.add (i * 3)).add j) = [Value.string (strOfNums x.d), .slice x.A x.t.length x.c, .slice x.B x.p.length x.m][j]? := by
      intro i hi
      have h1 := hel i hi
      rw [cellsR, List.getElem?_eq_getElem (by omega), Option.bind_eq_some_iff] at h1
      obtain ⟨cs, h2, h3⟩ := h1
      obtain ⟨x, rfl, h4⟩ := rec_trod h3
      exact ⟨x, h4, (World.cells?_some h2).2.2⟩
    have hf2 : ∀ i : Nat, ∃ x : RcV, i < n → x.At W ∧ ∀ j, j < 3 → W.cell? ((a.add (i * 3)).add j) = [Value.string (strOfNums x.d), .slice x.A x.t.length x.c, .slice x.B x.p.length x.m][j]? := fun i => by
      by_cases hi : i < n
      · obtain ⟨x, hx⟩ := hone i hi; exact ⟨x, fun _ => hx⟩
      · exact ⟨⟨[], none, 0, [], none, 0, []⟩, fun h => absurd h hi⟩
    obtain ⟨f, hf3⟩ := Classical.axiomOfChoice hf2
    refine ⟨some a, n, c, f, rfl, hl, by simpa [maxLen] using hm, fun j hj => (hf3 j hj).1, fun hp => ?_⟩
    obtain ⟨b, o, sp⟩ := a
    have hsp : sp = none := by
      have h00 : W.cell? ((⟨b, o, sp⟩ : Addr).add 0) = some (.string (strOfNums (f 0).d)) := by
        have e0 : ((⟨b, o, sp⟩ : Addr).add (0 * 3)).add 0 = (⟨b, o, sp⟩ : Addr).add 0 := by
          cases sp <;> simp [Addr.add]
        rw [← e0, (hf3 0 hp).2 0 (by omega)]; rfl
      exact spare_noneE h00 rfl
    subst hsp
    refine ⟨b, o, rfl, fun j hj => ?_⟩
    have h0 := (hf3 j hj).2 0 (by omega)
    have h1 := (hf3 j hj).2 1 (by omega)
    have h2 := (hf3 j hj).2 2 (by omega)
    rw [addr_plain, addr_plain] at h0 h1 h2
    exact ⟨h0, h1, h2⟩
theorem toys_arg {H : Type} {enc : TypeId × Value → H} {W : World} {base : Nat} {v : Value} {d : DataW H} {p : List MemPlace}
    (hv : Value.okWide Tryz.prog W .any base 23 v) (h : DataW.Trod enc Tryz.prog W 0 (fun _ => true) true 23 v d p) :
    ∃ A n c f, v = .slice A n c ∧ RdT W A n c f := by
  obtain ⟨A, n, c, rfl⟩ := okWide_slice Tryz.und_toys hv
  obtain ⟨fuel, hf⟩ := h
  rcases DataW.trod_slice Tryz.und_toys hf with ⟨hcs, _⟩ | ⟨a, len, cap, elems, rest, m, _, hcs, _, hb, hl, hm, hlen, hel, _, _⟩
  · simp [Value.cells] at hcs
    obtain ⟨rfl, rfl, rfl⟩ := hcs
    exact ⟨none, 0, 0, fun _ => ⟨0, none, 0, []⟩, rfl, by omega, by omega, fun j hj => by omega, fun hp => by omega⟩
  · simp [Value.cells] at hcs
    obtain ⟨rfl, rfl, rfl⟩ := hcs
    have hone : ∀ i, i < n → ∃ x : ToV, x.At W ∧ ∀ j, j < 2 → W.cell? ((a.add (i * 2)).add j) = [Value.int .i32 x.k, .slice x.A x.d.length x.c][j]? := by
      intro i hi
      have h1 := hel i hi
      rw [cellsT, List.getElem?_eq_getElem (by omega), Option.bind_eq_some_iff] at h1
      obtain ⟨cs, h2, h3⟩ := h1
      obtain ⟨x, rfl, h4⟩ := toy_trod h3
      exact ⟨x, h4, (World.cells?_some h2).2.2⟩
    have hf2 : ∀ i : Nat, ∃ x : ToV, i < n → x.At W ∧ ∀ j, j < 2 → W.cell? ((a.add (i * 2)).add j) = [Value.int .i32 x.k, .slice x.A x.d.length x.c][j]? := fun i => by
      by_cases hi : i < n
      · obtain ⟨x, hx⟩ := hone i hi; exact ⟨x, fun _ => hx⟩
      · exact ⟨⟨0, none, 0, []⟩, fun h => absurd h hi⟩
    obtain ⟨f, hf3⟩ := Classical.axiomOfChoice hf2
    refine ⟨some a, n, c, f, rfl, hl, by simpa [maxLen] using hm, fun j hj => (hf3 j hj).1, fun hp => ?_⟩
    obtain ⟨b, o, sp⟩ := a
    have hsp : sp = none := by
      have h00 : W.cell? ((⟨b, o, sp⟩ : Addr).add 0) = some (.int .i32 (f 0).k) := by
        have e0 : ((⟨b, o, sp⟩ : Addr).add (0 * 2)).add 0 = (⟨b, o, sp⟩ : Addr).add 0 := by
          cases sp <;> simp [Addr.add]
        rw [← e0, (hf3 0 hp).2 0 (by omega)]; rfl
      exact spare_noneE h00 rfl
    subst hsp
    refine ⟨b, o, rfl, fun j hj => ?_⟩
    have h0 := (hf3 j hj).2 0 (by omega)
    have h1 := (hf3 j hj).2 1 (by omega)
    rw [addr_plain, addr_plain] at h0 h1
    exact ⟨h0, h1⟩
end Go.Proofs.YtddofkeajinjpaaGreatDoor
namespace Go.Proofs.YtddofkeajinjpaaGreatDoor
open Go Go.RowKit
set_option linter.unusedVariables false
set_option linter.unusedSimpArgs false
set_option maxRecDepth 100000

/-- A Boolean is told: just if the sentence holds. -/
def TellI (p : Prop) (e : Ending) : Prop := ∃ b, e = .returned (.bool b) ∧ (b = true ↔ p)
theorem TellI.no {p : Prop} (h : ¬ p) : TellI p (.returned (.bool false)) := ⟨false, rfl, ⟨(fun h => by cases h), (fun hp => absurd hp h)⟩⟩
theorem TellI.yes {p : Prop} (h : p) : TellI p (.returned (.bool true)) := ⟨true, rfl, ⟨fun _ => h, fun _ => rfl⟩⟩
set_option maxHeartbeats 4000000 in
theorem recordShort_keysI {w : World} (s : ByteArray) (A B : Option Addr) (n c m d g N cap : Nat) (K : Nat → Int) (KA : Nat → Option Addr) (Kn Kc : Nat → Nat) (hN : N ≤ 1000)
    (hc : ∀ i, i < N → w.cell? ⟨g, i * 2, none⟩ = some (.int .i32 (K i)) ∧ w.cell? ⟨g, i * 2 + 1, none⟩ = some (.slice (KA i) (Kn i) (Kc i))) :
    Calls Tryz.prog 8 #[.agg #[.string s, .slice A n c, .slice B m d], .slice (some ⟨g, 0, none⟩) N cap] w fun e w' => Kp no w w' ∧ TellI ((s.size ≤ 200 ∧ n ≤ 200 ∧ m ≤ 1000) ∧ ∀ i, i < N → Kn i ≤ 200) e := by
  have hb := Blk.new w #[.string s, .slice A n c, .slice B m d] 30
  have ka : Kp no w (w.alloc (.cells #[.string s, .slice A n c, .slice B m d] 30)) := (Kp.refl _ _).alloc _
  have HC := Lib.hid (fun W (k : Kp no w W) i (hi : i < N) => And.intro (k.cellN (hc i hi).1) (k.cellN (hc i hi).2))
  have HB := Lib.hid hb
  have HKA := Lib.hid ka
  clear hc hb ka
  go_enter Tryz.func8, Tryz.ntmps8
  go_upto_region 1 with (fail)
  generalize w.alloc (.cells #[.string s, .slice A n c, .slice B m d] 30) = W1 at *
  go_wp2
  go_loopw [9] (fun iv wr => ∃ i : Nat, iv = .int .i64 i ∧ i ≤ N ∧ Hid (∀ j, j < i → Kn j ≤ 200) ∧ Kp no W1 wr) (fun iv _ => N - (intOf iv).toNat)
  case atStart => exact ⟨0, rfl, Nat.zero_le _, Lib.hid (fun j h => absurd h (Nat.not_lt_zero j)), Kp.refl _ _⟩
  case round =>
    obtain ⟨i, rfl, hi, HJ, k1⟩ := hrel
    by_cases hlt : i < N
    · obtain ⟨c0, c1⟩ := HC.out wr (HKA.out.then k1) i hlt
      have kz : Kp no wr (wr.alloc (.cells #[.int .i32 (K i), .slice (KA i) (Kn i) (Kc i)] 34)) := (Kp.refl _ _).alloc _
      obtain ⟨z, hz⟩ : ∃ z, z = Kn i := ⟨_, rfl⟩
      rw [← hz] at c1 kz
      have HZ := Lib.hid hz
      clear hz
      by_cases h2 : 200 < (z : Int)
      · go_wp2
        go_ret
        exact ⟨HKA.out.then (k1.then kz), TellI.no (fun h => by have h5 := h.2 i hlt; rw [← HZ.out] at h5; omega)⟩
      · have h2b : decide (200 < (z : Int)) = false := decide_eq_false h2
        have HZL := Lib.hid (show z ≤ 200 from by omega)
        clear h2
        go_wp2
        go_roundw
        case rel => exact ⟨i + 1, by go_num, hlt, Lib.hid (fun j hj => by
          rcases Nat.lt_or_ge j i with h | h
          · exact HJ.out j h
          · obtain rfl : j = i := by omega
            rw [← HZ.out]; exact HZL.out), k1.then kz⟩
        case measure => simp [intOf]; omega
    · obtain rfl : i = N := by omega
      have kk := Lib.hid (HKA.out.then k1)
      have x0 : wr.cell? ⟨w.heap.size, 0, none⟩ = some (.string s) := (HB.out.keepN k1).cell 0
      have x1 : wr.cell? ⟨w.heap.size, 1, none⟩ = some (.slice A n c) := (HB.out.keepN k1).cell 1
      have x2 : wr.cell? ⟨w.heap.size, 2, none⟩ = some (.slice B m d) := (HB.out.keepN k1).cell 2
      have hz : (s.size ≤ 200 ∧ n ≤ 200 ∧ m ≤ 1000) ∨ 200 < (s.size : Int) ∨ ((s.size : Int) ≤ 200 ∧ 200 < (n : Int)) ∨ ((s.size : Int) ≤ 200 ∧ (n : Int) ≤ 200 ∧ 1000 < (m : Int)) := by omega
      rcases hz with hz | h0 | ⟨h0, h1⟩ | ⟨h0, h1, h2⟩
      · have h0 : (s.size : Int) ≤ 200 := by omega
        have h1 : (n : Int) ≤ 200 := by omega
        have h2 : (m : Int) ≤ 1000 := by omega
        have HZ := Lib.hid hz
        clear hz
        have b0 : decide ((s.size : Int) ≤ 200) = true := decide_eq_true h0
        have b1 : decide ((n : Int) ≤ 200) = true := decide_eq_true h1
        have b2 : decide ((m : Int) ≤ 1000) = true := decide_eq_true h2
        go_wp2
        go_ret
        exact ⟨kk.out, TellI.yes ⟨HZ.out, HJ.out⟩⟩
      all_goals
        try have b2 : decide ((m : Int) ≤ 1000) = false := decide_eq_false (by omega)
        go_wp2
        go_ret
        exact ⟨kk.out, TellI.no (fun h => by have h5 := h.1; omega)⟩


theorem short_one {w : World} {g : Nat} {k : Int} {D1 : Option Addr} {n1 f1 : Nat} (s : ByteArray) (A B : Option Addr) (n c m d : Nat) (hb : Blk w g #[.int .i32 k, .slice D1 n1 f1] 34) :
    Calls Tryz.prog 8 #[.agg #[.string s, .slice A n c, .slice B m d], .slice (some ⟨g, 0, none⟩) 1 1] w fun e w' => Kp no w w' ∧ TellI ((s.size ≤ 200 ∧ n ≤ 200 ∧ m ≤ 1000) ∧ n1 ≤ 200) e := by
  have h := recordShort_keysI (w := w) s A B n c m d g 1 1 (fun _ => k) (fun _ => D1) (fun _ => n1) (fun _ => f1) (by omega) (fun i hi => by
    obtain rfl : i = 0 := by omega
    exact ⟨hb.cell 0, hb.cell 1⟩)
  exact h.mono fun e w' ⟨h1, b, h2, h3⟩ => ⟨h1, b, h2, h3.trans ⟨fun h => ⟨h.1, h.2 0 (by omega)⟩, fun h => ⟨h.1, fun _ _ => h.2⟩⟩⟩
/-- .. where they are short, and where not. -/
theorem short_yes {w : World} {g : Nat} {k : Int} {D1 : Option Addr} {n1 f1 : Nat} {s : ByteArray} {A B : Option Addr} {n c m d : Nat} (q : Bool) (hq : q = true ↔ ((s.size ≤ 200 ∧ n ≤ 200 ∧ m ≤ 1000) ∧ n1 ≤ 200)) (hb : Blk w g #[.int .i32 k, .slice D1 n1 f1] 34) :
    Calls Tryz.prog 8 #[.agg #[.string s, .slice A n c, .slice B m d], .slice (some ⟨g, 0, none⟩) 1 1] w fun e w' => e = .returned (.bool q) ∧ Kp no w w' :=
  (short_one s A B n c m d hb).mono fun e w' ⟨h1, b, h2, h3⟩ => ⟨by rw [h2, show b = q from Bool.eq_iff_iff.2 (h3.trans hq.symm)], h1⟩

def Sz (x : RcV) : Prop := x.d.length ≤ 2147483647 ∧ x.t.length ≤ 2147483647 ∧ x.p.length ≤ 2147483647
theorem zzFits6_sz {w : World} (s : ByteArray) (A B : Option Addr) (n c m d : Nat) :
    Calls Tryz.prog 13 #[.agg #[.string s, .slice A n c, .slice B m d]] w fun e w' => Kp no w w' ∧ TellB (s.size ≤ 2147483647 ∧ n ≤ 2147483647 ∧ m ≤ 2147483647) e := by
  have hb := Blk.new w #[.string s, .slice A n c, .slice B m d] 30
  have ka : Kp no w (w.alloc (.cells #[.string s, .slice A n c, .slice B m d] 30)) := (Kp.refl _ _).alloc _
  have x0 := hb.cell 0
  have x1 := hb.cell 1
  have x2 := hb.cell 2
  by_cases h0 : 2147483647 < (s.size : Int)
  · go_enter Tryz.func13, Tryz.ntmps13
    go_wp2
    go_ret
    exact ⟨ka, TellB.no _⟩
  by_cases h1 : 2147483647 < (n : Int)
  · go_enter Tryz.func13, Tryz.ntmps13
    go_wp2
    go_ret
    exact ⟨ka, TellB.no _⟩
  by_cases h2 : 2147483647 < (m : Int)
  · go_enter Tryz.func13, Tryz.ntmps13
    go_wp2
    go_ret
    exact ⟨ka, TellB.no _⟩
  have HZ := Lib.hid (show s.size ≤ 2147483647 ∧ n ≤ 2147483647 ∧ m ≤ 2147483647 from by omega)
  go_enter Tryz.func13, Tryz.ntmps13
  go_wp2
  go_ret
  exact ⟨ka, TellB.yes HZ.out⟩
theorem zzFits7_sz {w : World} (k : Int) (A : Option Addr) (n c : Nat) :
    Calls Tryz.prog 14 #[.agg #[.int .i32 k, .slice A n c]] w fun e w' => Kp no w w' ∧ TellB (n ≤ 2147483647) e := by
  have hb := Blk.new w #[.int .i32 k, .slice A n c] 34
  have ka : Kp no w (w.alloc (.cells #[.int .i32 k, .slice A n c] 34)) := (Kp.refl _ _).alloc _
  have x1 := hb.cell 1
  by_cases h0 : 2147483647 < (n : Int)
  · go_enter Tryz.func14, Tryz.ntmps14
    go_wp2
    go_ret
    exact ⟨ka, TellB.no _⟩
  have HZ := Lib.hid (show n ≤ 2147483647 from by omega)
  go_enter Tryz.func14, Tryz.ntmps14
  go_wp2
  go_ret
  exact ⟨ka, TellB.yes HZ.out⟩

set_option maxHeartbeats 4000000 in
theorem zzFits8_calls {w : World} {A : Option Addr} {n c : Nat} {f : Nat → RcV} (h : RdR w A n c f) :
    Calls Tryz.prog 4 #[.slice A n c] w fun e w' => Kp no w w' ∧ TellB (∀ j, j < n → Sz (f j)) e := by
  have hcap := h.cap
  have hmax := h.max
  by_cases hbig : 2147483647 < (n : Int)
  · go_enter Tryz.func4, Tryz.ntmps4
    go_wp2
    go_ret
    exact ⟨Kp.refl _ _, TellB.no _⟩
  have hbb : decide (2147483647 < (n : Int)) = false := decide_eq_false hbig
  have HBG := Lib.hid hbig
  have HH := Lib.hid h
  clear h hbig
  go_enter Tryz.func4, Tryz.ntmps4
  go_wp2
  go_loopw [10] (fun iv wr => ∃ i : Nat, iv = .int .i64 i ∧ i ≤ n ∧ Hid (∀ j, j < i → Sz (f j)) ∧ Kp no w wr) (fun iv _ => n - (intOf iv).toNat)
  case atStart => exact ⟨0, rfl, Nat.zero_le _, Lib.hid (fun j h => absurd h (Nat.not_lt_zero j)), Kp.refl _ _⟩
  case round =>
    obtain ⟨i, rfl, hi, HJ, k1⟩ := hrel
    have HN : (n : Int) ≤ 2147483647 := by have := HBG.out; omega
    by_cases hlt : i < n
    · obtain ⟨g, o, rfl, hc⟩ := (HH.out.keepN k1).at_ (by omega)
      obtain ⟨c0, c1, c2⟩ := hc i hlt
      clear hc
      obtain ⟨x, hx⟩ : ∃ x, x = f i := ⟨_, rfl⟩
      rw [← hx] at c0 c1 c2
      have HX := Lib.hid hx
      clear hx
      obtain ⟨ds, hds⟩ : ∃ ds, ds = strOfNums x.d := ⟨_, rfl⟩
      rw [← hds] at c0
      have HD := Lib.hid hds
      obtain ⟨n1, hn1⟩ : ∃ n, n = x.t.length := ⟨_, rfl⟩
      rw [← hn1] at c1
      obtain ⟨n2, hn2⟩ : ∃ n, n = x.p.length := ⟨_, rfl⟩
      rw [← hn2] at c2
      have HN2 := Lib.hid (And.intro hn1 hn2)
      clear hds hn1 hn2
      have kz : Kp no wr (wr.alloc (.cells #[.string ds, .slice x.A n1 x.c, .slice x.B n2 x.m] 30)) := (Kp.refl _ _).alloc _
      have E := Lib.hid (zzFits6_sz (w := wr.alloc (.cells #[.string ds, .slice x.A n1 x.c, .slice x.B n2 x.m] 30)) ds x.A x.B n1 x.c n2 x.m)
      go_wp2_with (fail)
      refine E.out.mono ?_
      rintro e w2 ⟨k2, q, rfl, zq⟩
      have k3 := k1.then (kz.then k2)
      cases q
      · go_wp2
        go_ret
        exact ⟨k3, TellB.no _⟩
      · have HQ := Lib.hid (show Sz (f i) from by
          have := zq rfl
          rw [HD.out, strOfNums_size, HN2.out.1, HN2.out.2, HX.out] at this
          exact this)
        clear zq
        go_wp2
        go_roundw
        case rel => exact ⟨i + 1, by go_num, hlt, Lib.hid (fun j hj => by
          rcases Nat.lt_or_ge j i with h | h
          · exact HJ.out j h
          · obtain rfl : j = i := by omega
            exact HQ.out), k3⟩
        case measure => simp [intOf]; omega
    · obtain rfl : i = n := by omega
      go_wp2
      go_ret
      exact ⟨k1, TellB.yes HJ.out⟩
set_option maxHeartbeats 4000000 in
theorem zzFits9_calls {w : World} {A : Option Addr} {n c : Nat} {f : Nat → ToV} (h : RdT w A n c f) :
    Calls Tryz.prog 5 #[.slice A n c] w fun e w' => Kp no w w' ∧ TellB (∀ j, j < n → (f j).d.length ≤ 2147483647) e := by
  have hcap := h.cap
  have hmax := h.max
  by_cases hbig : 2147483647 < (n : Int)
  · go_enter Tryz.func5, Tryz.ntmps5
    go_wp2
    go_ret
    exact ⟨Kp.refl _ _, TellB.no _⟩
  have hbb : decide (2147483647 < (n : Int)) = false := decide_eq_false hbig
  have HBG := Lib.hid hbig
  have HH := Lib.hid h
  clear h hbig
  go_enter Tryz.func5, Tryz.ntmps5
  go_wp2
  go_loopw [10] (fun iv wr => ∃ i : Nat, iv = .int .i64 i ∧ i ≤ n ∧ Hid (∀ j, j < i → (f j).d.length ≤ 2147483647) ∧ Kp no w wr) (fun iv _ => n - (intOf iv).toNat)
  case atStart => exact ⟨0, rfl, Nat.zero_le _, Lib.hid (fun j h => absurd h (Nat.not_lt_zero j)), Kp.refl _ _⟩
  case round =>
    obtain ⟨i, rfl, hi, HJ, k1⟩ := hrel
    have HN : (n : Int) ≤ 2147483647 := by have := HBG.out; omega
    by_cases hlt : i < n
    · obtain ⟨g, o, rfl, hc⟩ := (HH.out.keepN k1).at_ (by omega)
      obtain ⟨c0, c1⟩ := hc i hlt
      clear hc
      obtain ⟨x, hx⟩ : ∃ x, x = f i := ⟨_, rfl⟩
      rw [← hx] at c0 c1
      have HX := Lib.hid hx
      clear hx
      obtain ⟨n1, hn1⟩ : ∃ n, n = x.d.length := ⟨_, rfl⟩
      rw [← hn1] at c1
      have HN2 := Lib.hid hn1
      clear hn1
      have kz : Kp no wr (wr.alloc (.cells #[.int .i32 x.k, .slice x.A n1 x.c] 34)) := (Kp.refl _ _).alloc _
      have E := Lib.hid (zzFits7_sz (w := wr.alloc (.cells #[.int .i32 x.k, .slice x.A n1 x.c] 34)) x.k x.A n1 x.c)
      go_wp2_with (fail)
      refine E.out.mono ?_
      rintro e w2 ⟨k2, q, rfl, zq⟩
      have k3 := k1.then (kz.then k2)
      cases q
      · go_wp2
        go_ret
        exact ⟨k3, TellB.no _⟩
      · have HQ := Lib.hid (show (f i).d.length ≤ 2147483647 from by
          have := zq rfl
          rw [HN2.out, HX.out] at this
          exact this)
        clear zq
        go_wp2
        go_roundw
        case rel => exact ⟨i + 1, by go_num, hlt, Lib.hid (fun j hj => by
          rcases Nat.lt_or_ge j i with h | h
          · exact HJ.out j h
          · obtain rfl : j = i := by omega
            exact HQ.out), k3⟩
        case measure => simp [intOf]; omega
    · obtain rfl : i = n := by omega
      go_wp2
      go_ret
      exact ⟨k1, TellB.yes HJ.out⟩
end Go.Proofs.YtddofkeajinjpaaGreatDoor
namespace Go.Proofs.YtddofkeajinjpaaGreatDoor
open Go Go.RowKit
set_option linter.unusedVariables false
set_option linter.unusedSimpArgs false
set_option maxRecDepth 100000

def LawOk (w : World) (e : Ending) (w' : World) : Prop := e = .returned (.bool true) ∧ Kp no w w'
theorem some_same {w : World} {A B : Option Addr} {n c m d : Nat} {a b : List Int} (ha : Rd w A n c a) (hb : Rd w B m d b) (q : Bool) (hq : decide (a = b) = q) :
    Calls Tryz.prog 12 #[.slice A n c, .slice B m d] w fun e w' => e = .returned (.bool q) ∧ Kp no w w' := hq ▸ recordSame_calls ha hb
/-- An envelope of the reference's. -/
def EvG (l : List Int) : Prop := ∃ k d ty pl sg, l = ebb k d ty pl sg ∧ EvL l k d ty pl sg
theorem EvG.len {l : List Int} (h : EvG l) : l.length ≤ 40000 := by
  obtain ⟨_, _, _, _, _, _, h⟩ := h
  exact h.len
theorem same_g {w : World} {A B : Option Addr} {c b : Nat} {l l2 : List Int} (hW : UnW w) (hA : Rd w A l.length c l) (hB : Rd w B l2.length b l2) (h : EvG l) (h2 : EvG l2) (q : Bool) (hq : decide (l = l2) = q) :
    Calls Tryz.prog 10 #[.slice A l.length c, .slice B l2.length b] w fun e w' => e = .returned (.tuple #[.bool q, .bool true]) ∧ Kp no w w' := by
  obtain ⟨k, d, ty, pl, sg, hl, h⟩ := h
  obtain ⟨k2, d2, ty2, pl2, sg2, hl2, h2⟩ := h2
  have hb : (((decide (k = k2 ∧ d = d2) && decide (ty = ty2)) && decide (sg = sg2)) && decide (pl = pl2)) = q := by
    rw [← hq]
    subst hl hl2
    exact same_bool h h2
  rw [← hb]
  exact sameEnvelopes_calls hW hA hB h h2

set_option maxHeartbeats 8000000 in
theorem same_calls {w : World} {gb : Nat} {A : Option Addr} {c : Nat} {L : List (List Int)} (hb : w.cell? ⟨gb, 0, none⟩ = some (.slice A L.length c)) (hS : RdS w A L.length c L) (hE : ∀ j, j < L.length → EvG (L.getD j [])) (hW : UnW w) (i j : Nat) (hi : i < L.length) (hj : j < L.length)
    (q : Bool) (hq : decide (L.getD i [] = L.getD j []) = q) :
    Calls Tryz.prog 9 #[.int .i64 i, .int .i64 j, .pointer (some ⟨gb, 0, none⟩)] w fun e w' => e = .returned (.bool q) ∧ Kp no w w' := by
  have hcap := hS.cap
  have hmax := hS.max
  obtain ⟨g, o, rfl, hc⟩ := hS.at_ (by omega)
  obtain ⟨Ai, ci, ei, ri⟩ := hc i hi
  obtain ⟨Aj, cj, ej, rj⟩ := hc j hj
  have gi := hE i hi
  have gj := hE j hj
  obtain ⟨li, hli⟩ : ∃ l, l = L.getD i [] := ⟨_, rfl⟩
  obtain ⟨lj, hlj⟩ : ∃ l, l = L.getD j [] := ⟨_, rfl⟩
  rw [← hli] at ei ri gi hq
  rw [← hlj] at ej rj gj hq
  have O1 := Lib.hid (fun W (kk : Kp no w W) => recordOwn_calls (ri.keepN kk) (by have := gi.len; omega))
  have O2 := Lib.hid (fun W (kk : Kp no w W) => recordOwn_calls (rj.keepN kk) (by have := gj.len; omega))
  have SE := Lib.hid (fun W (kk : Kp no w W) X Y x y (RX : Rd W X li.length x li) (RY : Rd W Y lj.length y lj) => same_g (hW.keepN kk) RX RY gi gj q hq)
  have HS := Lib.hid (fun W (kk : Kp no w W) => show Kp no w W ∧ W.cell? ⟨gb, 0, none⟩ = some (.slice (some ⟨g, o, none⟩) L.length c) ∧ W.cell? ⟨g, o + i, none⟩ = some (.slice Ai li.length ci) ∧ W.cell? ⟨g, o + j, none⟩ = some (.slice Aj lj.length cj) from ⟨kk, kk.cellN hb, kk.cellN ei, kk.cellN ej⟩)
  have kd : Kp no w w.drew := (Kp.refl _ _).drew
  clear hb hS hE hW hc ri rj gi gj hli hlj hq ei ej
  generalize L.length = N at *
  go_enter Tryz.func9, Tryz.ntmps9
  go_upto_region 1 with (fail)
  go_region_held3 (fun W => Kp no w W ∧ W.cell? ⟨gb, 0, none⟩ = some (.slice (some ⟨g, o, none⟩) N c) ∧ W.cell? ⟨g, o + i, none⟩ = some (.slice Ai li.length ci) ∧ W.cell? ⟨g, o + j, none⟩ = some (.slice Aj lj.length cj))
    ((exact HS.out _ (by first | with_reducible exact kd | with_reducible exact k5 | with_reducible exact k6 | with_reducible exact k7)))
    (first
    | (go_at_call 10; refine (SE.out w6 k6 X1 X2 xc1 xc2 (by with_reducible exact M1.rd.keepN M2.kp) (by with_reducible exact M2.rd)).mono ?_; rintro e w7 ⟨rfl, k67⟩; have k7 := k6.then k67)
    | (go_at_call 11; refine (O2.out w5 k5).mono ?_; rintro e w6 ⟨X2, xc2, rfl, M2⟩; have k6 := k5.then M2.kp)
    | (go_at_call 11; refine (O1.out w.drew kd).mono ?_; rintro e w5 ⟨X1, xc1, rfl, M1⟩; have k5 := kd.then M1.kp))
  all_goals
    clear M1 M2 O1 O2 SE HS
    go_wp2_with (fail)
    go_ret
    exact ⟨rfl, k7⟩

/-- The list of the envelopes, in the variable at gb. -/
structure AllB (w : World) (gb B : Nat) (v : Value) (L : List (List Int)) : Prop where
  ex : ∃ us : List Value, VOwn w 28 B v us ∧ us.length = L.length ∧ ∀ (j : Nat) (hj : j < us.length), ElAt w v us[j] (L.getD j []) ∧ ∀ A m c, us[j] = .slice A m c → ∀ a, A = some a → a.block ≠ gb
theorem AllB.nil (w : World) (gb B : Nat) : AllB w gb B (.slice none 0 0) [] := ⟨[], VOwn.nil _ _ _, rfl, fun j hj => absurd hj (by simp)⟩
theorem AllB.keepN {w w' : World} {gb B : Nat} {v : Value} {L : List (List Int)} (h : AllB w gb B v L) (k : Kp no w w') : AllB w' gb B v L := by
  obtain ⟨us, ho, hl, he⟩ := h.ex
  exact ⟨us, ho.keepN k, hl, fun j hj => ⟨(he j hj).1.keepN k, (he j hj).2⟩⟩
theorem AllB.vs {w : World} {gb B : Nat} {v : Value} {L : List (List Int)} (h : AllB w gb B v L) : VS w B v L := by
  obtain ⟨us, ho, hl, he⟩ := h.ex
  exact ⟨us, ho, hl, fun j hj => (he j hj).1⟩
theorem AllB.set {w w' : World} {gb B : Nat} {v : Value} {L : List (List Int)} (h : AllB w gb B v L) (hB : gb < B) (k : Kp (· = gb) w w') : AllB w' gb B v L := by
  obtain ⟨us, ho, hl, he⟩ := h.ex
  refine ⟨us, ho.keep k (fun i hi e => by have e : i = gb := e; have := (ho.base i hi).1; omega), hl, fun j hj => ⟨?_, (he j hj).2⟩⟩
  obtain ⟨A, c, hu, hr, hf⟩ := (he j hj).1
  exact ⟨A, c, hu, hr.keep k (fun a ha => (he j hj).2 _ _ _ hu a ha), fun a ha => ⟨Nat.lt_of_lt_of_le (hf a ha).1 k.size, (hf a ha).2⟩⟩
theorem AllB.app {w w1 : World} {gb B : Nat} {v v1 u : Value} {us : List Value} {L : List (List Int)} {l : List Int} (hl : us.length = L.length) (he : ∀ (j : Nat) (hj : j < us.length), ElAt w v us[j] (L.getD j []) ∧ ∀ A m c, us[j] = .slice A m c → ∀ a, A = some a → a.block ≠ gb)
    (hu : ElAt w v u l) (hg : ∀ A m c, u = .slice A m c → ∀ a, A = some a → a.block ≠ gb) (ho : VOwn w1 28 B v1 (us ++ [u])) (k : Kp (Of v) w w1) (hw : Went w v v1) : AllB w1 gb B v1 (L ++ [l]) := by
  obtain ⟨us2, h2, hl2, he2⟩ := (VS.app hl (fun j hj => (he j hj).1) hu ho k hw).ex
  refine ⟨us ++ [u], ho, by simp [hl], fun j hj => ?_⟩
  by_cases hjl : j < us.length
  · rw [List.getElem_append_left hjl, show (L ++ [l]).getD j [] = L.getD j [] from by rw [List.getD_eq_getElem?_getD, List.getD_eq_getElem?_getD, List.getElem?_append_left (by omega)]]
    exact ⟨(he j hjl).1.went k hw, (he j hjl).2⟩
  · have hj' : j = us.length := by simp at hj; omega
    subst hj'
    rw [List.getElem_append_right (Nat.le_refl _), show (L ++ [l]).getD us.length [] = l from by rw [List.getD_eq_getElem?_getD, List.getElem?_append_right (by omega), hl]; simp]
    simp only [Nat.sub_self, List.getElem_cons_zero]
    exact ⟨hu.went k hw, hg⟩

/-- What RecordSealed hands back, as a pair of values. -/
theorem sealed_pair {w : World} {A B D : Option Addr} {c b f : Nat} {k : Int} {dl ty pl d : List Int} (hdl : Byt dl) (z : dl.length ≤ 5000000000 ∧ ty.length ≤ 5000000000 ∧ pl.length ≤ 5000000000) (z2 : d.length ≤ 5000000000)
    (ht : Rd w A ty.length c ty) (hp : Rd w B pl.length b pl) (hd : Rd w D d.length f d) :
    Calls Tryz.prog 7 #[.agg #[.string (strOfNums dl), .slice A ty.length c, .slice B pl.length b], .agg #[.int .i32 k, .slice D d.length f]] w
      (fun e w' => ∃ C m cc q, e = .returned (.tuple #[.slice C m cc, .bool q]) ∧ Kp no w w' ∧ Hid (SeP w dl ty pl d k (.returned (.tuple #[.slice C m cc, .bool q])) w')) :=
  (recordSealed_calls hdl z z2 ht hp hd).mono fun e w' h => by
    have h0 := h
    obtain ⟨kp, hr⟩ := h
    by_cases hc : 0 < dl.length ∧ 0 < ty.length ∧ 0 ≤ k ∧ k ≤ 3 ∧ 0 < d.length
    · rw [if_pos hc] at hr
      obtain ⟨S, L, C, cc, _, _, _, rfl, _⟩ := hr
      exact ⟨C, L.length, cc, true, rfl, kp, Lib.hid h0⟩
    · rw [if_neg hc] at hr
      subst hr
      exact ⟨none, 0, 0, false, rfl, kp, Lib.hid h0⟩
/-- .. and what is known of it. -/
theorem sealed_known {w w' : World} {dl ty pl d : List Int} {k : Int} {C : Option Addr} {m cc : Nat} {q : Bool} (h : SeP w dl ty pl d k (.returned (.tuple #[.slice C m cc, .bool q])) w') (hq : q = true) (z : (dl.length ≤ 200 ∧ ty.length ≤ 200 ∧ pl.length ≤ 1000) ∧ d.length ≤ 200)
    (hd : Byt d) (ht : Byt ty) (hp : Byt pl) : ∃ L, m = L.length ∧ Rd w' C L.length cc L ∧ EvG L ∧ ∀ a, C = some a → w.heap.size ≤ a.block ∧ a.block < w'.heap.size := by
  obtain ⟨kp, hr⟩ := h
  by_cases hc : 0 < dl.length ∧ 0 < ty.length ∧ 0 ≤ k ∧ k ≤ 3 ∧ 0 < d.length
  · rw [if_pos hc] at hr
    obtain ⟨S, L, C', cc', hS, hSb, hL, he, hR, hf⟩ := hr
    simp only [Ending.returned.injEq, Value.tuple.injEq, Array.mk.injEq, List.cons.injEq, Value.slice.injEq, and_true] at he
    obtain ⟨⟨rfl, rfl, rfl⟩, _⟩ := he
    exact ⟨L, rfl, hR, ⟨k, d, ty, pl, S, hL, by rw [hL]; exact EvL.ebb hc.2.2.1 hc.2.2.2.1 hc.2.2.2.2 hd ht hp hSb (by omega) (by omega) (by omega) (by omega)⟩, hf⟩
  · rw [if_neg hc] at hr
    subst hq
    simp at hr

set_option maxHeartbeats 32000000 in
theorem fnRecordEquals_calls {w : World} {K : List Int} {A A2 : Option Addr} {n c n2 c2 : Nat} {f : Nat → RcV} {ft : Nat → ToV} (h : RdR w A n c f) (h2 : RdT w A2 n2 c2 ft) (hW : OpW w K) :
    Calls Tryz.prog 3 #[.slice A n c, .slice A2 n2 c2] w (LawOk w) := by
  have hcap := h.cap
  have hmax := h.max
  have hcap2 := h2.cap
  have hmax2 := h2.max
  have HR := Lib.hid h
  have HT := Lib.hid h2
  have E1 := Lib.hid (zzFits8_calls h)
  have E2 := Lib.hid (fun W (kk : Kp no w W) => zzFits9_calls (h2.keepN kk))
  have AW := Lib.hid (fun W (k : Kp no w W) => awake_calls (hW.keepN k))
  have HU := Lib.hid (show UnW w from ⟨hW.e, hW.b⟩)
  clear h h2 hW
  go_enter Tryz.func3, Tryz.ntmps3
  go_wp2_with (fail)
  refine E1.out.mono ?_
  rintro e w1 ⟨k1, q, rfl, z1⟩
  cases q
  · go_wp2
    go_ret
    exact ⟨rfl, k1⟩
  have Z1 := Lib.hid (z1 rfl)
  have E3 := Lib.hid (E2.out w1 k1)
  clear z1
  go_wp2_with (fail)
  refine E3.out.mono ?_
  rintro e w2 ⟨k2', q, rfl, z2⟩
  have k2 := k1.then k2'
  cases q
  · go_wp2
    go_ret
    exact ⟨rfl, k2⟩
  have Z2 := Lib.hid (z2 rfl)
  clear z2 E1 E2 E3 k1 k2'
  have EA := Lib.hid (AW.out w2 k2)
  by_cases hb4 : (4 : Int) < (n : Int)
  · go_wp2_with (fail)
    refine EA.out.mono ?_
    rintro e w3 ⟨rfl, k3⟩
    go_wp2
    go_ret
    exact ⟨rfl, k2.then k3⟩
  have hb4b : decide ((4 : Int) < (n : Int)) = false := decide_eq_false hb4
  have hn4 : n ≤ 4 := by omega
  clear hb4
  by_cases hnn : n2 < n
  · have hnni : (n2 : Int) < (n : Int) := by omega
    go_wp2_with (fail)
    refine EA.out.mono ?_
    rintro e w3 ⟨rfl, k3⟩
    go_wp2
    go_ret
    exact ⟨rfl, k2.then k3⟩
  have hnb : decide (n2 < n) = false := decide_eq_false hnn
  have hnle : n ≤ n2 := by omega
  clear hnn
  go_upto_region 6 with (fail)
  have K2 := Lib.hid k2
  have kb3 : Kp no w (w2.alloc (.cells #[.slice none 0 0] 27)) := k2.then ((Kp.refl _ _).alloc _)
  have hbx := Blk.new w2 #[.slice none 0 0] 27
  have hs3 : (w2.alloc (.cells #[.slice none 0 0] 27)).heap.size = w2.heap.size + 1 := by simp
  have hgw : w.heap.size ≤ w2.heap.size := k2.size
  generalize w2.alloc (.cells #[.slice none 0 0] 27) = W3 at *
  generalize hgb : w2.heap.size = gb at *
  have HSZ := Lib.hid (And.intro hs3 hgw)
  clear hs3 hgw hgb hb4b hnb EA k2 K2
  have KK := Lib.hid (fun W (k : Kp (· = gb) W3 W) => show Kp no w W from kb3.trans k (fun i hi h => by have h : i = gb := h; have := HSZ.out.2; omega))
  have HBX0 := Lib.hid hbx
  clear hbx
  have V0 : Hid (AllB W3 gb (gb + 1) (.slice none 0 0) []) := Lib.hid (AllB.nil _ _ _)
  go_wp2
  go_loopw [35] (fun iv wr => ∃ (i : Nat) (L : List (List Int)) (v : Value), iv = .int .i64 i ∧ i ≤ n ∧ Hid (L.length = i) ∧ Hid (AllB wr gb (gb + 1) v L) ∧ Hid (Blk wr gb #[v] 27) ∧ Hid (∀ j, j < L.length → EvG (L.getD j [])) ∧ Kp (· = gb) W3 wr) (fun iv _ => n - (intOf iv).toNat)
  case atStart => exact ⟨0, [], _, rfl, Nat.zero_le _, Lib.hid rfl, V0, HBX0, Lib.hid (fun j h => absurd h (Nat.not_lt_zero j)), Kp.refl _ _⟩
  case round =>
    obtain ⟨i, L, v, rfl, hi, HL, HV, HBK, HE, kr⟩ := hrel
    have kw := KK.out wr kr
    have hbv : wr.cell? ⟨gb, 0, none⟩ = some v := HBK.out.cell 0
    clear V0 HBX0
    by_cases hlt : i < n
    · obtain ⟨g, o, rfl, hc⟩ := (HR.out.keepN kw).at_ (by omega)
      obtain ⟨c0, c1, c2'⟩ := hc i hlt
      obtain ⟨g2, o2, rfl, hc2⟩ := (HT.out.keepN kw).at_ (by omega)
      have hlt2 : i < n2 := by omega
      obtain ⟨d0, d1⟩ := hc2 i hlt2
      have ax := (HR.out.keepN kw).ok i hlt
      have ay := (HT.out.keepN kw).ok i hlt2
      have sx := Z1.out i hlt
      have sy := Z2.out i hlt2
      clear hc hc2
      obtain ⟨x, hx⟩ : ∃ x, x = f i := ⟨_, rfl⟩
      obtain ⟨y, hy⟩ : ∃ y, y = ft i := ⟨_, rfl⟩
      rw [← hx] at c0 c1 c2' ax sx
      rw [← hy] at d0 d1 ay sy
      clear hx hy
      have k4 : Kp no wr (wr.alloc (.cells #[.string (strOfNums x.d), .slice x.A x.t.length x.c, .slice x.B x.p.length x.m] 30)) := (Kp.refl _ _).alloc _
      have b4 := Blk.new wr #[.string (strOfNums x.d), .slice x.A x.t.length x.c, .slice x.B x.p.length x.m] 30
      go_upto_region 9 with (fail)
      generalize wr.alloc (.cells #[.string (strOfNums x.d), .slice x.A x.t.length x.c, .slice x.B x.p.length x.m] 30) = W4 at *
      have HS := Lib.hid (fun W (kk : Kp no W4 W) => show Kp no W4 W ∧ W.cell? ⟨wr.heap.size, 0, none⟩ = some (.string (strOfNums x.d)) ∧ W.cell? ⟨wr.heap.size, 1, none⟩ = some (.slice x.A x.t.length x.c) ∧ W.cell? ⟨wr.heap.size, 2, none⟩ = some (.slice x.B x.p.length x.m) ∧ W.cell? ⟨g2, o2 + i * 2, none⟩ = some (.int .i32 y.k) ∧ W.cell? ⟨g2, o2 + i * 2 + 1, none⟩ = some (.slice y.A y.d.length y.c) from
        ⟨kk, (b4.keepN kk).cell 0, (b4.keepN kk).cell 1, (b4.keepN kk).cell 2, (k4.then kk).cellN d0, (k4.then kk).cellN d1⟩)
      have QS := Lib.hid (fun W (kk : Kp no W4 W) => sealed_pair (w := W) (k := y.k) ax.d ⟨by have := sx.1; omega, by have := sx.2.1; omega, by have := sx.2.2; omega⟩ (by omega) (ax.t.keepN (k4.then kk)) (ax.p.keepN (k4.then kk)) (ay.d.keepN (k4.then kk)))
      have BY := Lib.hid (And.intro ay.d.byt (And.intro ax.t.byt ax.p.byt))
      have kd : Kp no W4 W4.drew := (Kp.refl _ _).drew
      have HK4 := Lib.hid k4
      have SH := Lib.hid (fun W (q : Bool) (hq : q = true ↔ ((x.d.length ≤ 200 ∧ x.t.length ≤ 200 ∧ x.p.length ≤ 1000) ∧ y.d.length ≤ 200)) (gl : Nat) (hbl : Blk W gl #[.int .i32 y.k, .slice y.A y.d.length y.c] 34) => short_yes (s := strOfNums x.d) (A := x.A) (B := x.B) (n := x.t.length) (c := x.c) (m := x.p.length) (d := x.m) q (by rw [strOfNums_size]; exact hq) hbl)
      have hgv : gb < wr.heap.size := World.block_lt_of_cell? _ _ hbv
      have HBV := Lib.hid (fun W (kk : Kp no W4 W) => (k4.then kk).cellN hbv)
      clear c0 c1 c2' d0 d1 ax ay sx sy b4 k4 hbv
      obtain ⟨ds, hds⟩ : ∃ ds, ds = strOfNums x.d := ⟨_, rfl⟩
      rw [← hds] at HS QS SH ⊢
      clear hds
      obtain ⟨m1, hm1⟩ : ∃ m, m = x.t.length := ⟨_, rfl⟩
      obtain ⟨m2, hm2⟩ : ∃ m, m = x.p.length := ⟨_, rfl⟩
      obtain ⟨m3, hm3⟩ : ∃ m, m = y.d.length := ⟨_, rfl⟩
      rw [← hm1] at HS QS SH ⊢
      rw [← hm2] at HS QS SH ⊢
      rw [← hm3] at HS QS SH
      have HM := Lib.hid (And.intro hm1 (And.intro hm2 hm3))
      clear hm1 hm2 hm3
      go_cut [8, 9] from 40 to 48 (fun v8 v9 wx => ∃ C m cc q, v8 = .slice C m cc ∧ v9 = .bool q ∧ Kp no W4 wx ∧ Hid (∃ W, Kp no W4 W ∧ SeP W x.d x.t x.p y.d y.k (.returned (.tuple #[.slice C m cc, .bool q])) wx))
      case first =>
        have Q1 := Lib.hid (QS.out W4.drew kd)
        go_region_held3 (fun W => Kp no W4 W ∧ W.cell? ⟨wr.heap.size, 0, none⟩ = some (.string ds) ∧ W.cell? ⟨wr.heap.size, 1, none⟩ = some (.slice x.A m1 x.c) ∧ W.cell? ⟨wr.heap.size, 2, none⟩ = some (.slice x.B m2 x.m) ∧ W.cell? ⟨g2, o2 + i * 2, none⟩ = some (.int .i32 y.k) ∧ W.cell? ⟨g2, o2 + i * 2 + 1, none⟩ = some (.slice y.A m3 y.c))
          ((exact HS.out _ (by first | with_reducible exact kd | with_reducible exact k5)))
          ((go_at_call 7; refine Q1.out.mono ?_; rintro e w5 ⟨C, m, cc, q, rfl, k45, hse⟩; have k5 := kd.then k45))
        all_goals
          go_wp2_with (fail)
          go_meet
          case rel => exact ⟨C, m, cc, q, rfl, rfl, k5, Lib.hid ⟨_, kd, hse.out⟩⟩
      case rest =>
        obtain ⟨C, m, cc, q, rfl, rfl, k5, HSE⟩ := hcut
        obtain ⟨we, rfl⟩ : ∃ x : World, x = wc := ⟨_, rfl⟩
        obtain ⟨p, hp⟩ : ∃ p, p = decide ((x.d.length ≤ 200 ∧ m1 ≤ 200 ∧ m2 ≤ 1000) ∧ m3 ≤ 200) := ⟨_, rfl⟩
        have HP := Lib.hid hp
        have kd5 : Kp no we we.drew := (Kp.refl _ _).drew
        have kl5 : Kp no we (we.alloc (.cells #[.int .i32 y.k, .slice y.A m3 y.c] 34)).drew := ((Kp.refl _ _).alloc _).drew
        have kl6 : Kp no we (we.drew.alloc (.cells #[.int .i32 y.k, .slice y.A m3 y.c] 34)) := (Kp.refl _ _).drew.alloc _
        have S1 := Lib.hid (SH.out (we.alloc (.cells #[.int .i32 y.k, .slice y.A m3 y.c] 34)).drew p (by rw [hp]; exact decide_eq_true_iff) we.heap.size ((Blk.new we _ _).keepN (Kp.refl _ _).drew))
        have S2 := Lib.hid (SH.out (we.drew.alloc (.cells #[.int .i32 y.k, .slice y.A m3 y.c] 34)) p (by rw [hp]; exact decide_eq_true_iff) we.drew.heap.size (Blk.new we.drew _ _))
        have H5 := Lib.hid (fun W (kk : Kp no we W) => HS.out W (k5.then kk))
        clear hp HS QS SH
        go_upto_region 10 with (fail)
        go_cut [60] from 49 to 59 (fun v wx => v = .bool (!(p && q)) ∧ Kp no we wx)
        case first =>
          cases p
          · obtain ⟨_, x0, x1, x2, y0, y1⟩ := H5.out we.drew kd5
            obtain ⟨_, v0, v1, v2, z0, z1⟩ := H5.out _ kl6
            obtain ⟨_, t0, t1, t2, r0, r1⟩ := H5.out _ kl5
            cases q
            all_goals
              first
              | go_region_with
                  (first
                  | (go_at_call 8; refine S2.out.mono ?_; rintro e w6 ⟨rfl, k56⟩; have k6 := kl6.then k56)
                  | (go_at_call 8; refine S1.out.mono ?_; rintro e w6 ⟨rfl, k56⟩; have k6 := kl5.then k56))
              | fail
              all_goals
                go_wp2_with (fail)
                go_meet
                case rel => exact ⟨rfl, k6⟩
          · cases q
            all_goals
              go_region_held3 (fun W => Kp no W4 W ∧ W.cell? ⟨wr.heap.size, 0, none⟩ = some (.string ds) ∧ W.cell? ⟨wr.heap.size, 1, none⟩ = some (.slice x.A m1 x.c) ∧ W.cell? ⟨wr.heap.size, 2, none⟩ = some (.slice x.B m2 x.m) ∧ W.cell? ⟨g2, o2 + i * 2, none⟩ = some (.int .i32 y.k) ∧ W.cell? ⟨g2, o2 + i * 2 + 1, none⟩ = some (.slice y.A m3 y.c))
                  ((exact H5.out _ (by first | with_reducible exact kd5 | with_reducible exact kl5 | with_reducible exact kl6 | with_reducible exact k6)))
                  (first
                  | (go_at_call 8; refine S1.out.mono ?_; rintro e w6 ⟨rfl, k56⟩; have k6 := kl5.then k56)
                  | (go_at_call 8; refine S2.out.mono ?_; rintro e w6 ⟨rfl, k56⟩; have k6 := kl6.then k56))
              all_goals
                go_wp2_with (fail)
                go_meet
                case rel => exact ⟨rfl, k6⟩
        case rest =>
          obtain ⟨rfl, k6⟩ := hcut
          obtain ⟨wd, rfl⟩ : ∃ x : World, x = wc := ⟨_, rfl⟩
          have k56 := k5.then k6
          have kx := HK4.out.then k56
          have EA := Lib.hid (AW.out wd (kw.then kx))
          clear S1 S2 H5 kl5 kl6 kd5
          cases p
          · cases q
            all_goals
              go_wp2_with (fail)
              refine EA.out.mono ?_
              rintro e wz ⟨rfl, kz⟩
              go_wp2
              go_ret
              exact ⟨rfl, (kw.then kx).then kz⟩
          · cases q
            · go_wp2_with (fail)
              refine EA.out.mono ?_
              rintro e wz ⟨rfl, kz⟩
              go_wp2
              go_ret
              exact ⟨rfl, (kw.then kx).then kz⟩
            · have hp' := of_decide_eq_true HP.out.symm
              rw [HM.out.1, HM.out.2.1, HM.out.2.2] at hp'
              obtain ⟨W, kW, hse⟩ := HSE.out
              obtain ⟨Lx, rfl, RX, hG, hfr⟩ := sealed_known hse rfl hp' BY.out.1 BY.out.2.1 BY.out.2.2
              obtain ⟨us, hVO, hVl, hVe⟩ := HV.out.ex
              have hsz : wr.heap.size ≤ W.heap.size := Nat.le_trans HK4.out.size kW.size
              have hVO2 := hVO.keepN kx
              have hbd := HBV.out wd k56
              have kl : Kp no wd (wd.alloc (.cells #[.slice C Lx.length cc] 28)) := (Kp.refl _ _).alloc _
              have hVO3 := hVO2.keepN kl
              have hB : gb + 1 ≤ (wd.alloc (.cells #[.slice C Lx.length cc] 28)).heap.size := by have := kx.size; have := kl.size; omega
              have hnv : ¬ Of v gb := fun hh => by have := (hVO.base _ hh).1; omega
              have hu : ElAt wd v (.slice C Lx.length cc) Lx := ⟨C, cc, rfl, RX.keepN k6, fun a ha => ⟨Nat.lt_of_lt_of_le (hfr a ha).2 k6.size, fun he => by have h1 := (hVO.base _ he).2; have h2 := (hfr a ha).1; omega⟩⟩
              have hug : ∀ A m c, Value.slice C Lx.length cc = .slice A m c → ∀ a, A = some a → a.block ≠ gb := fun A m c he a ha => by
                injection he with h1 _ _
                subst h1
                have h2 := (hfr a ha).1
                omega
              have HUL := Lib.hid hVl
              have HE2 := Lib.hid (fun j hj => And.intro ((hVe j hj).1.keepN kx) (hVe j hj).2)
              have HUG := Lib.hid (And.intro hu hug)
              have HGX := Lib.hid hG
              have HNV := Lib.hid hnv
              have HVO3 := Lib.hid hVO3
              have HBB := Lib.hid hB
              have HLX := Lib.hid (show us.length ≤ 1099511627776 from by have := HL.out; omega)
              clear hVO hVl hVe hVO2 hVO3 hu hug hG hnv hfr RX hse hp' HSE hB EA hsz
              go_wp2_with (first
                | (at_builtin; refine one_append (gb + 1) rfl (.tmp 62) (.tmp 64) 27 28 rfl Tryz.und_bytess' (.slice none 0 0) 24 Tryz.info_bytes rfl (by omega) v us (.slice C Lx.length cc) wd.heap.size rfl rfl ((Blk.new wd #[.slice C Lx.length cc] 28).cell 0) rfl HVO3.out HBB.out HLX.out ?_; intro A1 e1 w9 O9 k9 hw9; have b9 : Blk w9 gb #[v] 27 := ((HBK.out.keepN kx).keepN kl).keep k9 HNV.out; have hb9 : w9.cell? ⟨gb, 0, none⟩ = some v := b9.cell 0; have hf0 := b9.free 0; have HB9 := Lib.hid b9; clear b9; have hf9 : Hid (VOwn w9 28 (gb + 1) (.slice A1 (us.length + 1) e1) (us ++ [.slice C Lx.length cc])) := Lib.hid O9; clear O9))
              go_roundw
              case rel =>
                have ks : Kp (· = gb) w9 (w9.setCell ⟨gb, 0, none⟩ (.slice A1 (us.length + 1) e1)) := (Kp.refl (· = gb) w9).setCell (S := (· = gb)) (p := ⟨gb, 0, none⟩) (fun _ => rfl) _
                have hall : AllB w9 gb (gb + 1) (.slice A1 (us.length + 1) e1) (L ++ [Lx]) := AllB.app HUL.out (fun j hj => ⟨((HE2.out j hj).1.keepN kl), (HE2.out j hj).2⟩) (HUG.out.1.keepN kl) HUG.out.2 hf9.out k9 hw9
                refine ⟨i + 1, L ++ [Lx], .slice A1 (us.length + 1) e1, by go_num, hlt, Lib.hid (by simp [HL.out]), Lib.hid (hall.set (by omega) ks), ?_, Lib.hid (fun j hj => ?_), ?_⟩
                · exact Lib.hid (HB9.out.set 0 (.slice A1 (us.length + 1) e1))
                · by_cases hj2 : j < L.length
                  · rw [show (L ++ [Lx]).getD j [] = L.getD j [] from by rw [List.getD_eq_getElem?_getD, List.getD_eq_getElem?_getD, List.getElem?_append_left hj2]]
                    exact HE.out j hj2
                  · have hj3 : j = L.length := by simp at hj; omega
                    subst hj3
                    rw [show (L ++ [Lx]).getD L.length [] = Lx from by simp [List.getD_eq_getElem?_getD]]
                    exact HGX.out
                · exact (Kp.vown ((kr.then kx).then kl) HVO3.out (by rw [HSZ.out.1]; exact Nat.le_refl _) k9).setCell (p := ⟨gb, 0, none⟩) (fun _ => rfl) _
              case measure => simp [intOf]; omega
    · obtain rfl : i = n := by omega
      obtain ⟨w4, rfl⟩ : ∃ x : World, x = wr := ⟨_, rfl⟩
      obtain ⟨Av, cv, rfl, hRS⟩ := HV.out.vs.rd
      have hN4 : L.length ≤ 4 := by have := HL.out; omega
      have hvc := hRS.cap
      have hvm := hRS.max
      have SM := Lib.hid (fun W (kk : Kp no w4 W) a b (ha : a < L.length) (hb : b < L.length) q hq => same_calls (kk.cellN hbv) (hRS.keepN kk) HE.out (HU.out.keepN (kw.then kk)) a b ha hb q hq)
      have HRS := Lib.hid hRS
      have AE := Lib.hid (fun W (kk : Kp no w4 W) => AW.out W (kw.then kk))
      have HBX := Lib.hid (fun W (kk : Kp no w4 W) => kk.cellN hbv)
      have HLN := Lib.hid HL
      clear hRS HV HL HE
      obtain ⟨N, hN⟩ : ∃ N, N = L.length := ⟨_, rfl⟩
      rw [← hN] at hN4 hvc SM HRS HBX hbv
      have HN := Lib.hid hN
      clear hN
      go_wp2
      clear hbv
      go_loopw [70] (fun iv wx => ∃ a : Nat, iv = .int .i64 a ∧ a ≤ N ∧ Kp no w4 wx) (fun iv _ => N - (intOf iv).toNat)
      case atStart => exact ⟨0, rfl, Nat.zero_le _, Kp.refl _ _⟩
      case round =>
        obtain ⟨a, rfl, ha, ka⟩ := hrel
        obtain ⟨w5, rfl⟩ : ∃ x : World, x = wr := ⟨_, rfl⟩
        have xb := HBX.out w5 ka
        by_cases hla : a < N
        · go_wp2
          clear xb
          go_loopw [75] (fun iv wx => ∃ b : Nat, iv = .int .i64 b ∧ b ≤ N ∧ Kp no w4 wx) (fun iv _ => N - (intOf iv).toNat)
          case atStart => exact ⟨0, rfl, Nat.zero_le _, ka⟩
          case round =>
            obtain ⟨b, rfl, hb, kb⟩ := hrel
            obtain ⟨w6, rfl⟩ : ∃ x : World, x = wr := ⟨_, rfl⟩
            by_cases hlb : b < N
            · obtain ⟨q, hq⟩ : ∃ q, decide (L.getD a [] = L.getD b []) = q := ⟨_, rfl⟩
              have hq2 : decide (L.getD b [] = L.getD a []) = q := by rw [← hq]; exact decide_eq_decide.2 eq_comm
              have HQ := Lib.hid hq
              obtain ⟨g, o, rfl, hc⟩ := (HRS.out.keepN kb).at_ (by omega)
              obtain ⟨Aa, ca, ea, ra⟩ := hc a hla
              obtain ⟨Ab, cb, eb', rb⟩ := hc b hlb
              have S1 := Lib.hid (fun W (kk : Kp no w6 W) => SM.out W (kb.then kk) a b hla hlb q hq)
              have S2 := Lib.hid (fun W (kk : Kp no w6 W) => SM.out W (kb.then kk) b a hlb hla q hq2)
              have RQ := Lib.hid (fun W (kk : Kp no w6 W) => some_same (ra.keepN kk) (rb.keepN kk) q hq)
              have HS := Lib.hid (fun W (kk : Kp no w6 W) => show Kp no w6 W ∧ W.cell? ⟨gb, 0, none⟩ = some (.slice (some ⟨g, o, none⟩) N cv) ∧ W.cell? ⟨g, o + a, none⟩ = some (.slice Aa (L.getD a []).length ca) ∧ W.cell? ⟨g, o + b, none⟩ = some (.slice Ab (L.getD b []).length cb) from ⟨kk, HBX.out W (kb.then kk), kk.cellN ea, kk.cellN eb'⟩)
              have xb := HBX.out w6 kb
              have kd : Kp no w6 w6.drew := (Kp.refl _ _).drew
              clear hq hq2 hc ra rb ea eb'
              generalize (L.getD a []).length = na at *
              generalize (L.getD b []).length = nb at *
              go_upto_region 21 with (fail)
              go_cut [102] from 78 to 101 (fun v wy => v = .bool false ∧ Kp no w6 wy)
              case first =>
                clear xb
                cases q
                all_goals
                  go_region_held3 (fun W => Kp no w6 W ∧ W.cell? ⟨gb, 0, none⟩ = some (.slice (some ⟨g, o, none⟩) N cv) ∧ W.cell? ⟨g, o + a, none⟩ = some (.slice Aa na ca) ∧ W.cell? ⟨g, o + b, none⟩ = some (.slice Ab nb cb))
                    ((exact HS.out _ (by first | with_reducible exact kd | with_reducible exact k1 | with_reducible exact k2 | with_reducible exact k3 | with_reducible exact k4)))
                    (first
                    | (go_at_call 12; refine (RQ.out u3 k3).mono ?_; rintro e u4 ⟨rfl, k34⟩; have k4 := k3.then k34)
                    | (go_at_call 9; refine (S1.out u2 k2).mono ?_; rintro e u3 ⟨rfl, k23⟩; have k3 := k2.then k23)
                    | (go_at_call 9; refine (S2.out u1 k1).mono ?_; rintro e u2 ⟨rfl, k12⟩; have k2 := k1.then k12)
                    | (go_at_call 9; refine (S1.out w6.drew kd).mono ?_; rintro e u1 ⟨rfl, k01⟩; have k1 := kd.then k01))
                  all_goals
                    go_wp2_with (fail)
                    go_meet
                    case rel => exact ⟨rfl, k4⟩
              case rest =>
                obtain ⟨rfl, kc⟩ := hcut
                obtain ⟨w7, rfl⟩ : ∃ x : World, x = wc := ⟨_, rfl⟩
                clear xb S1 S2 RQ HS
                have k7 := kb.then kc
                have xb := HBX.out w7 k7
                go_wp2
                clear xb
                go_loopw [105] (fun iv wx => ∃ d : Nat, iv = .int .i64 d ∧ d ≤ N ∧ Kp no w4 wx) (fun iv _ => N - (intOf iv).toNat)
                case atStart => exact ⟨0, rfl, Nat.zero_le _, k7⟩
                case round =>
                  obtain ⟨d, rfl, hd, kd8⟩ := hrel
                  obtain ⟨w8, rfl⟩ : ∃ x : World, x = wr := ⟨_, rfl⟩
                  by_cases hld : d < N
                  · obtain ⟨q2, hq2⟩ : ∃ q, decide (L.getD b [] = L.getD d []) = q := ⟨_, rfl⟩
                    obtain ⟨q3, hq3⟩ : ∃ q, decide (L.getD a [] = L.getD d []) = q := ⟨_, rfl⟩
                    have HT3 := Lib.hid (show q = true → q2 = true → q3 = true from fun h1 h2 => by
                      rw [← hq3]
                      have e1 := of_decide_eq_true (HQ.out.trans h1)
                      have e2 := of_decide_eq_true (hq2.trans h2)
                      exact decide_eq_true (e1.trans e2))
                    have S1 := Lib.hid (fun W (kk : Kp no w8 W) => SM.out W (kd8.then kk) a b hla hlb q HQ.out)
                    have S2 := Lib.hid (fun W (kk : Kp no w8 W) => SM.out W (kd8.then kk) b d hlb hld q2 hq2)
                    have S3 := Lib.hid (fun W (kk : Kp no w8 W) => SM.out W (kd8.then kk) a d hla hld q3 hq3)
                    have kr8 := Kp.refl no w8
                    clear hq2 hq3
                    go_upto_region 26 with (fail)
                    go_cut [124] from 108 to 123 (fun v wy => v = .bool false ∧ Kp no w8 wy)
                    case first =>
                      have T1 := Lib.hid (S1.out w8 kr8)
                      go_wp2_with (fail)
                      refine T1.out.mono ?_
                      rintro e u1 ⟨rfl, k1⟩
                      cases q
                      · go_wp2
                        go_meet
                        case rel => exact ⟨rfl, k1⟩
                      · have T2 := Lib.hid (S2.out u1 k1)
                        go_wp2_with (fail)
                        refine T2.out.mono ?_
                        rintro e u2 ⟨rfl, k12⟩
                        have k2 := k1.then k12
                        cases q2
                        · go_wp2
                          go_meet
                          case rel => exact ⟨rfl, k2⟩
                        · obtain rfl : q3 = true := by have := HT3.out; simpa using this
                          have T3 := Lib.hid (S3.out u2 k2)
                          go_wp2_with (fail)
                          refine T3.out.mono ?_
                          rintro e u3 ⟨rfl, k23⟩
                          have k3 := k2.then k23
                          go_wp2
                          go_meet
                          case rel => exact ⟨rfl, k3⟩
                    case rest =>
                      obtain ⟨rfl, kc8⟩ := hcut
                      have k9 := kd8.then kc8
                      clear S1 S2 S3 HT3
                      go_wp2
                      go_roundw
                      case rel => exact ⟨d + 1, by go_num, hld, k9⟩
                      case measure => simp [intOf]; omega
                  · obtain rfl : d = N := by omega
                    go_wp2
                    go_roundw
                    case rel => exact ⟨b + 1, by go_num, hlb, kd8⟩
                    case measure => simp [intOf]; omega
            · obtain rfl : b = N := by omega
              go_wp2
              go_roundw
              case rel => exact ⟨a + 1, by go_num, hla, kb⟩
              case measure => simp [intOf]; omega
        · obtain rfl : a = N := by omega
          have EA := Lib.hid (AE.out w5 ka)
          go_wp2_with (fail)
          refine EA.out.mono ?_
          rintro e wz ⟨rfl, kz⟩
          go_wp2
          go_ret
          exact ⟨rfl, (kw.then ka).then kz⟩
end Go.Proofs.YtddofkeajinjpaaGreatDoor
