/- Lists of bytes: a copy, whether two are the same; bytes.Compare. -/
import Derived.Test.YtnbpliccenanpaaDoorSortP
import Derived.Test.YtnbpliccenanpaaDoorBytes
import Derived.Lib.BytesEntry
import Derived.Laws.Externs
namespace Go.Proofs.YtnbpliccenanpaaDoor
open Go Go.RowKit
set_option linter.unusedVariables false
set_option linter.unusedSimpArgs false
set_option maxRecDepth 100000

section
variable {P : Program} {ops : Array Oper} {rest : List Oper} {o : Oper} {a : Act} {Q : Exit → Act → World → Prop}
/-- 'append(v, us...)', behind 'at_builtin'. -/
theorem list_append {W : World} (B : Nat) (hgd : o.guard = none) (s x : Operand) (t e : TypeId)
    (ho : o.op = .call { callee := .builtin .append, args := #[s, x], argTypes := #[t, t] })
    (ht : P.underlying t = some (.slice e)) (z : Value) (by_ : Nat) (hinfo : (P.info? e).map (fun i => (i.zero, i.size, i.bytes)) = some (some z, 1, by_)) (hz : z.cells.size = 1) (hby : by_ ≤ 24)
    (v : Value) (us xs : List Value) (A : Addr) (m c : Nat) (hs : a.eval s = v) (hx : a.eval x = .slice (some A) m c) (hm : xs.length = m) (hcells : ∀ j u', xs[j]? = some u' → W.cell? (A.add j) = some u') (h1 : ∀ u ∈ xs, u.oneCell' = true)
    (HO : VOwn W e B v us) (hB : B ≤ W.heap.size) (hl : us.length + m ≤ 1099511627776)
    (h : ∀ v1 w1, VOwn w1 e B v1 (us ++ xs) → Kp (Of v) W w1 → Went W v v1 → wpList P ops Q rest (a.put o.dst v1) w1) :
    wpList P ops Q (o :: rest) a W := by
  obtain ⟨i0, hi, hzz⟩ := Option.map_eq_some_iff.1 hinfo
  simp only [Prod.mk.injEq] at hzz
  obtain ⟨hz0, hz1, hz2⟩ := hzz
  obtain ⟨v1, w1, hr, h2, h3, h4, h5⟩ := run_append_own_at (P := P) W B t o.type e i0 z 1 by_ ht hi hz0 hz1 hz2 hz (by omega) v us.length us HO.row A m c xs (by simpa using hm) hcells
    h1 (by simp only [maxLen]; omega)
    (Nat.le_trans (Nat.mul_le_mul_left _ hby) (by omega)) hB
  refine wpList_plain hgd fun K hK => ?_
  unfold Oper.wp execOp
  simp only [ho, resolve, invoke, builtin, Sem.run_bind, Sem.run_pure, Result.andThen_ok, List.map_toArray, List.map_cons, List.map_nil, hs, hx, hr]
  exact hK _ _ (h v1 w1 ⟨by simpa [hm] using h2⟩ ((Kp.refl _ _).grown h3 fun k hk _ => hk) (h5.imp_right fun h => ⟨_, h, Nat.le_refl _⟩))
end
theorem VOwn.lit0 (W : World) (e : TypeId) : VOwn (W.alloc (.cells #[] e)) e W.heap.size (.slice (some ⟨W.heap.size, 0, none⟩) 0 0) [] :=
  ⟨by
    have h := World.ownsRow_lit (base := W.heap.size) (e := e) (size := 1) W #[] 0 (Nat.le_refl _) (by simp [maxLen]) (by simp)
    simpa using h⟩
/-- The same elements in another row. -/
theorem VS.moved {w w' : World} {v v1 : Value} {us : List Value} {L : List (List Int)} (hl : us.length = L.length) (he : ∀ (j : Nat) (hj : j < us.length), ElAt w v us[j] (L.getD j []))
    (ho : VOwn w' 22 w.heap.size v1 us) (k : Kp no w w') : VS w' w.heap.size v1 L :=
  ⟨us, ho, hl, fun j hj => by
    obtain ⟨A, c, h1, h2, h3⟩ := he j hj
    exact ⟨A, c, h1, h2.keepN k, fun a ha => ⟨Nat.lt_of_lt_of_le (h3 a ha).1 k.size, fun hb => by
      have := (ho.base _ hb).1
      have := (h3 a ha).1
      omega⟩⟩⟩
def VMade (w : World) (L : List (List Int)) (e : Ending) (w' : World) : Prop := ∃ v, e = .returned v ∧ VS w' w.heap.size v L ∧ Kp no w w'
theorem CloneS_calls {w : World} {B : Nat} {v : Value} {L : List (List Int)} (h : VS w B v L) (hl : L.length ≤ 100000) :
    Calls Tryd.prog 29 #[v] w (VMade w L) := by
  obtain ⟨us, ho, hul, he⟩ := h.ex
  obtain ⟨A, c, rfl, h1, h2, h3⟩ := ho.form
  have HE := Lib.hid he
  have HU := Lib.hid hul
  have HL := Lib.hid hl
  by_cases hA : A = none
  · subst hA
    have h0 : us.length = 0 := by
      rcases Nat.eq_zero_or_pos us.length with h0 | h0
      · exact h0
      · obtain ⟨g, h, _⟩ := h3 h0; cases h
    obtain rfl : us = [] := List.eq_nil_of_length_eq_zero h0
    have hc0 : c = 0 := by
      rcases ho.row.2 with ⟨hv, _⟩ | ⟨g, cap, cur, hv, _⟩
      · injection hv
      · injection hv with hv; cases hv
    subst hc0
    have hn := VOwn.nil w 22 w.heap.size
    clear h3 he hul hl h ho h1 h2 h0
    have heq := fun W : World => Lib.run_eql_slice_nil (P := Tryd.prog) W 38 22 none 0 0 0 0 Tryd.und_bytess'
    go_enter Tryd.func29, Tryd.ntmps29
    go_wp2
    go_ret
    exact ⟨_, rfl, VS.moved HU.out HE.out hn (Kp.refl _ _), Kp.refl _ _⟩
  · obtain ⟨ad, rfl⟩ := Option.ne_none_iff_exists'.1 hA
    have had : ∃ g, ad = ⟨g, 0, none⟩ ∧ ∀ j (hj : j < us.length), w.cell? ⟨g, j, none⟩ = some us[j] := by
      rcases ho.row.2 with ⟨hv, _⟩ | ⟨g, cap, cur, hv, hb, hh, hnc, hcm, hsz, ht⟩
      · injection hv with hv; cases hv
      · injection hv with hv; injection hv with hv
        refine ⟨g, hv, fun j hj => ?_⟩
        obtain ⟨g', e1, e2⟩ := h3 (by omega)
        injection e1 with e1
        rw [hv] at e1; injection e1 with e1
        rw [e1]; exact e2 j hj
    obtain ⟨g, rfl, hc⟩ := had
    have hk : Kp no w (w.alloc (.cells #[] 22)) := (Kp.refl _ _).alloc _
    have HO := Lib.hid (VOwn.lit0 w 22)
    have HC := Lib.hid (show ∀ j u', us[j]? = some u' → (w.alloc (.cells #[] 22)).cell? ((⟨g, 0, none⟩ : Addr).add j) = some u' from fun j u' hu => by
      obtain ⟨hj, rfl⟩ := List.getElem?_eq_some_iff.1 hu
      have ha : (⟨g, 0, none⟩ : Addr).add j = ⟨g, j, none⟩ := by unfold Addr.add; split <;> simp_all
      rw [ha]
      exact hk.cellN (hc j hj))
    have H1 := Lib.hid (show ∀ u ∈ us, u.oneCell' = true from fun u hu => by
      obtain ⟨j, hj, rfl⟩ := List.getElem_of_mem hu
      obtain ⟨_, _, e1, _⟩ := HE.out j hj
      rw [e1]; rfl)
    have heq := fun W : World => Lib.run_eql_slice_nil (P := Tryd.prog) W 38 22 (some ⟨g, 0, none⟩) us.length c 0 0 Tryd.und_bytess'
    have hn : us.length ≤ 100000 := by omega
    clear h3 he hul hl h ho hA hc h2
    obtain ⟨m, hm⟩ : ∃ m, us.length = m := ⟨_, rfl⟩
    rw [hm] at heq hn h1
    rw [hm]
    have HM := Lib.hid hm
    clear hm
    go_enter Tryd.func29, Tryd.ntmps29
    go_wp2_with (first | (at_builtin; refine list_append w.heap.size rfl (.tmp 5) (.tmp 6) 38 22 rfl Tryd.und_bytess' (.slice none 0 0) 24 Tryd.info_bytes rfl (by omega) (.slice (some ⟨w.heap.size, 0, none⟩) 0 0) [] us ⟨g, 0, none⟩ m c rfl rfl HM.out HC.out H1.out HO.out (by simp) (by simp; omega) ?_; intro v1 w1 O1 k1 _))
    go_ret
    have K1 : Kp no w w1 := hk.vown HO.out (Nat.le_refl _) k1
    exact ⟨_, rfl, VS.moved HU.out HE.out O1 K1, K1⟩

theorem run_compare {P : Program} {w : World} {A A' : Option Addr} {n c n' c' : Nat} {l l' : List Int} (h : Rd w A n c l) (h' : Rd w A' n' c' l') :
    (Extern.BytealgCompare.compare #[.slice A n c, .slice A' n' c']).run P w = .ok (.int .i64 (Lib.compareBytes (by8 l) (by8 l'))) w := by
  have key : ∀ {A : Option Addr} {n c : Nat} {l : List Int}, Rd w A n c l → (Extern.Bytes.bytesOf (.slice A n c)).run P w = .ok ⟨(by8 l).toArray⟩ w := by
    intro A n c l h
    have hl := h.len
    rcases Nat.eq_zero_or_pos n with h0 | h0
    · obtain rfl : l = [] := List.eq_nil_of_length_eq_zero (by omega)
      subst h0
      cases A with
      | none => rfl
      | some a => simp only [Extern.Bytes.bytesOf, Extern.Bytes.loadBytes]; rfl
    · obtain ⟨g, o, rfl, hc⟩ := h.at_ h0
      have h1 := Lib.run_loadBytesX (P := P) w l ⟨g, o, none⟩ .empty (fun j x hj => by
        obtain ⟨hjl, rfl⟩ := List.getElem?_eq_some_iff.1 hj
        rw [h.plus j (by omega)]
        simp [List.getD_eq_getElem?_getD, List.getElem?_eq_getElem hjl])
      rw [hl] at h1
      simp only [Extern.Bytes.bytesOf, h1]
      congr 1
      apply ByteArray.ext
      show (#[] : Array UInt8) ++ (Lib.bytesOf l).toArray = (by8 l).toArray
      rw [show Lib.bytesOf l = by8 l from rfl]
      simp
  change Sem.run P (do pure (goInt (Extern.BytealgCompare.cmp (← Extern.Bytes.bytesOf (.slice A n c)) (← Extern.Bytes.bytesOf (.slice A' n' c'))))) w = _
  simp only [Sem.run_bind, Sem.run_pure, key h, key h', Result.andThen]
  rw [Lib.cmp_eq]
  rfl
theorem Compare_calls {w : World} {A A' : Option Addr} {n c n' c' : Nat} {l l' : List Int} (h : Rd w A n c l) (h' : Rd w A' n' c' l') :
    Calls Tryd.prog 24 #[.slice A n c, .slice A' n' c'] w fun e w' => e = .returned (.int .i64 (Lib.compareBytes (by8 l) (by8 l'))) ∧ w' = w := by
  have hr := run_compare (P := Tryd.prog) h h'
  have hn := h.cap
  have hx := h.max
  have hn' := h'.cap
  have hx' := h'.max
  clear h h'
  generalize Lib.compareBytes (by8 l) (by8 l') = z at *
  go_enter Tryd.func24, Tryd.ntmps24
  go_wp2
  rw [run_callFunc_extern Tryd.func42 (by kernel_rfl) (by kernel_rfl) (by kernel_rfl) (e := Extern.BytealgCompare.compare) (by kernel_rfl), hr]
  simp only [Result.andThen]
  rw [Oper.upon_value]
  go_wp2
  go_ret
  exact ⟨rfl, rfl⟩

set_option maxHeartbeats 2000000 in
theorem EqualFunc_same {w : World} {A A' : Option Addr} {n c c' : Nat} {L : List (List Int)} (h : RdS w A n c L) (h' : RdS w A' n c' L) (hn : n ≤ 100000) :
    Calls Tryd.prog 26 #[.slice A n c, .slice A' n c', .func (.func 15) #[] #[]] w fun e w' => e = .returned (.bool true) ∧ Kp no w w' := by
  obtain rfl := h.len
  have hcap := h.cap
  have hmax := h.max
  have hcap' := h'.cap
  have hmax' := h'.max
  have HA := Lib.hid h
  have HA' := Lib.hid h'
  clear h h'
  go_enter Tryd.func26, Tryd.ntmps26
  go_wp2
  go_loopw [17] (fun iv wr => ∃ i : Nat, iv = .int .i64 i ∧ i ≤ L.length ∧ Kp no w wr) (fun iv _ => L.length - (intOf iv).toNat)
  case atStart => exact ⟨0, rfl, by omega, Kp.refl _ _⟩
  case round =>
    obtain ⟨i, rfl, hi, k⟩ := hrel
    by_cases hlt : i < L.length
    · obtain ⟨g, o, rfl, hc⟩ := (HA.out.keepN k).at_ (by omega)
      obtain ⟨A1, c1, h1, h2⟩ := hc i hlt
      obtain ⟨g', o', rfl, hc'⟩ := (HA'.out.keepN k).at_ (by omega)
      obtain ⟨A2, c2, h3, h4⟩ := hc' i hlt
      have D := Lib.hid (Equal_same h2 h4)
      clear hc hc' h2 h4
      generalize (L.getD i []).length = m at *
      go_wp2_with (first | (go_at_call 15; refine D.out.mono ?_; rintro e w7 ⟨rfl, rfl⟩))
      go_roundw
      case rel => exact ⟨i + 1, by go_num, by omega, k⟩
      case measure => first | (simp [intOf]; done) | (simp [intOf]; omega)
    · obtain rfl : i = L.length := by omega
      go_wp2
      go_ret
      exact ⟨rfl, k⟩
end Go.Proofs.YtnbpliccenanpaaDoor
