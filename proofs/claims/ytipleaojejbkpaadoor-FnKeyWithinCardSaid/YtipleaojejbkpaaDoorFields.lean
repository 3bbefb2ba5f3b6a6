/- The reference's reader of messages: wireFields. -/
import Derived.Test.YtipleaojejbkpaaDoorNum
import Derived.Test.YtipleaojejbkpaaDoorBytes
import Derived.Test.YtipleaojejbkpaaDoorMsg
namespace Go.Proofs.YtipleaojejbkpaaDoor
open Go Go.RowKit
set_option linter.unusedVariables false
set_option linter.unusedSimpArgs false
set_option maxRecDepth 100000

/-- A field as it lies in memory. -/
structure FM where
  f : Fld
  A : Option Addr
  c : Nat
def FM.cells (x : FM) : List Value := [.int .u64 x.f.num, .int .u64 x.f.kind, .int .u64 x.f.val, .slice x.A x.f.data.length x.c]
def fcells (xs : List FM) : List Value := (xs.map FM.cells).flatten
theorem fcells_len (xs : List FM) : (fcells xs).length = xs.length * 4 := by
  induction xs with
  | nil => rfl
  | cons x xs ih =>
    have : fcells (x :: xs) = x.cells ++ fcells xs := by simp [fcells]
    rw [this, List.length_append, ih]; simp [FM.cells]; omega
theorem fcells_snoc (xs : List FM) (x : FM) : fcells (xs ++ [x]) = fcells xs ++ x.cells := by simp [fcells]
theorem fcells_at : ∀ (xs : List FM) (i j : Nat), j < 4 → (h : i < xs.length) → (fcells xs)[i * 4 + j]? = (xs[i].cells)[j]?
  | x :: xs, 0, j, hj, h => by
    have : fcells (x :: xs) = x.cells ++ fcells xs := by simp [fcells]
    rw [this, Nat.zero_mul, Nat.zero_add, List.getElem?_append_left (by simpa [FM.cells] using hj)]; rfl
  | x :: xs, i + 1, j, hj, h => by
    have : fcells (x :: xs) = x.cells ++ fcells xs := by simp [fcells]
    have hl : x.cells.length = 4 := rfl
    rw [this, List.getElem?_append_right (by rw [hl]; omega), hl, show (i + 1) * 4 + j - 4 = i * 4 + j from by omega, fcells_at xs i j hj (by simpa using h)]; rfl

/-- The fields that are gathered: their row is the call's own, from block B on; what they lead to lies below. -/
structure FOwn (w : World) (B : Nat) (v : Value) (xs : List FM) : Prop where
  row : w.ownsRow B 109 4 v xs.length (fcells xs)
  rd : ∀ x ∈ xs, Rd w x.A x.f.data.length x.c x.f.data ∧ Lo B x.A
theorem FOwn.nil (w : World) (B : Nat) : FOwn w B (.slice none 0 0) [] := ⟨⟨rfl, .inl ⟨rfl, rfl⟩⟩, fun _ h => by cases h⟩
theorem FOwn.base {w : World} {B : Nat} {v : Value} {xs : List FM} (h : FOwn w B v xs) (k : Nat) (hk : v.ownBlock = some k) : B ≤ k ∧ k < w.heap.size := h.row.lt k hk
theorem FOwn.keepN {w w' : World} {B : Nat} {v : Value} {xs : List FM} (h : FOwn w B v xs) (k : Kp no w w') : FOwn w' B v xs := by
  refine ⟨⟨h.row.1, ?_⟩, fun x hx => ⟨(h.rd x hx).1.keepN k, (h.rd x hx).2⟩⟩
  rcases h.row.2 with h2 | ⟨g, cap, cur, hv, hg, hh, r⟩
  · exact .inl h2
  · exact .inr ⟨g, cap, cur, hv, hg, (k.block g (Array.getElem?_eq_some_iff.1 hh).1 (fun h => h)).trans hh, r⟩

theorem Tryd.und_flds : Tryd.prog.underlying 105 = some (.slice 109) := by kernel_rfl
theorem Tryd.info_fld : (Tryd.prog.info? 109).map (fun i => (i.zero, i.size, i.bytes)) = some (some (.agg #[(.int .u64 0), (.int .u64 0), (.int .u64 0), (.slice none 0 0)]), 4, 48) := by kernel_rfl

section
variable {ops : Array Oper} {rest : List Oper} {o : Oper} {a : Act} {Q : Exit → Act → World → Prop}
/-- 'append(out, f)', behind 'at_builtin'. -/
theorem fld_append {W : World} (B : Nat) (hgd : o.guard = none) (s x : Operand)
    (ho : o.op = .call { callee := .builtin .append, args := #[s, x], argTypes := #[105, 105] })
    (v : Value) (xs : List FM) (y : FM) (b0 : Nat) (hs : a.eval s = v) (hx : a.eval x = .slice (some ⟨b0, 0, none⟩) 1 1) (hb0 : b0 = W.heap.size)
    (HO : FOwn W B v xs) (HR : Rd W y.A y.f.data.length y.c y.f.data) (HL : Lo B y.A) (hB : B ≤ W.heap.size) (hl : xs.length ≤ 1099511627776)
    (h : ∀ A1 c1 w1, FOwn w1 B (.slice A1 (xs.length + 1) c1) (xs ++ [y]) → Kp (Of v) W w1 → wpList Tryd.prog ops Q rest (a.put o.dst (.slice A1 (xs.length + 1) c1)) w1) :
    wpList Tryd.prog ops Q (o :: rest) a (W.alloc (.cells y.cells.toArray 109)) := by
  subst hb0
  have hk : Kp no W (W.alloc (.cells y.cells.toArray 109)) := (Kp.refl _ _).alloc _
  have HO' := HO.keepN hk
  have hbk := Blk.new W y.cells.toArray 109
  obtain ⟨i0, hi, hzz⟩ := Option.map_eq_some_iff.1 Tryd.info_fld
  simp only [Prod.mk.injEq] at hzz
  obtain ⟨hz0, hz1, hz2⟩ := hzz
  have hcells : ∀ j u, (y.cells)[j]? = some u → (W.alloc (.cells y.cells.toArray 109)).cell? ((⟨W.heap.size, 0, none⟩ : Addr).add j) = some u := by
    intro j u hu
    have ha : (⟨W.heap.size, 0, none⟩ : Addr).add j = ⟨W.heap.size, j, none⟩ := by unfold Addr.add; split <;> simp_all
    rw [ha, hbk.cell j]
    simpa using hu
  obtain ⟨v1, w1, hr, h2, h3, h4, h5⟩ := run_append_own_at (P := Tryd.prog) (W.alloc (.cells y.cells.toArray 109)) B 105 o.type 109 i0 _ 4 48 Tryd.und_flds hi hz0 hz1 hz2 rfl (by omega) v xs.length (fcells xs) HO'.row ⟨W.heap.size, 0, none⟩ 1 1 y.cells rfl hcells
    (by intro u hu; simp only [FM.cells, List.mem_cons, List.not_mem_nil, or_false] at hu; rcases hu with rfl | rfl | rfl | rfl <;> rfl) (by simp only [maxLen]; omega) (by omega) (by simp; omega)
  refine wpList_plain hgd fun K hK => ?_
  unfold Oper.wp execOp
  simp only [ho, resolve, invoke, builtin, Sem.run_bind, Sem.run_pure, Result.andThen_ok, List.map_toArray, List.map_cons, List.map_nil, hs, hx, hr]
  have k1 : Kp (Of v) (W.alloc (.cells y.cells.toArray 109)) w1 := (Kp.refl _ _).grown h3 (fun k hk _ => hk)
  have k2 : Kp (Of v) W w1 := (hk.mono (fun i _ h => h.elim)).trans k1 (fun i _ h => h)
  have ho : ∀ A, Lo B A → Out (Of v) A := fun A hA a ha hv => by have := hA a ha; have := (HO.base _ hv).1; omega
  obtain ⟨A1, c1, rfl⟩ : ∃ A1 c1, v1 = .slice A1 (xs.length + 1) c1 := by
    rcases h2.2 with ⟨rfl, h0⟩ | ⟨g, cap, cur, rfl, _⟩
    · omega
    · exact ⟨_, _, rfl⟩
  refine hK _ _ (h A1 c1 w1 ⟨by rw [fcells_snoc, List.length_append]; exact h2, fun z hz => ?_⟩ k2)
  rcases List.mem_append.1 hz with hz | hz
  · exact ⟨(HO.rd z hz).1.keep k2 (ho _ (HO.rd z hz).2), (HO.rd z hz).2⟩
  · obtain rfl : z = y := by simpa using hz
    exact ⟨HR.keep k2 (ho _ HL), HL⟩
end

/-- A row of fields that is read. -/
structure FRd (w : World) (A : Option Addr) (n c : Nat) (xs : List FM) : Prop where
  len : xs.length = n
  cap : n ≤ c
  max : n ≤ 9223372036854775807
  at_ : 0 < n → ∃ g, A = some ⟨g, 0, none⟩ ∧ ∀ i j, j < 4 → (h : i < xs.length) → w.cell? ⟨g, i * 4 + j, none⟩ = (xs[i].cells)[j]?
  rd : ∀ x ∈ xs, Rd w x.A x.f.data.length x.c x.f.data
theorem FOwn.frd {w : World} {B : Nat} {A : Option Addr} {n c : Nat} {xs : List FM} (h : FOwn w B (.slice A n c) xs) (hn : xs.length = n) : FRd w A n c xs := by
  rcases h.row.2 with ⟨hv, h0⟩ | ⟨g, cap, cur, hv, hb, hh, hnc, hcm, hsz, ht⟩
  · injection hv with h1 h2 h3
    exact ⟨hn, by omega, by omega, fun hp => absurd hp (by omega), fun x hx => (h.rd x hx).1⟩
  · injection hv with h1 h2 h3
    subst h1 h2 h3
    simp only [maxLen] at hcm
    refine ⟨hn, hnc, by omega, fun hp => ⟨g, rfl, fun i j hj hi => ?_⟩, fun x hx => (h.rd x hx).1⟩
    rw [cell_of_row w g _ cur 109 (0, 0) hh, ← fcells_at xs i j hj hi, ← ht, List.getElem?_take, if_pos (by omega)]
    simp
theorem FRd.keepN {w w' : World} {A : Option Addr} {n c : Nat} {xs : List FM} (h : FRd w A n c xs) (k : Kp no w w') : FRd w' A n c xs :=
  ⟨h.len, h.cap, h.max, fun hp => by
    obtain ⟨g, rfl, hc⟩ := h.at_ hp
    refine ⟨g, rfl, fun i j hj hi => ?_⟩
    have := hc i j hj hi
    have hs : ∃ u, (xs[i].cells)[j]? = some u := by
      have : j < (xs[i].cells).length := hj
      exact ⟨_, List.getElem?_eq_getElem this⟩
    obtain ⟨u, hu⟩ := hs
    rw [hu] at this ⊢
    exact k.cellN this, fun x hx => (h.rd x hx).keepN k⟩

/-- How the reading of fields ends. -/
def FsO (w : World) (A0 : Option Addr) (l : List Int) (e : Ending) (w' : World) : Prop := Kp no w w' ∧ match wf l with
  | .ok fs => ∃ A c xs, e = .returned (.tuple #[.slice A xs.length c, .bool true, .bool false]) ∧ FRd w' A xs.length c xs ∧ xs.map (·.f) = fs ∧ (∀ x ∈ xs, ∀ S, Out S A0 → Out S x.A) ∧ ∀ a, A = some a → w.heap.size ≤ a.block
  | .bad => e = .returned (.tuple #[.slice none 0 0, .bool false, .bool false])
  | .opn => e = .returned (.tuple #[.slice none 0 0, .bool false, .bool true])
theorem FsO.bad {w w' : World} {A0 : Option Addr} {l : List Int} {e : Ending} (hk : Kp no w w') (h : wf l = .bad) (he : e = .returned (.tuple #[.slice none 0 0, .bool false, .bool false])) : FsO w A0 l e w' := by unfold FsO; rw [h]; exact ⟨hk, he⟩
theorem FsO.opn {w w' : World} {A0 : Option Addr} {l : List Int} {e : Ending} (hk : Kp no w w') (h : wf l = .opn) (he : e = .returned (.tuple #[.slice none 0 0, .bool false, .bool true])) : FsO w A0 l e w' := by unfold FsO; rw [h]; exact ⟨hk, he⟩
theorem FsO.ok {w w' : World} {A0 : Option Addr} {l : List Int} {e : Ending} {A : Option Addr} {c : Nat} {xs : List FM} (hk : Kp no w w') (h : wf l = .ok (xs.map (·.f))) (he : e = .returned (.tuple #[.slice A xs.length c, .bool true, .bool false])) (hr : FRd w' A xs.length c xs) (ho : ∀ x ∈ xs, ∀ S, Out S A0 → Out S x.A) (hn : ∀ a, A = some a → w.heap.size ≤ a.block) : FsO w A0 l e w' := by
  unfold FsO; rw [h]; exact ⟨hk, A, c, xs, he, hr, rfl, ho, hn⟩

structure FRel (w : World) (A : Option Addr) (l : List Int) (n : Nat) (A' : Option Addr) (n' c' : Nat) (l' : List Int) (Au : Option Addr) (cu : Nat) (xs : List FM) (wr : World) : Prop where
  rd : Rd wr A' n' c' l'
  le : xs.length + n' ≤ n
  lo : Lo w.heap.size A'
  kp : Kp no w wr
  own : FOwn wr w.heap.size (.slice Au xs.length cu) xs
  from_ : From l (xs.map (·.f)) l'
  outA : ∀ S, Out S A → Out S A'
  outX : ∀ x ∈ xs, ∀ S, Out S A → Out S x.A
theorem outX_snoc {A : Option Addr} {xs : List FM} {y : FM} (h : ∀ x ∈ xs, ∀ S, Out S A → Out S x.A) (k : ∀ S, Out S A → Out S y.A) : ∀ x ∈ xs ++ [y], ∀ S, Out S A → Out S x.A := by
  intro x hx
  rcases List.mem_append.1 hx with hx | hx
  · exact h x hx
  · obtain rfl : x = y := by simpa using hx
    exact k
theorem From.next {l l' r : List Int} {xs : List FM} {y : FM} (h : From l (xs.map (·.f)) l') (hb : Byt l') (h0 : 0 < l'.length) (hh : hd l' = .fld y.f r) : From l ((xs ++ [y]).map (·.f)) r := by
  have := h.step hb h0 hh
  simpa using this

set_option maxHeartbeats 8000000 in
theorem sFields_calls {w : World} {A : Option Addr} {n c : Nat} {l : List Int} (h : Rd w A n c l) (hn : n ≤ 1099511627776) (hlo : Lo w.heap.size A) :
    Calls Tryd.prog 63 #[.slice A n c] w (FsO w A l) := by
  have HI : FRel w A l n A n c l none 0 [] w := ⟨h, by simp, hlo, Kp.refl _ _, FOwn.nil _ _, From.start l, fun S h => h, fun _ h => by cases h⟩
  clear h hlo
  go_enter Tryd.func63, Tryd.ntmps63
  go_wp2
  go_loopw [0, 2] (fun b u wr => ∃ A' n' c' l' Au cu xs, b = .slice A' n' c' ∧ u = .slice Au xs.length cu ∧ FRel w A l n A' n' c' l' Au cu xs wr) (fun b _ _ => lenOf b)
  case atStart => exact ⟨A, n, c, l, none, 0, [], rfl, rfl, HI⟩
  case round =>
    obtain ⟨A', n', c', l', Au, cu, xs, rfl, rfl, hr, hn', hlo, hk, hO, hF, hoA, hoX⟩ := hrel
    have HoA := Lib.hid hoA
    have HoX := Lib.hid hoX
    clear hoA hoX
    have hl' := hr.len
    have hcap' := hr.cap
    have hmax' := hr.max
    by_cases h0 : n' = 0
    · subst h0
      have : l' = [] := List.eq_nil_of_length_eq_zero hl'
      subst this
      have R := Lib.hid hF.done
      have hfr := hO.frd rfl
      clear hl'
      go_wp2
      go_ret3
      exact FsO.ok hk R.out rfl hfr HoX.out (fun a ha => (hO.base a.block (by rw [ha]; rfl)).1)
    · have hpos : (0 : Int) < (n' : Int) := by omega
      have hp0 : 0 < l'.length := by omega
      cases hv : rv 10 l' with
      | none =>
        have R := Lib.hid (hF.bad hr.byt hp0 (hd_none (by unfold tag; rw [hv])))
        have D1 := Lib.hid (sNumber_bad hr hv)
        clear hv hl'
        go_wp2_with (first | (go_at_call 79; refine D1.out.mono ?_; rintro e w' ⟨rfl, rfl⟩))
        go_ret3
        exact FsO.bad (hk.alloc _) R.out rfl
      | some q =>
        obtain ⟨v, k⟩ := q
        have hu := rv_u64 hr.byt hv
        have hvl := rv_len 10 l' v k hv
        rw [hl'] at hvl
        have em := u64_and7 v hu.1 hu.2
        have D1 := Lib.hid (sNumber_ok hr hv)
        by_cases hz : v / 8 = 0
        · have R := Lib.hid (hF.bad hr.byt hp0 (hd_none (by unfold tag; rw [hv]; simp only; rw [if_pos (by omega)])))
          clear hv hl'
          go_wp2_with (first | (go_at_call 79; refine D1.out.mono ?_; rintro e w' ⟨rfl, rfl⟩))
          go_ret3
          exact FsO.bad (hk.alloc _) R.out rfl
        · by_cases hbig : 536870911 < v / 8
          · have R := Lib.hid (hF.bad hr.byt hp0 (by
              unfold hd tag; rw [hv]; simp only
              by_cases hb : v / 8 < 1 ∨ 2147483647 < v / 8
              · rw [if_pos hb]
              · rw [if_neg hb]; simp only; rw [if_pos hbig]))
            clear hv hl'
            go_wp2_with (first | (go_at_call 79; refine D1.out.mono ?_; rintro e w' ⟨rfl, rfl⟩))
            go_ret3
            exact FsO.bad (hk.alloc _) R.out rfl
          · have htag : tag l' = some (v / 8, v % 8, k) := by unfold tag; rw [hv]; simp only; rw [if_neg (by omega)]
            have hh := hd_of htag hbig
            obtain ⟨A2, hR2, hou2, hlo2, hcut⟩ := hr.cutFrom Tryd.und_bytes Tryd.size_byte .i64 k (by omega) (by omega)
            have hlo2 := hlo2 _ hlo
            have HO2 := Lib.hid hou2
            clear hou2
            have hl2 := hR2.len
            have hcap2 := hR2.cap
            have HL2 := Lib.hid hl2
            obtain ⟨F, hFd⟩ : ∃ F, v / 8 = F := ⟨_, rfl⟩
            obtain ⟨T, hTd⟩ : ∃ T, v % 8 = T := ⟨_, rfl⟩
            have hT0 : 0 ≤ T := by omega
            have hT1 : T < 8 := by omega
            have hF1 : 1 ≤ F := by omega
            have hF2 : F ≤ 536870911 := by omega
            have hFz : (F == 0) = false := by simp; omega
            have hkz : (k == 0) = false := by simp; omega
            have hFb : decide (536870911 < F) = false := by simp; omega
            rw [hFd, hTd] at hh
            rw [hTd] at em
            have HH := Lib.hid hh
            clear hh htag hv hl' hl2 hz hbig hTd
            have hTs : T = 0 ∨ T = 1 ∨ T = 2 ∨ T = 3 ∨ T = 4 ∨ T = 5 ∨ T = 6 ∨ T = 7 := by omega
            rcases hTs with rfl | rfl | rfl | rfl | rfl | rfl | rfl | rfl
            · cases hv2 : rv 10 (l'.drop k.toNat) with
              | none =>
                have R := Lib.hid (hF.bad hr.byt hp0 (HH.out.trans (hdv_num_none hv2)))
                have D2 := Lib.hid (sNumber_bad (hR2.keepN ((Kp.refl no wr).alloc (.cells #[.int .u64 F, .int .u64 0, .int .u64 0, .slice none 0 0] 109))) hv2)
                clear hv2
                go_wp2_with (fail)
                refine D1.out.mono ?_
                rintro e w' ⟨rfl, rfl⟩
                go_wp2_with (fail)
                refine D2.out.mono ?_
                rintro e w' ⟨rfl, rfl⟩
                go_wp2_with (fail)
                go_ret3
                exact FsO.bad (hk.alloc _) R.out rfl
              | some q2 =>
                obtain ⟨v2, k2⟩ := q2
                have hvl2 := rv_len 10 _ v2 k2 hv2
                rw [HL2.out] at hvl2
                have hu2 := rv_u64 hR2.byt hv2
                have D2 := Lib.hid (sNumber_ok (hR2.keepN ((Kp.refl no wr).alloc (.cells #[.int .u64 F, .int .u64 0, .int .u64 0, .slice none 0 0] 109))) hv2)
                have hp3 := hF.next (y := ⟨⟨F, 0, v2, []⟩, none, 0⟩) hr.byt hp0 (HH.out.trans (hdv_num hv2))
                obtain ⟨A3, hR3, hou3, hlo3, hcut3⟩ := hR2.cutFrom Tryd.und_bytes Tryd.size_byte .i64 k2 (by omega) (by omega)
                have hlo3 := hlo3 _ hlo2; have HO3 := Lib.hid hou3; clear hou3
                have hkz2 : (k2 == 0) = false := by simp; omega
                have kA : Kp no wr (wr.alloc (.cells (FM.mk ⟨F, 0, v2, []⟩ none 0).cells.toArray 109)) := (Kp.refl _ _).alloc _
                clear hv2 hu2
                go_wp2_with (fail)
                refine D1.out.mono ?_
                rintro e w' ⟨rfl, rfl⟩
                go_wp2_with (fail)
                refine D2.out.mono ?_
                rintro e w' ⟨rfl, rfl⟩
                go_wp2_with ((at_builtin; refine fld_append w.heap.size rfl (.tmp 95) (.tmp 97) rfl (.slice Au xs.length cu) xs ⟨⟨F, 0, v2, []⟩, none, 0⟩ (wr.heap.size + 1) rfl rfl (by simp) (hO.keepN kA) (Rd.nil _) (Lo.none _) (by have := hk.size; simp; omega) (by omega) ?_; intro A1 c1 w1 hO1 hk1))
                have hk3 := hk.then kA
                have hk4 : Kp no w w1 := hk3.trans hk1 (fun i hi hv => by have := ((hO.keepN kA).base i hv).1; omega)
                have hR4 := (hR3.keepN kA).keep hk1 (fun a ha hv => by have := hlo3 a ha; have := ((hO.keepN kA).base _ hv).1; omega)
                go_roundw
                case rel => exact ⟨A3, _, _, _, A1, c1, _, rfl, by simp, hR4, by simp; omega, hlo3, hk4, by simpa using hO1, hp3, fun S h => HO3.out S (HO2.out S (HoA.out S h)), outX_snoc HoX.out (fun S _ => Out.none S)⟩
                case measure => simp [lenOf]; omega
            · by_cases hlen : 8 ≤ n' - k.toNat
              · have hp3 := hF.next (y := ⟨⟨F, 1, 0, []⟩, none, 0⟩) hr.byt hp0 (HH.out.trans (hdv_8 (by rw [HL2.out]; exact hlen)))
                obtain ⟨A3, hR3, hou3, hlo3, hcut3⟩ := hR2.cutFrom Tryd.und_bytes Tryd.size_byte .i64 8 (by omega) (by omega)
                rw [show (8 : Int).toNat = 8 from rfl] at hR3 hcut3
                have hlo3 := hlo3 _ hlo2; have HO3 := Lib.hid hou3; clear hou3
                have hq : ¬ ((n' - k.toNat : Nat) : Int) < 8 := by omega
                have kA : Kp no wr (wr.alloc (.cells (FM.mk ⟨F, 1, 0, []⟩ none 0).cells.toArray 109)) := (Kp.refl _ _).alloc _
                go_wp2_with (fail)
                refine D1.out.mono ?_
                rintro e w' ⟨rfl, rfl⟩
                go_wp2_with ((at_builtin; refine fld_append w.heap.size rfl (.tmp 95) (.tmp 97) rfl (.slice Au xs.length cu) xs ⟨⟨F, 1, 0, []⟩, none, 0⟩ (wr.heap.size + 1) rfl rfl (by simp) (hO.keepN kA) (Rd.nil _) (Lo.none _) (by have := hk.size; simp; omega) (by omega) ?_; intro A1 c1 w1 hO1 hk1))
                have hk3 := hk.then kA
                have hk4 : Kp no w w1 := hk3.trans hk1 (fun i hi hv => by have := ((hO.keepN kA).base i hv).1; omega)
                have hR4 := (hR3.keepN kA).keep hk1 (fun a ha hv => by have := hlo3 a ha; have := ((hO.keepN kA).base _ hv).1; omega)
                go_roundw
                case rel => exact ⟨A3, _, _, _, A1, c1, _, rfl, by simp, hR4, by simp; omega, hlo3, hk4, by simpa using hO1, hp3, fun S h => HO3.out S (HO2.out S (HoA.out S h)), outX_snoc HoX.out (fun S _ => Out.none S)⟩
                case measure => simp [lenOf]; omega
              · have R := Lib.hid (hF.bad hr.byt hp0 (HH.out.trans (hdv_8_none (by rw [HL2.out]; omega))))
                have hq : ((n' - k.toNat : Nat) : Int) < 8 := by omega
                go_wp2_with (fail)
                refine D1.out.mono ?_
                rintro e w' ⟨rfl, rfl⟩
                go_wp2_with (fail)
                go_ret3
                exact FsO.bad (hk.alloc _) R.out rfl
            · cases hv2 : rv 10 (l'.drop k.toNat) with
              | none =>
                have R := Lib.hid (hF.bad hr.byt hp0 (HH.out.trans (hdv_bytes_none (by unfold bsz; rw [hv2]))))
                have D2 := Lib.hid (sNumber_bad (hR2.keepN ((Kp.refl no wr).alloc (.cells #[.int .u64 F, .int .u64 2, .int .u64 0, .slice none 0 0] 109))) hv2)
                clear hv2
                go_wp2_with (fail)
                refine D1.out.mono ?_
                rintro e w' ⟨rfl, rfl⟩
                go_wp2_with (fail)
                refine D2.out.mono ?_
                rintro e w' ⟨rfl, rfl⟩
                go_wp2_with (fail)
                go_ret3
                exact FsO.bad (hk.alloc _) R.out rfl
              | some q2 =>
                obtain ⟨v2, k2⟩ := q2
                have hvl2 := rv_len 10 _ v2 k2 hv2
                rw [HL2.out] at hvl2
                have hu2 := rv_u64 hR2.byt hv2
                have D2 := Lib.hid (sNumber_ok (hR2.keepN ((Kp.refl no wr).alloc (.cells #[.int .u64 F, .int .u64 2, .int .u64 0, .slice none 0 0] 109))) hv2)
                have hkz2 : (k2 == 0) = false := by simp; omega
                have qn : IntKind.u64.wrap (((n' - k.toNat : Nat) : Int) - k2) = ((n' - k.toNat : Nat) : Int) - k2 := IntWalk.u64_in _ (by omega)
                by_cases hfit : v2 ≤ ((n' - k.toNat : Nat) : Int) - k2
                · have hbz : bsz (l'.drop k.toNat) = some (v2, k2) := by unfold bsz; rw [hv2]; simp only; rw [if_pos (by rw [HL2.out]; exact hfit)]
                  have hbl := bsz_len hR2.byt hbz
                  have hp3f := hdv_bytes (f := F) hbz
                  obtain ⟨A4, hR4, hou4, hlo4, hcut4⟩ := hR2.cut Tryd.und_bytes Tryd.size_byte .i64 .i64 k2 (k2 + v2) (by omega) (by omega) (by omega)
                  have hlo4 := hlo4 _ hlo2; have HO4 := Lib.hid hou4; clear hou4
                  have hdat : ((l'.drop k.toNat).take (k2 + v2).toNat).drop k2.toNat = bval (l'.drop k.toNat) v2 k2 := by
                    unfold bval
                    rw [List.drop_take, show (k2 + v2).toNat - k2.toNat = v2.toNat from by omega]
                  rw [hdat, show (k2 + v2).toNat - k2.toNat = v2.toNat from by omega, ← hbl] at hR4
                  rw [show (k2 + v2).toNat - k2.toNat = v2.toNat from by omega, ← hbl] at hcut4
                  generalize bval (l'.drop k.toNat) v2 k2 = d at *
                  have hp3 := hF.next (y := ⟨⟨F, 2, 0, d⟩, A4, c' - k.toNat - k2.toNat⟩) hr.byt hp0 (HH.out.trans hp3f)
                  obtain ⟨A3, hR3, hou3, hlo3, hcut3⟩ := hR2.cutFrom Tryd.und_bytes Tryd.size_byte .i64 (k2 + v2) (by omega) (by omega)
                  have hlo3 := hlo3 _ hlo2; have HO3 := Lib.hid hou3; clear hou3
                  have hq : ¬ ((n' - k.toNat : Nat) : Int) - k2 < v2 := by omega
                  have hq2 : ¬ ((n' - k.toNat : Nat) : Int) < k2 + v2 := by omega
                  have kA : Kp no wr (wr.alloc (.cells (FM.mk ⟨F, 2, 0, d⟩ A4 (c' - k.toNat - k2.toNat)).cells.toArray 109)) := (Kp.refl _ _).alloc _
                  have hR5 := hR4.keepN kA
                  clear hv2 hbz hbl hdat hp3f
                  go_wp2_with (fail)
                  refine D1.out.mono ?_
                  rintro e w' ⟨rfl, rfl⟩
                  go_wp2_with (fail)
                  refine D2.out.mono ?_
                  rintro e w' ⟨rfl, rfl⟩
                  go_wp2_with ((at_builtin; refine fld_append w.heap.size rfl (.tmp 95) (.tmp 97) rfl (.slice Au xs.length cu) xs ⟨⟨F, 2, 0, d⟩, A4, c' - k.toNat - k2.toNat⟩ (wr.heap.size + 1) rfl rfl (by simp) (hO.keepN kA) hR5 hlo4 (by have := hk.size; simp; omega) (by omega) ?_; intro A1 c1 w1 hO1 hk1))
                  have hk3 := hk.then kA
                  have hk4 : Kp no w w1 := hk3.trans hk1 (fun i hi hv => by have := ((hO.keepN kA).base i hv).1; omega)
                  have hR6 := (hR3.keepN kA).keep hk1 (fun a ha hv => by have := hlo3 a ha; have := ((hO.keepN kA).base _ hv).1; omega)
                  go_roundw
                  case rel => exact ⟨A3, _, _, _, A1, c1, _, rfl, by simp, hR6, by simp; omega, hlo3, hk4, by simpa using hO1, hp3, fun S h => HO3.out S (HO2.out S (HoA.out S h)), outX_snoc HoX.out (fun S h => HO4.out S (HO2.out S (HoA.out S h)))⟩
                  case measure => simp [lenOf]; omega
                · have R := Lib.hid (hF.bad hr.byt hp0 (HH.out.trans (hdv_bytes_none (by unfold bsz; rw [hv2]; simp only; rw [if_neg (by rw [HL2.out]; exact hfit)]))))
                  have hq : ((n' - k.toNat : Nat) : Int) - k2 < v2 := by omega
                  clear hv2
                  go_wp2_with (fail)
                  refine D1.out.mono ?_
                  rintro e w' ⟨rfl, rfl⟩
                  go_wp2_with (fail)
                  refine D2.out.mono ?_
                  rintro e w' ⟨rfl, rfl⟩
                  go_wp2_with (fail)
                  go_ret3
                  exact FsO.bad (hk.alloc _) R.out rfl
            · have R := Lib.hid (hF.opn hr.byt hp0 (HH.out.trans (hdv_grp (.inl rfl))))
              go_wp2_with (first | (go_at_call 79; refine D1.out.mono ?_; rintro e w' ⟨rfl, rfl⟩))
              go_ret3
              exact FsO.opn (hk.alloc _) R.out rfl
            · have R := Lib.hid (hF.opn hr.byt hp0 (HH.out.trans (hdv_grp (.inr rfl))))
              go_wp2_with (first | (go_at_call 79; refine D1.out.mono ?_; rintro e w' ⟨rfl, rfl⟩))
              go_ret3
              exact FsO.opn (hk.alloc _) R.out rfl
            · by_cases hlen : 4 ≤ n' - k.toNat
              · have hp3 := hF.next (y := ⟨⟨F, 5, 0, []⟩, none, 0⟩) hr.byt hp0 (HH.out.trans (hdv_4 (by rw [HL2.out]; exact hlen)))
                obtain ⟨A3, hR3, hou3, hlo3, hcut3⟩ := hR2.cutFrom Tryd.und_bytes Tryd.size_byte .i64 4 (by omega) (by omega)
                rw [show (4 : Int).toNat = 4 from rfl] at hR3 hcut3
                have hlo3 := hlo3 _ hlo2; have HO3 := Lib.hid hou3; clear hou3
                have hq : ¬ ((n' - k.toNat : Nat) : Int) < 4 := by omega
                have kA : Kp no wr (wr.alloc (.cells (FM.mk ⟨F, 5, 0, []⟩ none 0).cells.toArray 109)) := (Kp.refl _ _).alloc _
                go_wp2_with (fail)
                refine D1.out.mono ?_
                rintro e w' ⟨rfl, rfl⟩
                go_wp2_with ((at_builtin; refine fld_append w.heap.size rfl (.tmp 95) (.tmp 97) rfl (.slice Au xs.length cu) xs ⟨⟨F, 5, 0, []⟩, none, 0⟩ (wr.heap.size + 1) rfl rfl (by simp) (hO.keepN kA) (Rd.nil _) (Lo.none _) (by have := hk.size; simp; omega) (by omega) ?_; intro A1 c1 w1 hO1 hk1))
                have hk3 := hk.then kA
                have hk4 : Kp no w w1 := hk3.trans hk1 (fun i hi hv => by have := ((hO.keepN kA).base i hv).1; omega)
                have hR4 := (hR3.keepN kA).keep hk1 (fun a ha hv => by have := hlo3 a ha; have := ((hO.keepN kA).base _ hv).1; omega)
                go_roundw
                case rel => exact ⟨A3, _, _, _, A1, c1, _, rfl, by simp, hR4, by simp; omega, hlo3, hk4, by simpa using hO1, hp3, fun S h => HO3.out S (HO2.out S (HoA.out S h)), outX_snoc HoX.out (fun S _ => Out.none S)⟩
                case measure => simp [lenOf]; omega
              · have R := Lib.hid (hF.bad hr.byt hp0 (HH.out.trans (hdv_4_none (by rw [HL2.out]; omega))))
                have hq : ((n' - k.toNat : Nat) : Int) < 4 := by omega
                go_wp2_with (fail)
                refine D1.out.mono ?_
                rintro e w' ⟨rfl, rfl⟩
                go_wp2_with (fail)
                go_ret3
                exact FsO.bad (hk.alloc _) R.out rfl
            · have R := Lib.hid (hF.bad hr.byt hp0 (HH.out.trans (hdv_none (by omega) (by simp [fval]))))
              go_wp2_with (first | (go_at_call 79; refine D1.out.mono ?_; rintro e w' ⟨rfl, rfl⟩))
              go_ret3
              exact FsO.bad (hk.alloc _) R.out rfl
            · have R := Lib.hid (hF.bad hr.byt hp0 (HH.out.trans (hdv_none (by omega) (by simp [fval]))))
              go_wp2_with (first | (go_at_call 79; refine D1.out.mono ?_; rintro e w' ⟨rfl, rfl⟩))
              go_ret3
              exact FsO.bad (hk.alloc _) R.out rfl
end Go.Proofs.YtipleaojejbkpaaDoor
