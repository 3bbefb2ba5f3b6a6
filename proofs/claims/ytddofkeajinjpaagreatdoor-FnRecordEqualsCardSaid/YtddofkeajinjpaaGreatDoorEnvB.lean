/- (*Envelope).Unmarshal walked. -/
import Derived.Test.YtddofkeajinjpaaGreatDoorEnvA
namespace Go.Proofs.YtddofkeajinjpaaGreatDoor
open Go Go.RowKit
set_option linter.unusedVariables false
set_option linter.unusedSimpArgs false
set_option maxRecDepth 100000

theorem keyed_nil {s : ES} {y : List Int} {ks ks' : KS} (hk : s.key.getD (none, none) = ks) (h : Fin y ks ks' (.returned .nilIface)) : keyed s (wf y) = .ok { s with key := some ks' } ∨ keyed s (wf y) = .opn := by
  unfold Fin at h
  generalize wf y = r at h ⊢
  cases r with
  | ok fs => obtain ⟨_, rfl⟩ := h; subst hk; exact .inl rfl
  | bad => exact (bad_not_nil h rfl).elim
  | opn => exact .inr rfl
theorem keyed_bad {s : ES} {y : List Int} {ks ks' : KS} {e : Ending} (h : Fin y ks ks' e) (he : Bad e) : keyed s (wf y) = .bad ∨ keyed s (wf y) = .opn := by
  unfold Fin at h
  generalize wf y = r at h ⊢
  cases r with
  | ok fs => exact (bad_not_nil he h.1).elim
  | bad => exact .inl rfl
  | opn => exact .inr rfl
/-- How the reading of an envelope ends. -/
def EFin (l : List Int) (st : ES) (e : Ending) : Prop := (e = .returned .nilIface ∧ (∀ ks, st.key = some ks → okS ks = true) ∨ Bad e) ∧ FinG (efin (whole estep l ES.zero)) st e
theorem EFin.bad {l : List Int} {st st' : ES} {e : Ending} (h : FinG (whole estep l ES.zero) st e) (he : Bad e) : EFin l st' e := by
  refine ⟨.inr he, ?_⟩
  unfold FinG at h
  generalize whole estep l ES.zero = r at h ⊢
  cases r with
  | ok s => exact (bad_not_nil he h.1).elim
  | bad => exact he
  | opn => exact .inr he
theorem EFin.none {l : List Int} {st : ES} (h : FinG (whole estep l ES.zero) st (.returned .nilIface)) (hk : st.key = .none) : EFin l st (.returned .nilIface) := by
  refine ⟨.inl ⟨rfl, fun ks h => by rw [hk] at h; cases h⟩, ?_⟩
  unfold FinG at h
  generalize whole estep l ES.zero = r at h ⊢
  cases r with
  | ok s =>
    obtain ⟨_, rfl⟩ := h
    have : efin (.ok st) = .ok st := by simp only [efin, hk]
    rw [this]; exact ⟨rfl, rfl⟩
  | bad => exact h
  | opn => exact .inl rfl
theorem EFin.some {l : List Int} {st : ES} {ks : KS} {e : Ending} (h : FinG (whole estep l ES.zero) st (.returned .nilIface)) (hk : st.key = .some ks) (he : ReqO ks e) : EFin l st e := by
  unfold ReqO at he
  refine ⟨?_, ?_⟩
  · split at he
    · rename_i ho; exact .inl ⟨he, fun ks' h => by rw [hk] at h; cases h; exact ho⟩
    · exact .inr he
  · unfold FinG at h
    generalize whole estep l ES.zero = r at h ⊢
    cases r with
    | ok s =>
      obtain ⟨_, rfl⟩ := h
      split at he
      · rename_i ho
        have : efin (.ok st) = .ok st := by simp only [efin, hk, ho, if_true]
        rw [this]; exact ⟨he, rfl⟩
      · rename_i ho
        have : efin (.ok st) = .bad := by simp only [efin, hk]; rw [if_neg ho]
        rw [this]; exact he
    | bad => exact (bad_not_nil h rfl).elim
    | opn =>
      split at he
      · exact .inl he
      · exact .inr he
def EUO (w : World) (g : Nat) (T : TypeId) (l : List Int) (e : Ending) (w' : World) : Prop :=
  Kp (· = g) w w' ∧ ∃ pk ty pl sg st, Blk w' g #[pk, ty, pl, sg] T ∧ ESt w' g pk ty pl sg st ∧ EFin l st e
structure ERel (w : World) (g : Nat) (T : TypeId) (l : List Int) (n : Nat) (A' : Option Addr) (n' c' : Nat) (l' : List Int) (pk ty pl sg : Value) (st : ES) (wr : World) : Prop where
  rd : Rd wr A' n' c' l'
  le : n' ≤ n
  out : Out (· = g) A'
  lo : Lo w.heap.size A'
  kp : Kp (· = g) w wr
  blk : Blk wr g #[pk, ty, pl, sg] T
  est : ESt wr g pk ty pl sg st
  new : ∀ i, pk = .pointer (some ⟨i, 0, none⟩) → w.heap.size ≤ i
  at_ : AtG estep l l' ES.zero st

/-- What an envelope's reading names. -/
structure EErrs (w : World) : Prop where
  k : KErrs w
  n : IsErr w 0
theorem EErrs.keepN {w w' : World} (h : EErrs w) (k : Kp no w w') : EErrs w' := ⟨h.k.keepN k, h.n.keepN k⟩
theorem EErrs.keep {w w' : World} {g : Nat} (h : EErrs w) (k : Kp (· = g) w w') (hg : 13 ≤ g) : EErrs w' :=
  ⟨⟨h.k.p.keep k (fun i hi he => by omega), h.k.n.keep k (by show ¬ _ = g; omega), h.k.m.keep k (by show ¬ _ = g; omega), Nat.le_trans h.k.sz k.size⟩, h.n.keep k (by show ¬ _ = g; omega)⟩

set_option maxHeartbeats 8000000 in
theorem EUnmarshal_calls {w : World} {A : Option Addr} {n c : Nat} {l : List Int} (h : Rd w A n c l) (hn : n ≤ 1099511627776) (hE : EErrs w)
    (g : Nat) (T : TypeId) (hg : 13 ≤ g) (v0 v1 v2 v3 : Value) (hb : Blk w g #[v0, v1, v2, v3] T) (ho : Out (· = g) A) (hlo : Lo w.heap.size A) :
    Calls Tryz.prog 31 #[.pointer (some ⟨g, 0, none⟩), .slice A n c] w (EUO w g T l) := by
  have hglt := hb.lt
  have f0 := hb.free 0
  have f1 := hb.free 1
  have f2 := hb.free 2
  have f3 := hb.free 3
  have z0 := hb.cell 0
  have z1 := hb.cell 1
  have z2 := hb.cell 2
  have z3 := hb.cell 3
  have kz : Kp (· = g) w ((((w.setCell ⟨g, 0, none⟩ (.pointer none)).setCell ⟨g, 1, none⟩ (.slice none 0 0)).setCell ⟨g, 2, none⟩ (.slice none 0 0)).setCell ⟨g, 3, none⟩ (.slice none 0 0)) :=
    ((((Kp.refl (· = g) w).setCell (p := ⟨g, 0, none⟩) (fun _ => rfl) _).setCell (p := ⟨g, 1, none⟩) (fun _ => rfl) _).setCell (p := ⟨g, 2, none⟩) (fun _ => rfl) _).setCell (p := ⟨g, 3, none⟩) (fun _ => rfl) _
  have bz := (((hb.set 0 (.pointer none)).set 1 (.slice none 0 0)).set 2 (.slice none 0 0)).set 3 (.slice none 0 0)
  have HI : ERel w g T l n A n c l (.pointer none) (.slice none 0 0) (.slice none 0 0) (.slice none 0 0) ES.zero _ := ⟨h.keep kz ho, Nat.le_refl _, ho, hlo, kz, bz, ESt.zero _ g, (fun i h => by cases h), AtG.start l ES.zero⟩
  clear h ho hb bz
  go_enter Tryz.func31, Tryz.ntmps31
  go_wp2
  go_loopw [1] (fun b wr => ∃ A' n' c' l' pk ty pl sg st', b = .slice A' n' c' ∧ ERel w g T l n A' n' c' l' pk ty pl sg st' wr) (fun b _ => lenOf b)
  case atStart => exact ⟨A, n, c, l, _, _, _, _, _, rfl, HI⟩
  case round =>
    obtain ⟨A', n', c', l', pk, ty, pl, sg, st', rfl, hr, hn', hout, hloA, hk, hblk, hest, hnew, hat⟩ := hrel
    have hl' := hr.len
    have hcap' := hr.cap
    have hmax' := hr.max
    have hEr := hE.keep hk hg
    obtain ⟨et, ev, hNe⟩ := hEr.n
    have hE' := hEr.k.p
    have b0 := hblk.cell 0
    obtain ⟨ty0, ty1, ty2, ety⟩ := hest.ty.form
    obtain ⟨pl0, pl1, pl2, epl⟩ := hest.pl.form
    obtain ⟨sg0, sg1, sg2, esg⟩ := hest.sg.form
    by_cases h0 : n' = 0
    · subst h0
      have : l' = [] := List.eq_nil_of_length_eq_zero hl'
      subst this
      have F0 := hat.done
      clear hl'
      cases hkey : st'.key with
      | none =>
        have hp := hest.key
        rw [hkey] at hp
        have hp : pk = .pointer none := hp
        have F := EFin.none F0 hkey
        subst hp
        go_wp2
        go_ret
        exact ⟨hk, _, ty, pl, sg, st', hblk, hest, F⟩
      | some ks =>
        have hp := hest.key
        rw [hkey] at hp
        obtain ⟨gk, pt, sl, rfl, hgk, hgE, hbk, hks⟩ := hp
        have D := Lib.hid (PKRequired_calls hEr.k.m gk 103 pt sl ks hbk hks)
        go_wp2_with (fail)
        refine D.out.mono ?_
        rintro e w2 ⟨he, hk2⟩
        have F := EFin.some F0 hkey he
        have hfe : e = .returned .nilIface ∨ Bad e := by
          unfold ReqO at he
          split at he
          · exact .inl he
          · exact .inr he
        have hk3 := hk.then hk2
        have hblk3 := hblk.keepN hk2
        have hest3 := hest.keepN hk2
        rcases hfe with rfl | ⟨t, v, rfl⟩
        all_goals
          go_wp2
          go_ret
          exact ⟨hk3, _, ty, pl, sg, st', hblk3, hest3, F⟩
    · have hpos : (0 : Int) < (n' : Int) := by omega
      have hp0 : 0 < l'.length := by omega
      cases htag : tag l' with
      | none =>
        have F := fun e => hat.bad (s'' := st') (e := e) hr.byt hp0 (.inl (hd_none htag))
        have D1 := Lib.hid (CT_bad hr htag)
        clear hl' htag
        go_wp2_with (first | (go_at_call 41; refine D1.out.mono ?_; rintro e w' ⟨k, k0, k1, rfl, rfl⟩) | (go_at_call 42; refine (PE_bad hE' _ (by omega)).mono ?_; rintro e w' ⟨⟨t, v, rfl⟩, rfl⟩))
        go_ret
        exact ⟨hk, pk, ty, pl, sg, st', hblk, hest, EFin.bad (F _ ⟨t, v, rfl⟩) ⟨t, v, rfl⟩⟩
      | some p =>
        obtain ⟨f, t, k⟩ := p
        have hts := tag_some hr.byt htag
        rw [hl'] at hts
        obtain ⟨f0, f1, t0, t1, k0, k1, _⟩ := hts
        have D1 := Lib.hid (CT_ok hr htag)
        obtain ⟨A2, hR2, hout2, hlo2, hcut⟩ := hr.cutFrom Tryz.und_bytes Tryz.size_byte .i64 k (by omega) (by omega)
        have ho2 := hout2 _ hout
        have hl2' := hlo2 _ hloA
        by_cases hf : 536870911 < f
        · have F := fun e => hat.bad (s'' := st') (e := e) hr.byt hp0 (.inl (hd_big htag hf))
          clear hl' htag hcut hR2 hout2 hlo2
          go_wp2_with (first | (go_at_call 41; refine D1.out.mono ?_; rintro e w' ⟨rfl, rfl⟩))
          go_ret
          exact ⟨hk, pk, ty, pl, sg, st', hblk, hest, EFin.bad (F _ ⟨_, _, rfl⟩) ⟨_, _, rfl⟩⟩
        · have hl2 := hR2.len
          have hcap2 := hR2.cap
          have HH : hd l' = hdv f t (l'.drop k.toNat) := hd_of htag hf
          have HHd := Lib.hid HH
          have HL2 := Lib.hid hl2
          clear HH htag hl' hl2 hout2 hlo2
          have hsplit : (t = 2 ∧ (f = 1 ∨ f = 2 ∨ f = 3 ∨ f = 5)) ∨ ((¬ t = 2) ∨ (t = 2 ∧ ¬ f = 1 ∧ ¬ f = 2 ∧ ¬ f = 3 ∧ ¬ f = 5)) := by omega
          rcases hsplit with ⟨rfl, hfs⟩ | hother
          · cases hv : bsz (l'.drop k.toNat) with
            | none =>
              have F := fun e => hat.bad (s'' := st') (e := e) hr.byt hp0 (.inl (by rw [HHd.out, hdv_bytes_none hv]))
              have D2 := Lib.hid (CB_bad hR2 hv)
              clear hv
              rcases hfs with rfl | rfl | rfl | rfl
              all_goals
                go_wp2_with (first | (go_at_call 41; refine D1.out.mono ?_; rintro e w' ⟨rfl, rfl⟩) | (go_at_call 44; refine D2.out.mono ?_; rintro e w' ⟨k2, k20, k21, rfl, rfl⟩) | (go_at_call 42; refine (PE_bad hE' _ (by omega)).mono ?_; rintro e w' ⟨⟨t, v, rfl⟩, rfl⟩))
                go_ret
                exact ⟨hk, pk, ty, pl, sg, st', hblk, hest, EFin.bad (F _ ⟨t, v, rfl⟩) ⟨t, v, rfl⟩⟩
            | some q =>
              obtain ⟨v, k2⟩ := q
              have hvl := bsz_some hR2.byt hv
              rw [HL2.out] at hvl
              obtain ⟨v0, k20, kv, _⟩ := hvl
              have D2 := Lib.hid (CB_ok hR2 hv)
              have HF := Lib.hid (HHd.out.trans (hdv_bytes hv))
              have hvl := Lib.hid (bsz_len hR2.byt hv)
              obtain ⟨A3, hR3, hout3, hlo3, hcut3⟩ := hR2.cutFrom Tryz.und_bytes Tryz.size_byte .i64 k2 (by omega) (by omega)
              obtain ⟨A3, hR3, hout3, hlo3, hcut3⟩ := hR2.cutFrom Tryz.und_bytes Tryz.size_byte .i64 (k2 + v) (by omega) (by omega)
              have hko := hout3 _ ho2
              have hll := hlo3 _ hl2'
              generalize bval (l'.drop k.toNat) v k2 = y at *
              clear hv hout3 hlo3
              have HO := Own.lit wr 5 wr.heap.size [] (Nat.le_refl _) Byt.nil (by simp)
              have hka : Kp no wr (wr.alloc (.cells (nums .u8 []).toArray 5)) := (Kp.refl _ _).alloc _
              have hrsz := hk.size
              rcases hfs with rfl | rfl | rfl | rfl
              · have hp := hest.key
                cases hkey : st'.key with
                | none =>
                  rw [hkey] at hp
                  have hp : pk = .pointer none := hp
                  subst hp
                  go_wp2_with (first | (go_at_call 41; refine D1.out.mono ?_; rintro e w' ⟨rfl, rfl⟩) | (go_at_call 44; refine D2.out.mono ?_; rintro e w' ⟨rfl, A4, rfl, hR4, _, _⟩) | (at_builtin; refine fresh_append wr.heap.size rfl (.tmp 74) (.tmp 75) 28 5 rfl Tryz.und_bytes Tryz.info_byte ⟨wr.heap.size, 0, none⟩ 0 y A4 v.toNat (c' - k.toNat - k2.toNat) rfl rfl HO (hR4.keepN hka) (by simp) (by omega) ?_; intro g1 c1 w2 hO1 hR5 hg1 hk2; have hk2N : Kp no wr w2 := hka.own HO (Nat.le_refl _) hk2; have hblk2 := hblk.keepN hk2N; have cc0 := hblk2.cell 0; have cf0 := hblk2.free 0; have cc9 := (hblk2.alloc (.cells #[.pointer none, .slice none 0 0] 103)).cell 0; have cf9 := (hblk2.alloc (.cells #[.pointer none, .slice none 0 0] 103)).free 0))
                  have hlt := hblk.lt
                  have hsz2 := hk2N.size
                  have hO1lt := (hO1.base g1 rfl).2
                  have hkA : Kp (· = g) wr w2 := hk2N.mono (fun i _ h => h.elim)
                  have hal : Kp (· = g) w2 (w2.alloc (.cells #[.pointer none, .slice none 0 0] 103)) := (Kp.refl _ _).alloc _
                  have hkB := hal.setCell (p := ⟨g, 0, none⟩) (fun _ => rfl) (.pointer (some ⟨w2.heap.size, 0, none⟩))
                  have hkC := hkA.trans hkB (fun _ _ h => h)
                  have hkD := hk.trans hkC (fun _ _ h => h)
                  have hgkn : w.heap.size ≤ w2.heap.size := by omega
                  have hblk3 := (hblk2.alloc (.cells #[.pointer none, .slice none 0 0] 103)).set 0 (.pointer (some ⟨w2.heap.size, 0, none⟩))
                  have hbk := (Blk.new w2 #[.pointer none, .slice none 0 0] 103).far (p := ⟨g, 0, none⟩) (by show ¬ _ = g; omega) (.pointer (some ⟨w2.heap.size, 0, none⟩))
                  have hE3 := hEr.keep hkC hg
                  have hR5k := hR5.keep hkB (fun a ha => by cases ha; show ¬ g1 = g; omega)
                  have hR3k := hR3.keep hkC hko
                  have hmm : ∀ i, i < wr.heap.size → Mine g (.pointer (some ⟨w2.heap.size, 0, none⟩)) i → Mine g (.pointer none) i := by
                    intro i hi hm
                    rcases hm with hm | hm
                    · exact .inl hm
                    · cases hm; omega
                  have hty3 := (hest.ty.mono hmm).keep hkC (fun i hi _ => .inl hi)
                  have hpl3 := (hest.pl.mono hmm).keep hkC (fun i hi _ => .inl hi)
                  have hsg3 := (hest.sg.mono hmm).keep hkC (fun i hi _ => .inl hi)
                  have DM := Lib.hid (PKMerge_calls hR5k (by omega) hE3.k.p hE3.k.n (fun i => i = g ∨ i = w2.heap.size) w2.heap.size 103 hE3.k.sz (.inr rfl) (fun i hi => by simp [World.setCell]; omega) _ _ (none, none) hbk (fun a ha => by cases ha; simp [World.setCell]; omega) ⟨rfl, rfl⟩)
                  refine DM.out.mono ?_
                  rintro e w4 ⟨hk4, pt', sl', ks', hbk', hks', hFin⟩
                  have hkE := hkD.trans hk4 (fun i hi h => absurd h (by have := hgkn; omega))
                  have hblk4 := hblk3.keep hk4 (by show ¬ g = _; omega)
                  have hest4 : ESt w4 g (.pointer (some ⟨w2.heap.size, 0, none⟩)) ty pl sg { st' with key := some ks' } :=
                    ⟨⟨w2.heap.size, pt', sl', rfl, by omega, by have := hE.k.sz; omega, hbk', hks'⟩, hty3.keep hk4 (fun i hi _ => .inr (by rw [hi])), hpl3.keep hk4 (fun i hi _ => .inr (by rw [hi])), hsg3.keep hk4 (fun i hi _ => .inr (by rw [hi]))⟩
                  have hR6 := hR3k.keep hk4 (fun a ha h => by have := hll a ha; have h : a.block = _ := h; omega)
                  have hfe : e = .returned .nilIface ∨ Bad e := by
                    unfold Fin at hFin
                    split at hFin
                    · exact .inl hFin.1
                    · exact .inr hFin
                    · exact hFin
                  have HFin := Lib.hid hFin
                  clear hFin
                  rcases hfe with rfl | ⟨te, ve, rfl⟩
                  · have hat3 := hat.on (s'' := { st' with key := some ks' }) hr.byt hp0 HF.out (by rw [estep_1]; exact keyed_nil (by rw [hkey]; rfl) HFin.out)
                    go_wp2
                    go_roundw
                    case rel => exact ⟨A3, _, _, _, .pointer (some ⟨w2.heap.size, 0, none⟩), ty, pl, sg, _, rfl, hR6, by omega, hko, hll, hkE, hblk4, hest4, (fun i h => by cases h; exact hgkn), hat3⟩
                    case measure => simp [lenOf]; omega
                  · have FB := hat.badIn (s'' := { st' with key := some ks' }) (e := .returned (.iface te ve)) hr.byt hp0 HF.out (by rw [estep_1]; exact keyed_bad HFin.out ⟨te, ve, rfl⟩) ⟨te, ve, rfl⟩
                    go_wp2
                    go_ret
                    exact ⟨hkE, _, ty, pl, sg, _, hblk4, hest4, EFin.bad FB ⟨te, ve, rfl⟩⟩
                | some ks =>
                  rw [hkey] at hp
                  obtain ⟨gk, pt, sl, rfl, hgk, hgE, hbk0, hks0⟩ := hp
                  have hgkn := hnew gk rfl
                  go_wp2_with (first | (go_at_call 41; refine D1.out.mono ?_; rintro e w' ⟨rfl, rfl⟩) | (go_at_call 44; refine D2.out.mono ?_; rintro e w' ⟨rfl, A4, rfl, hR4, _, _⟩) | (at_builtin; refine fresh_append wr.heap.size rfl (.tmp 74) (.tmp 75) 28 5 rfl Tryz.und_bytes Tryz.info_byte ⟨wr.heap.size, 0, none⟩ 0 y A4 v.toNat (c' - k.toNat - k2.toNat) rfl rfl HO (hR4.keepN hka) (by simp) (by omega) ?_; intro g1 c1 w2 hO1 hR5 hg1 hk2; have hk2N : Kp no wr w2 := hka.own HO (Nat.le_refl _) hk2; have hblk2 := hblk.keepN hk2N; have cc0 := hblk2.cell 0; have cf0 := hblk2.free 0))
                  have hlt := hblk.lt
                  have hlk := hbk0.lt
                  have hsz2 := hk2N.size
                  have hO1lt := (hO1.base g1 rfl).2
                  have hkC : Kp (· = g) wr w2 := hk2N.mono (fun i _ h => h.elim)
                  have hkD := hk.trans hkC (fun _ _ h => h)
                  have hblk3 := hblk2
                  have hbk := hbk0.keepN hk2N
                  have hE3 := hEr.keepN hk2N
                  have hR3k := hR3.keep hkC hko
                  have hty3 := hest.ty.keepN hk2N
                  have hpl3 := hest.pl.keepN hk2N
                  have hsg3 := hest.sg.keepN hk2N
                  have DM := Lib.hid (PKMerge_calls hR5 (by omega) hE3.k.p hE3.k.n (fun i => i = g ∨ i = gk) gk 103 hE3.k.sz (.inr rfl) (fun i hi => by omega) pt sl ks hbk (fun a ha => by cases ha; exact hO1lt) (hks0.keepN hk2N))
                  refine DM.out.mono ?_
                  rintro e w4 ⟨hk4, pt', sl', ks', hbk', hks', hFin⟩
                  have hkE := hkD.trans hk4 (fun i hi h => absurd h (by have := hgkn; omega))
                  have hblk4 := hblk3.keep hk4 (by show ¬ g = _; omega)
                  have hest4 : ESt w4 g (.pointer (some ⟨gk, 0, none⟩)) ty pl sg { st' with key := some ks' } :=
                    ⟨⟨gk, pt', sl', rfl, by omega, by have := hE.k.sz; omega, hbk', hks'⟩, hty3.keep hk4 (fun i hi _ => .inr (by rw [hi])), hpl3.keep hk4 (fun i hi _ => .inr (by rw [hi])), hsg3.keep hk4 (fun i hi _ => .inr (by rw [hi]))⟩
                  have hR6 := hR3k.keep hk4 (fun a ha h => by have := hll a ha; have h : a.block = _ := h; omega)
                  have hfe : e = .returned .nilIface ∨ Bad e := by
                    unfold Fin at hFin
                    split at hFin
                    · exact .inl hFin.1
                    · exact .inr hFin
                    · exact hFin
                  have HFin := Lib.hid hFin
                  clear hFin
                  rcases hfe with rfl | ⟨te, ve, rfl⟩
                  · have hat3 := hat.on (s'' := { st' with key := some ks' }) hr.byt hp0 HF.out (by rw [estep_1]; exact keyed_nil (by rw [hkey]; rfl) HFin.out)
                    go_wp2
                    go_roundw
                    case rel => exact ⟨A3, _, _, _, .pointer (some ⟨gk, 0, none⟩), ty, pl, sg, _, rfl, hR6, by omega, hko, hll, hkE, hblk4, hest4, (fun i h => by cases h; exact hgkn), hat3⟩
                    case measure => simp [lenOf]; omega
                  · have FB := hat.badIn (s'' := { st' with key := some ks' }) (e := .returned (.iface te ve)) hr.byt hp0 HF.out (by rw [estep_1]; exact keyed_bad HFin.out ⟨te, ve, rfl⟩) ⟨te, ve, rfl⟩
                    go_wp2
                    go_ret
                    exact ⟨hkE, _, ty, pl, sg, _, hblk4, hest4, EFin.bad FB ⟨te, ve, rfl⟩⟩
              · go_wp2_with (first | (go_at_call 41; refine D1.out.mono ?_; rintro e w' ⟨rfl, rfl⟩) | (go_at_call 44; refine D2.out.mono ?_; rintro e w' ⟨rfl, A4, rfl, hR4, _, _⟩) | (at_builtin; refine fresh_append wr.heap.size rfl (.tmp 74) (.tmp 75) 28 5 rfl Tryz.und_bytes Tryz.info_byte ⟨wr.heap.size, 0, none⟩ 0 y A4 v.toNat (c' - k.toNat - k2.toNat) rfl rfl HO (hR4.keepN hka) (by simp) (by omega) ?_; intro g1 c1 w2 hO1 hR5 hg1 hk2; have hk2N : Kp no wr w2 := hka.own HO (Nat.le_refl _) hk2; have hblk2 := hblk.keepN hk2N; have cc1 := hblk2.cell 1; have cf1 := hblk2.free 1))
                have hlt := hblk.lt
                have hkA : Kp (· = g) wr w2 := hk2N.mono (fun i _ h => h.elim)
                have hkB : Kp (· = g) w2 (w2.setCell ⟨g, 1, none⟩ (.slice (some ⟨g1, 0, none⟩) v.toNat c1)) := (Kp.refl (· = g) w2).setCell (p := ⟨g, 1, none⟩) (fun _ => rfl) _
                have hkC := hkA.trans hkB (fun _ _ h => h)
                have hkD := hk.trans hkC (fun _ _ h => h)
                have hblk3 := hblk2.set 1 (.slice (some ⟨g1, 0, none⟩) v.toNat c1)
                have hg1lt : g1 < w2.heap.size := by have := (hO1.base g1 rfl).2; exact this
                have hsl : SlAt (w2.setCell ⟨g, 1, none⟩ (.slice (some ⟨g1, 0, none⟩) v.toNat c1)) (Mine g pk) (.slice (some ⟨g1, 0, none⟩) v.toNat c1) y := by
                  refine ⟨some ⟨g1, 0, none⟩, c1, by rw [hvl.out], ?_, ?_, ?_, by rw [hvl.out]; omega⟩
                  · rw [hvl.out]
                    exact hR5.keep hkB (fun a ha => by cases ha; show ¬ g1 = g; omega)
                  · intro a ha hm
                    cases ha
                    rcases hm with hm | hm
                    · have hm : g1 = g := hm
                      omega
                    · have hp := hest.key
                      cases hkey : st'.key with
                      | none => rw [hkey] at hp; have hp : pk = .pointer none := hp; rw [hp] at hm; cases hm
                      | some ks =>
                        rw [hkey] at hp
                        obtain ⟨gk, pt, sl, hpk, _, _, hbk, _⟩ := hp
                        rw [hpk] at hm
                        have hm : gk = g1 := by simpa using hm
                        have := hbk.lt
                        omega
                  · intro a ha
                    cases ha
                    simpa using hg1lt
                have hest3 : ESt (w2.setCell ⟨g, 1, none⟩ (.slice (some ⟨g1, 0, none⟩) v.toNat c1)) g pk (.slice (some ⟨g1, 0, none⟩) v.toNat c1) pl sg { st' with ty := y } :=
                  ⟨hest.key.keep hkC (fun i hi => hi), hsl, (hest.pl.keep hkC (fun i hi _ => .inl hi)), (hest.sg.keep hkC (fun i hi _ => .inl hi))⟩
                have hR6 := hR3.keep hkC hko
                have hat3 := hat.on (s'' := { st' with ty := y }) hr.byt hp0 HF.out (.inl (estep_2 _ _ _))
                clear hvl hsl
                go_roundw
                case rel => exact ⟨A3, _, _, _, pk, (.slice (some ⟨g1, 0, none⟩) v.toNat c1), pl, sg, _, rfl, hR6, by omega, hko, hll, hkD, hblk3, hest3, hnew, hat3⟩
                case measure => simp [lenOf]; omega
              · go_wp2_with (first | (go_at_call 41; refine D1.out.mono ?_; rintro e w' ⟨rfl, rfl⟩) | (go_at_call 44; refine D2.out.mono ?_; rintro e w' ⟨rfl, A4, rfl, hR4, _, _⟩) | (at_builtin; refine fresh_append wr.heap.size rfl (.tmp 74) (.tmp 75) 28 5 rfl Tryz.und_bytes Tryz.info_byte ⟨wr.heap.size, 0, none⟩ 0 y A4 v.toNat (c' - k.toNat - k2.toNat) rfl rfl HO (hR4.keepN hka) (by simp) (by omega) ?_; intro g1 c1 w2 hO1 hR5 hg1 hk2; have hk2N : Kp no wr w2 := hka.own HO (Nat.le_refl _) hk2; have hblk2 := hblk.keepN hk2N; have cc1 := hblk2.cell 2; have cf1 := hblk2.free 2))
                have hlt := hblk.lt
                have hkA : Kp (· = g) wr w2 := hk2N.mono (fun i _ h => h.elim)
                have hkB : Kp (· = g) w2 (w2.setCell ⟨g, 2, none⟩ (.slice (some ⟨g1, 0, none⟩) v.toNat c1)) := (Kp.refl (· = g) w2).setCell (p := ⟨g, 2, none⟩) (fun _ => rfl) _
                have hkC := hkA.trans hkB (fun _ _ h => h)
                have hkD := hk.trans hkC (fun _ _ h => h)
                have hblk3 := hblk2.set 2 (.slice (some ⟨g1, 0, none⟩) v.toNat c1)
                have hg1lt : g1 < w2.heap.size := by have := (hO1.base g1 rfl).2; exact this
                have hsl : SlAt (w2.setCell ⟨g, 2, none⟩ (.slice (some ⟨g1, 0, none⟩) v.toNat c1)) (Mine g pk) (.slice (some ⟨g1, 0, none⟩) v.toNat c1) y := by
                  refine ⟨some ⟨g1, 0, none⟩, c1, by rw [hvl.out], ?_, ?_, ?_, by rw [hvl.out]; omega⟩
                  · rw [hvl.out]
                    exact hR5.keep hkB (fun a ha => by cases ha; show ¬ g1 = g; omega)
                  · intro a ha hm
                    cases ha
                    rcases hm with hm | hm
                    · have hm : g1 = g := hm
                      omega
                    · have hp := hest.key
                      cases hkey : st'.key with
                      | none => rw [hkey] at hp; have hp : pk = .pointer none := hp; rw [hp] at hm; cases hm
                      | some ks =>
                        rw [hkey] at hp
                        obtain ⟨gk, pt, sl, hpk, _, _, hbk, _⟩ := hp
                        rw [hpk] at hm
                        have hm : gk = g1 := by simpa using hm
                        have := hbk.lt
                        omega
                  · intro a ha
                    cases ha
                    simpa using hg1lt
                have hest3 : ESt (w2.setCell ⟨g, 2, none⟩ (.slice (some ⟨g1, 0, none⟩) v.toNat c1)) g pk ty (.slice (some ⟨g1, 0, none⟩) v.toNat c1) sg { st' with pl := y } :=
                  ⟨hest.key.keep hkC (fun i hi => hi), (hest.ty.keep hkC (fun i hi _ => .inl hi)), hsl, (hest.sg.keep hkC (fun i hi _ => .inl hi))⟩
                have hR6 := hR3.keep hkC hko
                have hat3 := hat.on (s'' := { st' with pl := y }) hr.byt hp0 HF.out (.inl (estep_3 _ _ _))
                clear hvl hsl
                go_roundw
                case rel => exact ⟨A3, _, _, _, pk, ty, (.slice (some ⟨g1, 0, none⟩) v.toNat c1), sg, _, rfl, hR6, by omega, hko, hll, hkD, hblk3, hest3, hnew, hat3⟩
                case measure => simp [lenOf]; omega
              · go_wp2_with (first | (go_at_call 41; refine D1.out.mono ?_; rintro e w' ⟨rfl, rfl⟩) | (go_at_call 44; refine D2.out.mono ?_; rintro e w' ⟨rfl, A4, rfl, hR4, _, _⟩) | (at_builtin; refine fresh_append wr.heap.size rfl (.tmp 74) (.tmp 75) 28 5 rfl Tryz.und_bytes Tryz.info_byte ⟨wr.heap.size, 0, none⟩ 0 y A4 v.toNat (c' - k.toNat - k2.toNat) rfl rfl HO (hR4.keepN hka) (by simp) (by omega) ?_; intro g1 c1 w2 hO1 hR5 hg1 hk2; have hk2N : Kp no wr w2 := hka.own HO (Nat.le_refl _) hk2; have hblk2 := hblk.keepN hk2N; have cc1 := hblk2.cell 3; have cf1 := hblk2.free 3))
                have hlt := hblk.lt
                have hkA : Kp (· = g) wr w2 := hk2N.mono (fun i _ h => h.elim)
                have hkB : Kp (· = g) w2 (w2.setCell ⟨g, 3, none⟩ (.slice (some ⟨g1, 0, none⟩) v.toNat c1)) := (Kp.refl (· = g) w2).setCell (p := ⟨g, 3, none⟩) (fun _ => rfl) _
                have hkC := hkA.trans hkB (fun _ _ h => h)
                have hkD := hk.trans hkC (fun _ _ h => h)
                have hblk3 := hblk2.set 3 (.slice (some ⟨g1, 0, none⟩) v.toNat c1)
                have hg1lt : g1 < w2.heap.size := by have := (hO1.base g1 rfl).2; exact this
                have hsl : SlAt (w2.setCell ⟨g, 3, none⟩ (.slice (some ⟨g1, 0, none⟩) v.toNat c1)) (Mine g pk) (.slice (some ⟨g1, 0, none⟩) v.toNat c1) y := by
                  refine ⟨some ⟨g1, 0, none⟩, c1, by rw [hvl.out], ?_, ?_, ?_, by rw [hvl.out]; omega⟩
                  · rw [hvl.out]
                    exact hR5.keep hkB (fun a ha => by cases ha; show ¬ g1 = g; omega)
                  · intro a ha hm
                    cases ha
                    rcases hm with hm | hm
                    · have hm : g1 = g := hm
                      omega
                    · have hp := hest.key
                      cases hkey : st'.key with
                      | none => rw [hkey] at hp; have hp : pk = .pointer none := hp; rw [hp] at hm; cases hm
                      | some ks =>
                        rw [hkey] at hp
                        obtain ⟨gk, pt, sl, hpk, _, _, hbk, _⟩ := hp
                        rw [hpk] at hm
                        have hm : gk = g1 := by simpa using hm
                        have := hbk.lt
                        omega
                  · intro a ha
                    cases ha
                    simpa using hg1lt
                have hest3 : ESt (w2.setCell ⟨g, 3, none⟩ (.slice (some ⟨g1, 0, none⟩) v.toNat c1)) g pk ty pl (.slice (some ⟨g1, 0, none⟩) v.toNat c1) { st' with sg := y } :=
                  ⟨hest.key.keep hkC (fun i hi => hi), (hest.ty.keep hkC (fun i hi _ => .inl hi)), (hest.pl.keep hkC (fun i hi _ => .inl hi)), hsl⟩
                have hR6 := hR3.keep hkC hko
                have hat3 := hat.on (s'' := { st' with sg := y }) hr.byt hp0 HF.out (.inl (estep_5 _ _ _))
                clear hvl hsl
                go_roundw
                case rel => exact ⟨A3, _, _, _, pk, ty, pl, (.slice (some ⟨g1, 0, none⟩) v.toNat c1), _, rfl, hR6, by omega, hko, hll, hkD, hblk3, hest3, hnew, hat3⟩
                case measure => simp [lenOf]; omega
          · have D2 := Lib.hid (CF_any hR2 f t)
            have hne : ∀ v x, estep st' ⟨f, t, v, x⟩ = .ok st' := by
              intro v x
              rcases hother with h | ⟨_, h1, h2, h3, h5⟩
              · exact estep_kind _ _ h
              · exact estep_num _ _ h1 h2 h3 h5
            have HNE := Lib.hid hne
            clear hne
            rcases hother with hx | ⟨rfl, hx1, hx2, hx3, hx5⟩
            · go_wp2_with (first | (go_at_call 41; refine D1.out.mono ?_; rintro e w' ⟨rfl, rfl⟩))
              refine D2.out.mono ?_
              rintro e w2 ⟨⟨k2, rfl, a2, b2, F2⟩, hk2⟩
              rw [HL2.out] at b2
              have F2H := Lib.hid F2
              clear F2
              have hk3 := hk.trans hk2 (fun i _ h => h.elim)
              have hblk3 := hblk.keepN hk2
              have hest3 := hest.keepN hk2
              rcases Int.lt_or_le k2 0 with hneg | hk2p
              · have F := fun e => hat.bad (s'' := st') (e := e) hr.byt hp0 (by
                  rw [HHd.out]
                  by_cases h34 : t = 3 ∨ t = 4
                  · exact .inr (hdv_grp h34)
                  · have F2 := F2H.out (fun h => h34 (.inl h))
                    split at F2
                    · rename_i m hm
                      have := fval_le hR2.byt hm
                      omega
                    · rename_i hm
                      exact .inl (hdv_none h34 hm))
                have hE2 := hE'.keepN hk2
                clear hcut
                go_wp2_with (first | (go_at_call 42; refine (PE_bad hE2 _ (by omega)).mono ?_; rintro e w' ⟨⟨t, v, rfl⟩, rfl⟩))
                go_ret
                exact ⟨hk3, pk, ty, pl, sg, st', hblk3, hest3, EFin.bad (F _ ⟨_, _, rfl⟩) ⟨_, _, rfl⟩⟩
              · obtain ⟨A3, hR3, hout3, hlo3, hcut3⟩ := (hR2.keepN hk2).cutFrom Tryz.und_bytes Tryz.size_byte .i64 k2 (by omega) (by omega)
                have hat3 : AtG estep l ((l'.drop k.toNat).drop k2.toNat) ES.zero st' := by
                  by_cases h34 : t = 3 ∨ t = 4
                  · exact hat.opn hr.byt hp0 (HHd.out.trans (hdv_grp h34))
                  · have F2 := F2H.out (fun h => h34 (.inl h))
                    split at F2
                    · rename_i m hm
                      subst F2
                      exact hat.on hr.byt hp0 (HHd.out.trans (hdv_some h34 hm)) (.inl (HNE.out _ _))
                    · omega
                have hko := hout3 _ ho2
                have hll := hlo3 _ hl2'
                clear hcut D1 D2
                go_wp2
                go_roundw
                case rel => exact ⟨A3, _, _, _, pk, ty, pl, sg, st', rfl, hR3, by omega, hko, hll, hk3, hblk3, hest3, hnew, hat3⟩
                case measure => simp [lenOf]; omega
            · have x1 : (f != 1) = true := by simpa using hx1
              have x2 : (f != 2) = true := by simpa using hx2
              have x3 : (f != 3) = true := by simpa using hx3
              have x5 : (f != 5) = true := by simpa using hx5
              go_wp2_with (first | (go_at_call 41; refine D1.out.mono ?_; rintro e w' ⟨rfl, rfl⟩))
              refine D2.out.mono ?_
              rintro e w2 ⟨⟨k2, rfl, a2, b2, F2⟩, hk2⟩
              rw [HL2.out] at b2
              have F2H := Lib.hid F2
              clear F2
              have hk3 := hk.trans hk2 (fun i _ h => h.elim)
              have hblk3 := hblk.keepN hk2
              have hest3 := hest.keepN hk2
              rcases Int.lt_or_le k2 0 with hneg | hk2p
              · have F := fun e => hat.bad (s'' := st') (e := e) hr.byt hp0 (by
                  rw [HHd.out]
                  by_cases h34 : (2 : Int) = 3 ∨ (2 : Int) = 4
                  · exact .inr (hdv_grp h34)
                  · have F2 := F2H.out (fun h => h34 (.inl h))
                    split at F2
                    · rename_i m hm
                      have := fval_le hR2.byt hm
                      omega
                    · rename_i hm
                      exact .inl (hdv_none h34 hm))
                have hE2 := hE'.keepN hk2
                clear hcut
                go_wp2_with (first | (go_at_call 42; refine (PE_bad hE2 _ (by omega)).mono ?_; rintro e w' ⟨⟨t, v, rfl⟩, rfl⟩))
                go_ret
                exact ⟨hk3, pk, ty, pl, sg, st', hblk3, hest3, EFin.bad (F _ ⟨_, _, rfl⟩) ⟨_, _, rfl⟩⟩
              · obtain ⟨A3, hR3, hout3, hlo3, hcut3⟩ := (hR2.keepN hk2).cutFrom Tryz.und_bytes Tryz.size_byte .i64 k2 (by omega) (by omega)
                have hat3 : AtG estep l ((l'.drop k.toNat).drop k2.toNat) ES.zero st' := by
                  by_cases h34 : (2 : Int) = 3 ∨ (2 : Int) = 4
                  · exact hat.opn hr.byt hp0 (HHd.out.trans (hdv_grp h34))
                  · have F2 := F2H.out (fun h => h34 (.inl h))
                    split at F2
                    · rename_i m hm
                      subst F2
                      exact hat.on hr.byt hp0 (HHd.out.trans (hdv_some h34 hm)) (.inl (HNE.out _ _))
                    · omega
                have hko := hout3 _ ho2
                have hll := hlo3 _ hl2'
                clear hcut D1 D2
                go_wp2
                go_roundw
                case rel => exact ⟨A3, _, _, _, pk, ty, pl, sg, st', rfl, hR3, by omega, hko, hll, hk3, hblk3, hest3, hnew, hat3⟩
                case measure => simp [lenOf]; omega
end Go.Proofs.YtddofkeajinjpaaGreatDoor
