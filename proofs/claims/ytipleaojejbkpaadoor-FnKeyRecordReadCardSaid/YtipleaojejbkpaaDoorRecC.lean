/- (*PeerRecord).Unmarshal walked. -/
import Derived.Test.YtipleaojejbkpaaDoorRecB
namespace Go.Proofs.YtipleaojejbkpaaDoor
open Go Go.RowKit
set_option linter.unusedVariables false
set_option linter.unusedSimpArgs false
set_option maxRecDepth 100000

/-- What a record's reading names. -/
structure RErrs (w : World) : Prop where
  p : PErrs w
  n : IsErr w 0
  sz : 10 ≤ w.heap.size
theorem RErrs.keepN {w w' : World} (h : RErrs w) (k : Kp no w w') : RErrs w' := ⟨h.p.keepN k, h.n.keepN k, Nat.le_trans h.sz k.size⟩
theorem RErrs.keep {w w' : World} {g : Nat} (h : RErrs w) (k : Kp (· = g) w w') (hg : 10 ≤ g) : RErrs w' :=
  ⟨h.p.keep k (fun i hi he => by omega), h.n.keep k (by show ¬ _ = g; omega), Nat.le_trans h.sz k.size⟩

set_option maxHeartbeats 8000000 in
theorem RUnmarshal_calls {w : World} {A : Option Addr} {n c : Nat} {l : List Int} (h : Rd w A n c l) (hn : n ≤ 1099511627776) (hE : RErrs w)
    (g : Nat) (T : TypeId) (hg : 10 ≤ g) (v0 v1 v2 : Value) (hb : Blk w g #[v0, v1, v2] T) (ho : Out (· = g) A) (hlo : Lo w.heap.size A) :
    Calls Tryd.prog 64 #[.pointer (some ⟨g, 0, none⟩), .slice A n c] w (RUO w g T l) := by
  have hglt := hb.lt
  have hLL : l.length = n := h.len
  obtain rfl := hLL
  have f0 := hb.free 0
  have f1 := hb.free 1
  have f2 := hb.free 2
  have z0 := hb.cell 0
  have z1 := hb.cell 1
  have z2 := hb.cell 2
  have kz : Kp (· = g) w (((w.setCell ⟨g, 0, none⟩ (.slice none 0 0)).setCell ⟨g, 1, none⟩ (.int .u64 0)).setCell ⟨g, 2, none⟩ (.slice none 0 0)) :=
    (((Kp.refl (· = g) w).setCell (p := ⟨g, 0, none⟩) (fun _ => rfl) _).setCell (p := ⟨g, 1, none⟩) (fun _ => rfl) _).setCell (p := ⟨g, 2, none⟩) (fun _ => rfl) _
  have bz := ((hb.set 0 (.slice none 0 0)).set 1 (.int .u64 0)).set 2 (.slice none 0 0)
  have HI : RRel w g T l l.length A l.length c l (.slice none 0 0) (.int .u64 0) (.slice none 0 0) RS.zero _ := ⟨h.keep kz ho, by simp [RS.zero], ho, hlo, kz, bz, RSt.zero _ _ g, AtG.start l RS.zero⟩
  clear h ho hb bz
  go_enter Tryd.func64, Tryd.ntmps64
  go_wp2
  go_loopw [1] (fun b wr => ∃ A' n' c' l' pe sq ad st', b = .slice A' n' c' ∧ RRel w g T l l.length A' n' c' l' pe sq ad st' wr) (fun b _ => lenOf b)
  case atStart => exact ⟨A, _, c, l, _, _, _, _, rfl, HI⟩
  case round =>
    obtain ⟨A', n', c', l', pe, sq, ad, st', rfl, hr, hn', hout, hloA, hk, hblk, hst, hat⟩ := hrel
    have hl' := hr.len
    have hcap' := hr.cap
    have hmax' := hr.max
    have hEr := hE.keep hk hg
    obtain ⟨et, ev, hNe⟩ := hEr.n
    have hE' := hEr.p
    have hgs := hblk.lt
    have hks := hk.size
    obtain ⟨pe0, pe1, pe2, epe⟩ := hst.pe.form
    have esq := hst.sq
    obtain ⟨us, hV, hPs⟩ := hst.ad
    obtain ⟨Aad, cad, ead, _, _, _⟩ := hV.form
    have HusL := Lib.hid hPs.len
    by_cases h0 : n' = 0
    · subst h0
      have : l' = [] := List.eq_nil_of_length_eq_zero hl'
      subst this
      have F0 := hat.done
      clear hl'
      go_wp2
      go_ret
      exact ⟨hk, pe, sq, ad, st', hblk, hst, by omega, F0⟩
    · have hpos : (0 : Int) < (n' : Int) := by omega
      have hp0 : 0 < l'.length := by omega
      cases htag : tag l' with
      | none =>
        have F := fun e => hat.bad (s'' := st') (e := e) hr.byt hp0 (.inl (hd_none htag))
        have D1 := Lib.hid (CT_bad hr htag)
        clear hl' htag
        go_wp2_with (first | (go_at_call 80; refine D1.out.mono ?_; rintro e w' ⟨k, k0, k1, rfl, rfl⟩) | (go_at_call 81; refine (PE_bad hE' _ (by omega)).mono ?_; rintro e w' ⟨⟨t, v, rfl⟩, rfl⟩))
        go_ret
        exact ⟨hk, pe, sq, ad, st', hblk, hst, by omega, F _ ⟨t, v, rfl⟩⟩
      | some p =>
        obtain ⟨f, t, k⟩ := p
        have hts := tag_some hr.byt htag
        rw [hl'] at hts
        obtain ⟨f0, f1, t0, t1, k0, k1, _⟩ := hts
        have D1 := Lib.hid (CT_ok hr htag)
        obtain ⟨A2, hR2, hout2, hlo2, hcut⟩ := hr.cutFrom Tryd.und_bytes Tryd.size_byte .i64 k (by omega) (by omega)
        have ho2 := hout2 _ hout
        have hl2' := hlo2 _ hloA
        by_cases hf : 536870911 < f
        · have F := fun e => hat.bad (s'' := st') (e := e) hr.byt hp0 (.inl (hd_big htag hf))
          clear hl' htag hcut hR2 hout2 hlo2
          go_wp2_with (first | (go_at_call 80; refine D1.out.mono ?_; rintro e w' ⟨rfl, rfl⟩))
          go_ret
          exact ⟨hk, pe, sq, ad, st', hblk, hst, by omega, F _ ⟨_, _, rfl⟩⟩
        · have hl2 := hR2.len
          have hcap2 := hR2.cap
          have HH : hd l' = hdv f t (l'.drop k.toNat) := hd_of htag hf
          have HHd := Lib.hid HH
          have HL2 := Lib.hid hl2
          clear HH htag hl' hl2 hout2 hlo2
          have hsplit : (f = 1 ∧ t = 2) ∨ (f = 2 ∧ t = 0) ∨ (f = 3 ∧ t = 2) ∨ ((f = 1 ∧ ¬ t = 2) ∨ (f = 2 ∧ ¬ t = 0) ∨ (f = 3 ∧ ¬ t = 2) ∨ (¬ f = 1 ∧ ¬ f = 2 ∧ ¬ f = 3)) := by omega
          rcases hsplit with ⟨rfl, rfl⟩ | ⟨rfl, rfl⟩ | ⟨rfl, rfl⟩ | hother
          · cases hv : bsz (l'.drop k.toNat) with
            | none =>
              have F := fun e => hat.bad (s'' := st') (e := e) hr.byt hp0 (.inl (by rw [HHd.out, hdv_bytes_none hv]))
              have D2 := Lib.hid (CB_bad hR2 hv)
              clear hv
              go_wp2_with (first | (go_at_call 80; refine D1.out.mono ?_; rintro e w' ⟨rfl, rfl⟩) | (go_at_call 82; refine D2.out.mono ?_; rintro e w' ⟨k2, k20, k21, rfl, rfl⟩) | (go_at_call 81; refine (PE_bad hE' _ (by omega)).mono ?_; rintro e w' ⟨⟨t, v, rfl⟩, rfl⟩))
              go_ret
              exact ⟨hk, pe, sq, ad, st', hblk, hst, by omega, F _ ⟨t, v, rfl⟩⟩
            | some q =>
              obtain ⟨v, k2⟩ := q
              have hvl := bsz_some hR2.byt hv
              rw [HL2.out] at hvl
              obtain ⟨v0, k20, kv, _⟩ := hvl
              have D2 := Lib.hid (CB_ok hR2 hv)
              have HF := Lib.hid (HHd.out.trans (hdv_bytes hv))
              have hvl := Lib.hid (bsz_len hR2.byt hv)
              obtain ⟨A3, hR3, hout3, hlo3, hcut3⟩ := hR2.cutFrom Tryd.und_bytes Tryd.size_byte .i64 (k2 + v) (by omega) (by omega)
              have hko := hout3 _ ho2
              have hll := hlo3 _ hl2'
              generalize bval (l'.drop k.toNat) v k2 = y at *
              clear hv hout3 hlo3
              have hat3 := hat.on (s'' := { st' with peer := y }) hr.byt hp0 HF.out (.inl (rstep_1 _ _ _))
              have HO := Own.lit wr 5 wr.heap.size [] (Nat.le_refl _) Byt.nil (by simp)
              have hka : Kp no wr (wr.alloc (.cells (nums .u8 []).toArray 5)) := (Kp.refl _ _).alloc _
              go_wp2_with (first | (go_at_call 80; refine D1.out.mono ?_; rintro e w' ⟨rfl, rfl⟩) | (go_at_call 82; refine D2.out.mono ?_; rintro e w' ⟨rfl, A4, rfl, hR4, _, _⟩) | (at_builtin; refine fresh_append wr.heap.size rfl (.tmp 67) (.tmp 68) 24 5 rfl Tryd.und_bytes Tryd.info_byte ⟨wr.heap.size, 0, none⟩ 0 y A4 v.toNat (c' - k.toNat - k2.toNat) rfl rfl HO (hR4.keepN hka) (by simp) (by omega) ?_; intro g1 c1 w2 hO1 hR5 hg1 hk2; have hk2N : Kp no wr w2 := hka.own HO (Nat.le_refl _) hk2; have hblk2 := hblk.keepN hk2N; have cc0 := hblk2.cell 0; have cf0 := hblk2.free 0))
              have hg1lt : g1 < w2.heap.size := (hO1.base g1 rfl).2
              have hkA : Kp (· = g) wr w2 := hk2N.mono (fun i _ h => h.elim)
              have hkB : Kp (· = g) w2 (w2.setCell ⟨g, 0, none⟩ (.slice (some ⟨g1, 0, none⟩) v.toNat c1)) := (Kp.refl (· = g) w2).setCell (p := ⟨g, 0, none⟩) (fun _ => rfl) _
              have hkC := hkA.trans hkB (fun _ _ h => h)
              have hkD := hk.trans hkC (fun _ _ h => h)
              have hblk3 := hblk2.set 0 (.slice (some ⟨g1, 0, none⟩) v.toNat c1)
              have hoff := hst.off g1 hg1 (by omega)
              have hsl3 : SlAt (w2.setCell ⟨g, 0, none⟩ (.slice (some ⟨g1, 0, none⟩) v.toNat c1)) (Sg g ad) (.slice (some ⟨g1, 0, none⟩) v.toNat c1) y := by
                refine ⟨some ⟨g1, 0, none⟩, c1, by rw [hvl.out], ?_, (fun a ha => by cases ha; exact hoff), (fun a ha => by cases ha; simpa using hg1lt), by rw [hvl.out]; omega⟩
                rw [hvl.out]
                exact hR5.keep hkB (fun a ha => by cases ha; show ¬ g1 = g; omega)
              have hst2 := hst.keep hkC (fun _ h => h) hglt
              have hst3 : RSt (w2.setCell ⟨g, 0, none⟩ (.slice (some ⟨g1, 0, none⟩) v.toNat c1)) w.heap.size g (.slice (some ⟨g1, 0, none⟩) v.toNat c1) sq ad { st' with peer := y } := ⟨hsl3, hst2.sq, hst2.ad⟩
              have hR6 := hR3.keep hkC hko
              clear hvl
              go_roundw
              case rel => exact ⟨A3, _, _, _, _, _, _, _, rfl, hR6, (by show st'.addrs.length + _ ≤ _; omega), hko, hll, hkD, hblk3, hst3, hat3⟩
              case measure => simp [lenOf]; omega
          · cases hv : rv 10 (l'.drop k.toNat) with
            | none =>
              have F := fun e => hat.bad (s'' := st') (e := e) hr.byt hp0 (.inl (by rw [HHd.out, hdv_num_none hv]))
              have D2 := Lib.hid (CV_bad hR2 hv)
              clear hv
              go_wp2_with (first | (go_at_call 80; refine D1.out.mono ?_; rintro e w' ⟨rfl, rfl⟩) | (go_at_call 83; refine D2.out.mono ?_; rintro e w' ⟨k2, k20, k21, rfl, rfl⟩) | (go_at_call 81; refine (PE_bad hE' _ (by omega)).mono ?_; rintro e w' ⟨⟨t, v, rfl⟩, rfl⟩))
              go_ret
              exact ⟨hk, pe, sq, ad, st', hblk, hst, by omega, F _ ⟨t, v, rfl⟩⟩
            | some q =>
              obtain ⟨v, k2⟩ := q
              have hu := rv_u64 hR2.byt hv
              have hvl := rv_len 10 _ v k2 hv
              rw [HL2.out] at hvl
              obtain ⟨k20, kv, _⟩ := hvl
              have D2 := Lib.hid (CV_ok hR2 hv)
              have hat3 := hat.on (s'' := { st' with seq := v }) hr.byt hp0 (HHd.out.trans (hdv_num hv)) (.inl (rstep_2 _ _ _))
              obtain ⟨A3, hR3, hout3, hlo3, hcut3⟩ := hR2.cutFrom Tryd.und_bytes Tryd.size_byte .i64 k2 (by omega) (by omega)
              have hko := hout3 _ ho2
              have hll := hlo3 _ hl2'
              have cc1 := hblk.cell 1
              have cf1 := hblk.free 1
              clear hv hout3 hlo3
              go_wp2_with (first | (go_at_call 80; refine D1.out.mono ?_; rintro e w' ⟨rfl, rfl⟩) | (go_at_call 83; refine D2.out.mono ?_; rintro e w' ⟨rfl, rfl⟩))
              have hkB : Kp (· = g) wr (wr.setCell ⟨g, 1, none⟩ (.int .u64 v)) := (Kp.refl (· = g) wr).setCell (p := ⟨g, 1, none⟩) (fun _ => rfl) _
              have hkD := hk.trans hkB (fun _ _ h => h)
              have hblk3 := hblk.set 1 (.int .u64 v)
              have hst2 := hst.keep hkB (fun _ h => h) hglt
              have hst3 : RSt (wr.setCell ⟨g, 1, none⟩ (.int .u64 v)) w.heap.size g pe (.int .u64 v) ad { st' with seq := v } := ⟨hst2.pe, rfl, hst2.ad⟩
              have hR6 := hR3.keep hkB hko
              go_roundw
              case rel => exact ⟨A3, _, _, _, _, _, _, _, rfl, hR6, (by show st'.addrs.length + _ ≤ _; omega), hko, hll, hkD, hblk3, hst3, hat3⟩
              case measure => simp [lenOf]; omega
          · cases hv : bsz (l'.drop k.toNat) with
            | none =>
              have F := fun e => hat.bad (s'' := st') (e := e) hr.byt hp0 (.inl (by rw [HHd.out, hdv_bytes_none hv]))
              have D2 := Lib.hid (CB_bad hR2 hv)
              clear hv
              go_wp2_with (first | (go_at_call 80; refine D1.out.mono ?_; rintro e w' ⟨rfl, rfl⟩) | (go_at_call 82; refine D2.out.mono ?_; rintro e w' ⟨k2, k20, k21, rfl, rfl⟩) | (go_at_call 81; refine (PE_bad hE' _ (by omega)).mono ?_; rintro e w' ⟨⟨t, v, rfl⟩, rfl⟩))
              go_ret
              exact ⟨hk, pe, sq, ad, st', hblk, hst, by omega, F _ ⟨t, v, rfl⟩⟩
            | some q =>
              obtain ⟨v, k2⟩ := q
              have hvl := bsz_some hR2.byt hv
              rw [HL2.out] at hvl
              obtain ⟨v0, k20, kv, _⟩ := hvl
              have D2 := Lib.hid (CB_ok hR2 hv)
              have HF := Lib.hid (HHd.out.trans (hdv_bytes hv))
              have hvl := Lib.hid (bsz_len hR2.byt hv)
              obtain ⟨A3, hR3, hout3, hlo3, hcut3⟩ := hR2.cutFrom Tryd.und_bytes Tryd.size_byte .i64 (k2 + v) (by omega) (by omega)
              have hko := hout3 _ ho2
              have hll := hlo3 _ hl2'
              generalize bval (l'.drop k.toNat) v k2 = y at *
              clear hv hout3 hlo3
              have hal : Kp no wr (wr.alloc (.cells #[.slice none 0 0] 102)) := (Kp.refl _ _).alloc _
              have hbk := Blk.new wr #[.slice none 0 0] 102
              have hEa := hEr.keepN hal
              go_wp2_with (first | (go_at_call 80; refine D1.out.mono ?_; rintro e w' ⟨rfl, rfl⟩) | (go_at_call 82; refine D2.out.mono ?_; rintro e w' ⟨rfl, A4, rfl, hR4, ho4, hl4⟩))
              have hl4' := hl4 _ hl2'
              have DA := Lib.hid (AUnmarshal_calls (hR4.keepN hal) (by omega) hEa.p hEa.n wr.heap.size 102 (by omega) hbk (fun a ha => by have := hl4' a ha; show ¬ _ = _; omega))
              refine DA.out.mono ?_
              rintro e w2 ⟨hkA, va, a, hbA, hslA, hfr, hFin⟩
              have hk2 : Kp no wr w2 := hal.trans hkA (fun i hi h => by omega)
              have hR6 := hR3.keepN hk2
              have hblk2 := hblk.keepN hk2
              have hst2 := hst.keepN hk2 hglt
              have hkD2 := hk.then hk2
              have hs2 := hk2.size
              have hbAlt := hbA.lt
              have hfe := hFin.end_
              have HFin := Lib.hid hFin
              clear hFin
              rcases hfe with rfl | ⟨te, ve, rfl⟩
              · have hat3 := hat.on (s'' := { st' with addrs := st'.addrs ++ [a] }) hr.byt hp0 HF.out (by rw [rstep_3]; exact addressed_nil HFin.out)
                have cc2 := hblk2.cell 2
                have hka2 : Kp no w2 (w2.alloc (.cells #[.pointer (some ⟨wr.heap.size, 0, none⟩)] 100)) := (Kp.refl _ _).alloc _
                have hcb := (Blk.new w2 #[.pointer (some ⟨wr.heap.size, 0, none⟩)] 100).cell 0
                have hV2 := hV.keepN (hk2.then hka2)
                have hbase : ∀ i, ad.ownBlock = some i → i < wr.heap.size := fun i hi => (hV.base i hi).2
                have hbaseB : ∀ i, ad.ownBlock = some i → w.heap.size ≤ i := fun i hi => (hV.base i hi).1
                have hbW := hbA.keepN hka2
                have hslW := hslA.keepN hka2
                have hfrW : Fresh wr.heap.size va := fun a n c h => by have := hfr a n c h; simp at this; omega
                have HusB := Lib.hid hbase
                have HusBB := Lib.hid hbaseB
                clear hbase hbaseB hfr
                rw [ead] at cc2
                have hul : us.length ≤ 1099511627776 := by have := HusL.out; omega
                go_wp2_with (first | (at_builtin; refine one_append w.heap.size rfl (.tmp 126) (.tmp 128) 97 100 rfl Tryd.und_pAddrs (.pointer none) 8 Tryd.info_pAddr rfl (by omega) ad us (.pointer (some ⟨wr.heap.size, 0, none⟩)) w2.heap.size ead.symm rfl hcb rfl hV2 (by simp; omega) hul ?_; intro A1 c1 w3 hV3 hk3 hw3; have hblk3 := (hblk2.keepN hka2).keep hk3 (fun h => by have := HusBB.out _ h; omega); have c3 := hblk3.cell 2; have cf3 := hblk3.free 2))
                have hkS : Kp (· = g) w3 (w3.setCell ⟨g, 2, none⟩ (.slice A1 (us.length + 1) c1)) := (Kp.refl (· = g) w3).setCell (p := ⟨g, 2, none⟩) (fun _ => rfl) _
                have hst3 := hst.more (hk2.then hka2) hbW hslW (Nat.le_refl _) hfrW hgs hPs HusB.out hV3 hk3 hw3 hkS hglt
                have hkW := hkD2.then hka2
                have hkV := hkW.trans hk3 (fun i hi h => by have h : ad.ownBlock = some i := h; exact absurd (HusBB.out i h) (by omega))
                have hkX : Kp (fun i => i = g ∨ ad.ownBlock = some i) wr _ := ((((hk2.then hka2).mono (fun _ _ h => h.elim)).trans hk3 (fun i hi h => .inr h)).trans hkS (fun i hi h => .inl h))
                have hkD := hkV.trans hkS (fun _ _ h => h)
                have hblk4 := hblk3.set 2 (.slice A1 (us.length + 1) c1)
                have hR7 := hR3.keep hkX (fun x hx h => by
                  rcases h with h | h
                  · exact hko x hx h
                  · have := hll x hx; have := HusBB.out _ h; omega)
                go_roundw
                case rel => exact ⟨A3, _, _, _, _, _, _, _, rfl, hR7, (by show (st'.addrs ++ [a]).length + _ ≤ _; rw [List.length_append]; simp only [List.length_cons, List.length_nil]; omega), hko, hll, hkD, hblk4, hst3, hat3⟩
                case measure => simp [lenOf]; omega
              · have FB := hat.badIn (s'' := st') (e := .returned (.iface te ve)) hr.byt hp0 HF.out (by rw [rstep_3]; exact addressed_bad HFin.out ⟨te, ve, rfl⟩) ⟨te, ve, rfl⟩
                go_wp2
                go_ret
                exact ⟨hkD2, pe, sq, ad, st', hblk2, hst2, by omega, FB⟩
          · have D2 := Lib.hid (CF_any hR2 f t)
            have HNE := Lib.hid (show ∀ v x, rstep st' ⟨f, t, v, x⟩ = .ok st' from fun v x => rstep_0 _ _ (by simp only; omega) (by simp only; omega) (by simp only; omega))
            rcases hother with ⟨rfl, hx⟩ | ⟨rfl, hx⟩ | ⟨rfl, hx⟩ | ⟨hx1, hx2, hx3⟩
            all_goals
              go_wp2_with (first | (go_at_call 80; refine D1.out.mono ?_; rintro e w' ⟨rfl, rfl⟩))
              refine D2.out.mono ?_
              rintro e w2 ⟨⟨k2, rfl, a2, b2, F2⟩, hk2⟩
              rw [HL2.out] at b2
              have F2H := Lib.hid F2
              clear F2
              have hk3 := hk.then hk2
              have hblk3 := hblk.keepN hk2
              have hst3 := hst.keepN hk2 hglt
              rcases Int.lt_or_le k2 0 with hneg | hk2p
              · have F := fun e => hat.bad (s'' := st') (e := e) hr.byt hp0 (by
                  rw [HHd.out]
                  by_cases h34 : t = 3 ∨ t = 4
                  · exact .inr (hdv_grp h34)
                  · have F2 := F2H.out (fun h => h34 (.inl h))
                    split at F2
                    · rename_i m hm
                      have := fval_le hR2.byt hm
                      omega
                    · rename_i hm
                      exact .inl (hdv_none h34 hm))
                have hE2 := hE'.keepN hk2
                clear hcut
                go_wp2_with (first | (go_at_call 81; refine (PE_bad hE2 _ (by omega)).mono ?_; rintro e w' ⟨⟨t, v, rfl⟩, rfl⟩))
                go_ret
                exact ⟨hk3, pe, sq, ad, st', hblk3, hst3, by omega, F _ ⟨_, _, rfl⟩⟩
              · obtain ⟨A3, hR3, hout3, hlo3, hcut3⟩ := (hR2.keepN hk2).cutFrom Tryd.und_bytes Tryd.size_byte .i64 k2 (by omega) (by omega)
                have hat3 : AtG rstep l ((l'.drop k.toNat).drop k2.toNat) RS.zero st' := by
                  by_cases h34 : t = 3 ∨ t = 4
                  · exact hat.opn hr.byt hp0 (HHd.out.trans (hdv_grp h34))
                  · have F2 := F2H.out (fun h => h34 (.inl h))
                    split at F2
                    · rename_i m hm
                      subst F2
                      exact hat.on hr.byt hp0 (HHd.out.trans (hdv_some h34 hm)) (.inl (HNE.out _ _))
                    · omega
                have hko := hout3 _ ho2
                have hll := hlo3 _ hl2'
                clear hcut D1 D2 hout3 hlo3
                go_wp2
                go_roundw
                case rel => exact ⟨A3, _, _, _, pe, sq, ad, st', rfl, hR3, by omega, hko, hll, hk3, hblk3, hst3, hat3⟩
                case measure => simp [lenOf]; omega
end Go.Proofs.YtipleaojejbkpaaDoor
