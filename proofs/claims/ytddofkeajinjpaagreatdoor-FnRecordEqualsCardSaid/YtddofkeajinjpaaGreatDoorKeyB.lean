/- (*key).merge walked. -/
import Derived.Test.YtddofkeajinjpaaGreatDoorKeyA
namespace Go.Proofs.YtddofkeajinjpaaGreatDoor
open Go Go.RowKit
set_option linter.unusedVariables false
set_option linter.unusedSimpArgs false
set_option maxRecDepth 100000

/-- What merge leaves. -/
def KMg (w : World) (S : Nat → Prop) (g : Nat) (T : TypeId) (l : List Int) (st : KS) (e : Ending) (w' : World) : Prop :=
  Kp (· = g) w w' ∧ ∃ pt sl st', Blk w' g #[pt, sl] T ∧ KSt w' S pt sl st' ∧ Fin l st st' e

structure KRel (w : World) (S : Nat → Prop) (g : Nat) (T : TypeId) (l : List Int) (st : KS) (n : Nat) (A' : Option Addr) (n' c' : Nat) (l' : List Int) (pt sl : Value) (st' : KS) (wr : World) : Prop where
  rd : Rd wr A' n' c' l'
  le : n' ≤ n
  out : Out (· = g) A'
  kp : Kp (· = g) w wr
  blk : Blk wr g #[pt, sl] T
  kst : KSt wr S pt sl st'
  at_ : At l l' st st'

theorem Out.sub {S : Nat → Prop} {A A' : Option Addr} (h : Out S A) (k : ∀ S, Out S A → Out S A') : Out S A' := k S h

set_option maxHeartbeats 4000000 in
theorem kmerge_calls {w : World} {A : Option Addr} {n c : Nat} {l : List Int} (h : Rd w A n c l) (hn : n ≤ 1099511627776) (hE : PErrs w) (hN : IsErr w 11)
    (S : Nat → Prop) (g : Nat) (T : TypeId) (hg : 13 ≤ g) (hSg : S g) (hSl : ∀ i, S i → i < w.heap.size) (pt sl : Value) (st : KS) (hb : Blk w g #[pt, sl] T) (ho : Out (· = g) A) (hs : KSt w S pt sl st) :
    Calls Tryz.prog 58 #[.pointer (some ⟨g, 0, none⟩), .slice A n c] w (KMg w S g T l st) := by
  have HI : KRel w S g T l st n A n c l pt sl st w := ⟨h, Nat.le_refl _, ho, Kp.refl _ _, hb, hs, At.start l st⟩
  clear h ho hb hs
  go_enter Tryz.func58, Tryz.ntmps58
  go_wp2
  go_loopw [1] (fun b wr => ∃ A' n' c' l' pt' sl' st', b = .slice A' n' c' ∧ KRel w S g T l st n A' n' c' l' pt' sl' st' wr) (fun b _ => lenOf b)
  case atStart => exact ⟨A, n, c, l, pt, sl, st, rfl, HI⟩
  case round =>
    obtain ⟨A', n', c', l', pt', sl', st', rfl, hr, hn', hout, hk, hblk, hkst, hat⟩ := hrel
    have hl' := hr.len
    have hcap' := hr.cap
    have hmax' := hr.max
    have hE' := hE.keep hk (fun i hi he => by omega)
    obtain ⟨et, ev, hNe⟩ := hN.keep hk (by show ¬ _ = g; omega)
    by_cases h0 : n' = 0
    · subst h0
      have : l' = [] := List.eq_nil_of_length_eq_zero hl'
      subst this
      have F := hat.done
      clear hl'
      go_wp2
      go_ret
      exact ⟨hk, pt', sl', st', hblk, hkst, F⟩
    · have hpos : (0 : Int) < (n' : Int) := by omega
      have hp0 : 0 < l'.length := by omega
      cases htag : tag l' with
      | none =>
        have F := fun e => hat.bad (st'' := st') (e := e) hr.byt hp0 (.inl (hd_none htag))
        have D1 := Lib.hid (CT_bad hr htag)
        clear hl' htag
        go_wp2_with (first | (go_at_call 41; refine D1.out.mono ?_; rintro e w' ⟨k, k0, k1, rfl, rfl⟩) | (go_at_call 42; refine (PE_bad hE' _ (by omega)).mono ?_; rintro e w' ⟨⟨t, v, rfl⟩, rfl⟩))
        go_ret
        exact ⟨hk, pt', sl', st', hblk, hkst, F _ ⟨t, v, rfl⟩⟩
      | some p =>
        obtain ⟨f, t, k⟩ := p
        have hts := tag_some hr.byt htag
        rw [hl'] at hts
        obtain ⟨f0, f1, t0, t1, k0, k1, _⟩ := hts
        have D1 := Lib.hid (CT_ok hr htag)
        obtain ⟨A2, hR2, hout2, _, hcut⟩ := hr.cutFrom Tryz.und_bytes Tryz.size_byte .i64 k (by omega) (by omega)
        have ho2 := hout2 _ hout
        by_cases hf : 536870911 < f
        · have F := fun e => hat.bad (st'' := st') (e := e) hr.byt hp0 (.inl (hd_big htag hf))
          clear hl' htag hcut hR2 hout2
          go_wp2_with (first | (go_at_call 41; refine D1.out.mono ?_; rintro e w' ⟨rfl, rfl⟩))
          go_ret
          exact ⟨hk, pt', sl', st', hblk, hkst, F _ ⟨_, _, rfl⟩⟩
        · have hl2 := hR2.len
          have hcap2 := hR2.cap
          have HH : hd l' = hdv f t (l'.drop k.toNat) := hd_of htag hf
          have HHd := Lib.hid HH
          have HL2 := Lib.hid hl2
          clear HH htag hl' hl2
          have hsplit : (f = 1 ∧ t = 0) ∨ (f = 2 ∧ t = 2) ∨ ((f = 1 ∧ ¬ t = 0) ∨ (f = 2 ∧ ¬ t = 2) ∨ (¬ f = 1 ∧ ¬ f = 2)) := by omega
          rcases hsplit with ⟨rfl, rfl⟩ | ⟨rfl, rfl⟩ | hother
          · cases hv : rv 10 (l'.drop k.toNat) with
            | none =>
              have F := fun e => hat.bad (st'' := st') (e := e) hr.byt hp0 (.inl (by rw [HHd.out, hdv_num_none hv]))
              have D2 := Lib.hid (CV_bad hR2 hv)
              clear hv
              go_wp2_with (first | (go_at_call 41; refine D1.out.mono ?_; rintro e w' ⟨rfl, rfl⟩) | (go_at_call 55; refine D2.out.mono ?_; rintro e w' ⟨k2, k20, k21, rfl, rfl⟩) | (go_at_call 42; refine (PE_bad hE' _ (by omega)).mono ?_; rintro e w' ⟨⟨t, v, rfl⟩, rfl⟩))
              go_ret
              exact ⟨hk, pt', sl', st', hblk, hkst, F _ ⟨t, v, rfl⟩⟩
            | some q =>
              obtain ⟨v, k2⟩ := q
              have hu := rv_u64 hR2.byt hv
              have hvl := rv_len 10 _ v k2 hv
              rw [HL2.out] at hvl
              have D2 := Lib.hid (CV_ok hR2 hv)
              have hat3 := hat.step hr.byt hp0 (HHd.out.trans (hdv_num hv))
              have hk0 : kstep st' ⟨1, 0, v, []⟩ = (some (IntKind.i32.wrap v), st'.2) := by simp [kstep]
              rw [hk0] at hat3
              obtain ⟨A3, hR3, hout3, _, hcut3⟩ := hR2.cutFrom Tryz.und_bytes Tryz.size_byte .i64 k2 (by omega) (by omega)
              have hko := hout3 _ ho2
              clear hv hk0
              go_wp2_with (first | (go_at_call 41; refine D1.out.mono ?_; rintro e w' ⟨rfl, rfl⟩) | (go_at_call 55; refine D2.out.mono ?_; rintro e w' ⟨rfl, rfl⟩))
              refine (Enum_calls _).mono ?_
              rintro e w2 ⟨b, rfl, hbb, hcb, hk2⟩
              have hblk2 := hblk.keepN hk2
              have c0 := hblk2.cell 0
              have c1 := hblk2.free 0
              have hlt := hblk.lt
              have hkA : Kp (· = g) wr w2 := hk2.mono (fun i _ h => h.elim)
              have hkB : Kp (· = g) w2 (w2.setCell ⟨g, 0, none⟩ (.pointer (some ⟨b, 0, none⟩))) := (Kp.refl (· = g) w2).setCell (p := ⟨g, 0, none⟩) (fun _ => rfl) _
              have hkC := hkA.trans hkB (fun _ _ h => h)
              have hkD := hk.trans hkC (fun _ _ h => h)
              have hblk3 := hblk2.set 0 (.pointer (some ⟨b, 0, none⟩))
              rw [← IntWalk.i32_left] at hcb
              have hw := IntKind.wrap_i32 v
              have hpt : PtAt (w2.setCell ⟨g, 0, none⟩ (.pointer (some ⟨b, 0, none⟩))) S (.pointer (some ⟨b, 0, none⟩)) (some (IntKind.i32.wrap v)) :=
                ⟨b, rfl, (fun h => by have := hSl b h; have := hk.size; omega), hkB.cell hcb (by show ¬ b = g; omega), by rw [hw]; omega, by rw [hw]; omega⟩
              have hks3 : KSt (w2.setCell ⟨g, 0, none⟩ (.pointer (some ⟨b, 0, none⟩))) S (.pointer (some ⟨b, 0, none⟩)) sl' (some (IntKind.i32.wrap v), st'.2) := ⟨hpt, hkst.dt.keep hkC (fun i h => h ▸ hSg)⟩
              have hR4 := hR3.keep hkC hko
              clear hw hpt hR3 D1 D2 hcb
              go_wp2
              go_roundw
              case rel => exact ⟨A3, _, _, _, _, sl', _, rfl, hR4, by omega, hko, hkD, hblk3, hks3, hat3⟩
              case measure => simp [lenOf]; omega
          · cases hv : bsz (l'.drop k.toNat) with
            | none =>
              have F := fun e => hat.bad (st'' := st') (e := e) hr.byt hp0 (.inl (by rw [HHd.out, hdv_bytes_none hv]))
              have D2 := Lib.hid (CB_bad hR2 hv)
              clear hv
              go_wp2_with (first | (go_at_call 41; refine D1.out.mono ?_; rintro e w' ⟨rfl, rfl⟩) | (go_at_call 44; refine D2.out.mono ?_; rintro e w' ⟨k2, k20, k21, rfl, rfl⟩) | (go_at_call 42; refine (PE_bad hE' _ (by omega)).mono ?_; rintro e w' ⟨⟨t, v, rfl⟩, rfl⟩))
              go_ret
              exact ⟨hk, pt', sl', st', hblk, hkst, F _ ⟨t, v, rfl⟩⟩
            | some q =>
              obtain ⟨v, k2⟩ := q
              have hvl := bsz_some hR2.byt hv
              rw [HL2.out] at hvl
              obtain ⟨v0, k20, kv, _⟩ := hvl
              have D2 := Lib.hid (CB_ok hR2 hv)
              have hat3 := hat.step hr.byt hp0 (HHd.out.trans (hdv_bytes hv))
              have hk0 : ∀ x, kstep st' ⟨2, 2, 0, x⟩ = (st'.1, some x) := fun x => by simp [kstep]
              rw [hk0] at hat3
              have hvl := Lib.hid (bsz_len hR2.byt hv)
              obtain ⟨A3, hR3, hout3, _, hcut3⟩ := hR2.cutFrom Tryz.und_bytes Tryz.size_byte .i64 (k2 + v) (by omega) (by omega)
              have hko := hout3 _ ho2
              generalize bval (l'.drop k.toNat) v k2 = y at *
              clear hv hk0
              have HO := Own.lit wr 5 wr.heap.size [] (Nat.le_refl _) Byt.nil (by simp)
              have hka : Kp no wr (wr.alloc (.cells (nums .u8 []).toArray 5)) := (Kp.refl _ _).alloc _
              go_wp2_with (first | (go_at_call 41; refine D1.out.mono ?_; rintro e w' ⟨rfl, rfl⟩) | (go_at_call 44; refine D2.out.mono ?_; rintro e w' ⟨rfl, A4, rfl, hR4, _, _⟩) | (at_builtin; refine fresh_append wr.heap.size rfl (.tmp 85) (.tmp 86) 28 5 rfl Tryz.und_bytes Tryz.info_byte ⟨wr.heap.size, 0, none⟩ 0 y A4 v.toNat (c' - k.toNat - k2.toNat) rfl rfl HO (hR4.keepN hka) (by simp) (by omega) ?_; intro g1 c1 w2 hO1 hR5 hg1 hk2; have hk2N : Kp no wr w2 := hka.own HO (Nat.le_refl _) hk2; have hblk2 := hblk.keepN hk2N; have cc1 := hblk2.cell 1; have cf1 := hblk2.free 1))
              have hlt := hblk.lt
              have hkA : Kp (· = g) wr w2 := hk2N.mono (fun i _ h => h.elim)
              have hkB : Kp (· = g) w2 (w2.setCell ⟨g, 1, none⟩ (.slice (some ⟨g1, 0, none⟩) v.toNat c1)) := (Kp.refl (· = g) w2).setCell (p := ⟨g, 1, none⟩) (fun _ => rfl) _
              have hkC := hkA.trans hkB (fun _ _ h => h)
              have hkD := hk.trans hkC (fun _ _ h => h)
              have hblk3 := hblk2.set 1 (.slice (some ⟨g1, 0, none⟩) v.toNat c1)
              have hdt : DtAt (w2.setCell ⟨g, 1, none⟩ (.slice (some ⟨g1, 0, none⟩) v.toNat c1)) S (.slice (some ⟨g1, 0, none⟩) v.toNat c1) (some y) := by
                refine ⟨g1, 0, c1, by rw [hvl.out], (fun h => by have := hSl g1 h; have := hk.size; omega), by have := (hO1.base g1 rfl).2; simpa using this, by rw [hvl.out]; omega, ?_⟩
                rw [hvl.out]
                exact hR5.keep hkB (fun a ha => by cases ha; show ¬ g1 = g; omega)
              have hks3 : KSt (w2.setCell ⟨g, 1, none⟩ (.slice (some ⟨g1, 0, none⟩) v.toNat c1)) S pt' (.slice (some ⟨g1, 0, none⟩) v.toNat c1) (st'.1, some y) := ⟨hkst.pt.keep hkC (fun i h => h ▸ hSg), hdt⟩
              have hR6 := hR3.keep hkC hko
              go_roundw
              case rel => exact ⟨A3, _, _, _, pt', _, _, rfl, hR6, by omega, hko, hkD, hblk3, hks3, hat3⟩
              case measure => simp [lenOf]; omega
          · have D2 := Lib.hid (CF_any hR2 f t)
            have hne : ∀ v x, kstep st' ⟨f, t, v, x⟩ = st' := by
              intro v x
              unfold kstep
              rw [if_neg (by simp only; omega), if_neg (by simp only; omega)]
            have HNE := Lib.hid hne
            clear hne
            rcases hother with ⟨rfl, hx⟩ | ⟨rfl, hx⟩ | ⟨hx, hy⟩
            all_goals
              go_wp2_with (first | (go_at_call 41; refine D1.out.mono ?_; rintro e w' ⟨rfl, rfl⟩))
              refine D2.out.mono ?_
              rintro e w2 ⟨⟨k2, rfl, a2, b2, F2⟩, hk2⟩
              rw [HL2.out] at b2
              have F2H := Lib.hid F2
              clear F2
              have hk3 := hk.trans hk2 (fun i _ h => h.elim)
              have hblk3 := hblk.keepN hk2
              have hkst3 := hkst.keepN hk2
              rcases Int.lt_or_le k2 0 with hneg | hk2p
              · have F := fun e => hat.bad (st'' := st') (e := e) hr.byt hp0 (by
                  rw [HHd.out]
                  by_cases h34 : t = 3 ∨ t = 4
                  · exact .inr (hdv_grp h34)
                  · have F2 := F2H.out (fun h => h34 (.inl h))
                    split at F2
                    · rename_i m hm
                      have := fval_le hR2.byt hm
                      omega
                    · rename_i hm
                      exact .inl (hdv_none h34 hm))
                have hE2 := hE'.keepN hk2
                clear hcut
                go_wp2_with (first | (go_at_call 42; refine (PE_bad hE2 _ (by omega)).mono ?_; rintro e w' ⟨⟨t, v, rfl⟩, rfl⟩))
                go_ret
                exact ⟨hk3, pt', sl', st', hblk3, hkst3, F _ ⟨_, _, rfl⟩⟩
              · obtain ⟨A3, hR3, hout3, _, hcut3⟩ := (hR2.keepN hk2).cutFrom Tryz.und_bytes Tryz.size_byte .i64 k2 (by omega) (by omega)
                have hat3 : At l ((l'.drop k.toNat).drop k2.toNat) st st' := by
                  by_cases h34 : t = 3 ∨ t = 4
                  · exact hat.opn hr.byt hp0 (HHd.out.trans (hdv_grp h34))
                  · have F2 := F2H.out (fun h => h34 (.inl h))
                    split at F2
                    · rename_i m hm
                      subst F2
                      have := hat.step hr.byt hp0 (HHd.out.trans (hdv_some h34 hm))
                      rwa [HNE.out] at this
                    · omega
                have hko := hout3 _ ho2
                clear hcut D1 D2
                go_wp2
                go_roundw
                case rel => exact ⟨A3, _, _, _, pt', sl', st', rfl, hR3, by omega, hko, hk3, hblk3, hkst3, hat3⟩
                case measure => simp [lenOf]; omega
end Go.Proofs.YtddofkeajinjpaaGreatDoor
