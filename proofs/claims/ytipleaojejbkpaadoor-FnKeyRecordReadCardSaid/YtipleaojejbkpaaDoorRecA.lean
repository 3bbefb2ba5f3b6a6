/- A record's message, plain; (*PeerRecord_AddressInfo).unmarshal walked. -/
import Derived.Test.YtipleaojejbkpaaDoorEnvA
namespace Go.Proofs.YtipleaojejbkpaaDoor
open Go Go.RowKit
set_option linter.unusedVariables false
set_option linter.unusedSimpArgs false
set_option maxRecDepth 100000

/-- An address: the last bytes count. -/
def astep (s : List Int) (f : Fld) : R3 (List Int) := if f.num = 1 ∧ f.kind = 2 then .ok f.data else .ok s
theorem astep_1 (s : List Int) (v : Int) (d : List Int) : astep s ⟨1, 2, v, d⟩ = .ok d := by simp [astep]
theorem astep_0 (s : List Int) (f : Fld) (h : ¬ (f.num = 1 ∧ f.kind = 2)) : astep s f = .ok s := by unfold astep; rw [if_neg h]
/-- A record: its ID, its number, its addresses. -/
structure RS where
  peer : List Int
  seq : Int
  addrs : List (List Int)
def RS.zero : RS := ⟨[], 0, []⟩
def addressed (s : RS) (r : R3 (List Int)) : R3 RS := match r with
  | .ok a => .ok { s with addrs := s.addrs ++ [a] }
  | .bad => .bad
  | .opn => .opn
def rstep (s : RS) (f : Fld) : R3 RS :=
  if f.num = 1 ∧ f.kind = 2 then .ok { s with peer := f.data } else if f.num = 2 ∧ f.kind = 0 then .ok { s with seq := f.val } else if f.num = 3 ∧ f.kind = 2 then addressed s (whole astep f.data []) else .ok s

/-- A slice that is new, or nil. -/
def Fresh (B : Nat) (v : Value) : Prop := ∀ a n c, v = .slice (some a) n c → B ≤ a.block
theorem Fresh.nil (B : Nat) : Fresh B (.slice none 0 0) := fun a n c h => by cases h
def AUO (w : World) (g : Nat) (T : TypeId) (l : List Int) (e : Ending) (w' : World) : Prop :=
  Kp (· = g) w w' ∧ ∃ v a, Blk w' g #[v] T ∧ SlAt w' (· = g) v a ∧ Fresh w.heap.size v ∧ FinG (whole astep l []) a e
structure ARel (w : World) (g : Nat) (T : TypeId) (l : List Int) (n : Nat) (A' : Option Addr) (n' c' : Nat) (l' : List Int) (v : Value) (st : List Int) (wr : World) : Prop where
  rd : Rd wr A' n' c' l'
  le : n' ≤ n
  out : Out (· = g) A'
  kp : Kp (· = g) w wr
  blk : Blk wr g #[v] T
  sl : SlAt wr (· = g) v st
  new : Fresh w.heap.size v
  at_ : AtG astep l l' [] st

set_option maxHeartbeats 4000000 in
theorem AUnmarshal_calls {w : World} {A : Option Addr} {n c : Nat} {l : List Int} (h : Rd w A n c l) (hn : n ≤ 1099511627776) (hE : PErrs w) (hN : IsErr w 0)
    (g : Nat) (T : TypeId) (hg : 10 ≤ g) (hb : Blk w g #[.slice none 0 0] T) (ho : Out (· = g) A) :
    Calls Tryd.prog 84 #[.pointer (some ⟨g, 0, none⟩), .slice A n c] w (AUO w g T l) := by
  have HI : ARel w g T l n A n c l (.slice none 0 0) [] w := ⟨h, Nat.le_refl _, ho, Kp.refl _ _, hb, SlAt.nil _ _, Fresh.nil _, AtG.start l []⟩
  clear h ho hb
  go_enter Tryd.func84, Tryd.ntmps84
  go_wp2
  go_loopw [1] (fun b wr => ∃ A' n' c' l' v st', b = .slice A' n' c' ∧ ARel w g T l n A' n' c' l' v st' wr) (fun b _ => lenOf b)
  case atStart => exact ⟨A, n, c, l, _, _, rfl, HI⟩
  case round =>
    obtain ⟨A', n', c', l', vv, st', rfl, hr, hn', hout, hk, hblk, hsl, hnew, hat⟩ := hrel
    have hl' := hr.len
    have hcap' := hr.cap
    have hmax' := hr.max
    have hE' := hE.keep hk (fun i hi he => by omega)
    obtain ⟨et, ev, hNe⟩ := hN.keep hk (by show ¬ _ = g; omega)
    by_cases h0 : n' = 0
    · subst h0
      have : l' = [] := List.eq_nil_of_length_eq_zero hl'
      subst this
      have F := hat.done
      clear hl'
      go_wp2
      go_ret
      exact ⟨hk, vv, st', hblk, hsl, hnew, F⟩
    · have hpos : (0 : Int) < (n' : Int) := by omega
      have hp0 : 0 < l'.length := by omega
      cases htag : tag l' with
      | none =>
        have F := fun e => hat.bad (s'' := st') (e := e) hr.byt hp0 (.inl (hd_none htag))
        have D1 := Lib.hid (CT_bad hr htag)
        clear hl' htag
        go_wp2_with (first | (go_at_call 80; refine D1.out.mono ?_; rintro e w' ⟨k, k0, k1, rfl, rfl⟩) | (go_at_call 81; refine (PE_bad hE' _ (by omega)).mono ?_; rintro e w' ⟨⟨t, v, rfl⟩, rfl⟩))
        go_ret
        exact ⟨hk, vv, st', hblk, hsl, hnew, F _ ⟨t, v, rfl⟩⟩
      | some p =>
        obtain ⟨f, t, k⟩ := p
        have hts := tag_some hr.byt htag
        rw [hl'] at hts
        obtain ⟨f0, f1, t0, t1, k0, k1, _⟩ := hts
        have D1 := Lib.hid (CT_ok hr htag)
        obtain ⟨A2, hR2, hout2, _, hcut⟩ := hr.cutFrom Tryd.und_bytes Tryd.size_byte .i64 k (by omega) (by omega)
        have ho2 := hout2 _ hout
        by_cases hf : 536870911 < f
        · have F := fun e => hat.bad (s'' := st') (e := e) hr.byt hp0 (.inl (hd_big htag hf))
          clear hl' htag hcut hR2 hout2
          go_wp2_with (first | (go_at_call 80; refine D1.out.mono ?_; rintro e w' ⟨rfl, rfl⟩))
          go_ret
          exact ⟨hk, vv, st', hblk, hsl, hnew, F _ ⟨_, _, rfl⟩⟩
        · have hl2 := hR2.len
          have hcap2 := hR2.cap
          have HH : hd l' = hdv f t (l'.drop k.toNat) := hd_of htag hf
          have HHd := Lib.hid HH
          have HL2 := Lib.hid hl2
          clear HH htag hl' hl2
          have hsplit : (f = 1 ∧ t = 2) ∨ (f = 1 ∧ ¬ t = 2) ∨ ¬ f = 1 := by omega
          rcases hsplit with ⟨rfl, rfl⟩ | hother
          · cases hv : bsz (l'.drop k.toNat) with
            | none =>
              have F := fun e => hat.bad (s'' := st') (e := e) hr.byt hp0 (.inl (by rw [HHd.out, hdv_bytes_none hv]))
              have D2 := Lib.hid (CB_bad hR2 hv)
              clear hv
              go_wp2_with (first | (go_at_call 80; refine D1.out.mono ?_; rintro e w' ⟨rfl, rfl⟩) | (go_at_call 82; refine D2.out.mono ?_; rintro e w' ⟨k2, k20, k21, rfl, rfl⟩) | (go_at_call 81; refine (PE_bad hE' _ (by omega)).mono ?_; rintro e w' ⟨⟨t, v, rfl⟩, rfl⟩))
              go_ret
              exact ⟨hk, vv, st', hblk, hsl, hnew, F _ ⟨t, v, rfl⟩⟩
            | some q =>
              obtain ⟨v, k2⟩ := q
              have hvl := bsz_some hR2.byt hv
              rw [HL2.out] at hvl
              obtain ⟨v0, k20, kv, _⟩ := hvl
              have D2 := Lib.hid (CB_ok hR2 hv)
              have hat3 := hat.on hr.byt hp0 (HHd.out.trans (hdv_bytes hv)) (.inl (astep_1 _ _ _))
              have hvl := Lib.hid (bsz_len hR2.byt hv)
              obtain ⟨A3, hR3, hout3, _, hcut3⟩ := hR2.cutFrom Tryd.und_bytes Tryd.size_byte .i64 (k2 + v) (by omega) (by omega)
              have hko := hout3 _ ho2
              generalize bval (l'.drop k.toNat) v k2 = y at *
              clear hv
              have HO := Own.lit wr 5 wr.heap.size [] (Nat.le_refl _) Byt.nil (by simp)
              have hka : Kp no wr (wr.alloc (.cells (nums .u8 []).toArray 5)) := (Kp.refl _ _).alloc _
              go_wp2_with (first | (go_at_call 80; refine D1.out.mono ?_; rintro e w' ⟨rfl, rfl⟩) | (go_at_call 82; refine D2.out.mono ?_; rintro e w' ⟨rfl, A4, rfl, hR4, _, _⟩) | (at_builtin; refine fresh_append wr.heap.size rfl (.tmp 45) (.tmp 46) 24 5 rfl Tryd.und_bytes Tryd.info_byte ⟨wr.heap.size, 0, none⟩ 0 y A4 v.toNat (c' - k.toNat - k2.toNat) rfl rfl HO (hR4.keepN hka) (by simp) (by omega) ?_; intro g1 c1 w2 hO1 hR5 hg1 hk2; have hk2N : Kp no wr w2 := hka.own HO (Nat.le_refl _) hk2; have hblk2 := hblk.keepN hk2N; have cc0 := hblk2.cell 0; have cf0 := hblk2.free 0))
              have hlt := hblk.lt
              have hg1w : w.heap.size ≤ g1 := by have := hk.size; omega
              have hg1lt : g1 < w2.heap.size := (hO1.base g1 rfl).2
              have hkA : Kp (· = g) wr w2 := hk2N.mono (fun i _ h => h.elim)
              have hkB : Kp (· = g) w2 (w2.setCell ⟨g, 0, none⟩ (.slice (some ⟨g1, 0, none⟩) v.toNat c1)) := (Kp.refl (· = g) w2).setCell (p := ⟨g, 0, none⟩) (fun _ => rfl) _
              have hkC := hkA.trans hkB (fun _ _ h => h)
              have hkD := hk.trans hkC (fun _ _ h => h)
              have hblk3 := hblk2.set 0 (.slice (some ⟨g1, 0, none⟩) v.toNat c1)
              have hsl3 : SlAt (w2.setCell ⟨g, 0, none⟩ (.slice (some ⟨g1, 0, none⟩) v.toNat c1)) (· = g) (.slice (some ⟨g1, 0, none⟩) v.toNat c1) y := by
                refine ⟨some ⟨g1, 0, none⟩, c1, by rw [hvl.out], ?_, (fun a ha => by cases ha; show ¬ g1 = g; omega), (fun a ha => by cases ha; simpa using hg1lt), by rw [hvl.out]; omega⟩
                rw [hvl.out]
                exact hR5.keep hkB (fun a ha => by cases ha; show ¬ g1 = g; omega)
              have hR6 := hR3.keep hkC hko
              clear hvl
              go_roundw
              case rel => exact ⟨A3, _, _, _, _, _, rfl, hR6, by omega, hko, hkD, hblk3, hsl3, (fun a n c h => by cases h; exact hg1w), hat3⟩
              case measure => simp [lenOf]; omega
          · have D2 := Lib.hid (CF_any hR2 f t)
            have HNE := Lib.hid (show ∀ v x, astep st' ⟨f, t, v, x⟩ = .ok st' from fun v x => astep_0 _ _ (by simp only; omega))
            rcases hother with ⟨rfl, hx⟩ | hx
            all_goals
              go_wp2_with (first | (go_at_call 80; refine D1.out.mono ?_; rintro e w' ⟨rfl, rfl⟩))
              refine D2.out.mono ?_
              rintro e w2 ⟨⟨k2, rfl, a2, b2, F2⟩, hk2⟩
              rw [HL2.out] at b2
              have F2H := Lib.hid F2
              clear F2
              have hk3 := hk.trans hk2 (fun i _ h => h.elim)
              have hblk3 := hblk.keepN hk2
              have hsl3 := hsl.keepN hk2
              rcases Int.lt_or_le k2 0 with hneg | hk2p
              · have F := fun e => hat.bad (s'' := st') (e := e) hr.byt hp0 (by
                  rw [HHd.out]
                  by_cases h34 : t = 3 ∨ t = 4
                  · exact .inr (hdv_grp h34)
                  · have F2 := F2H.out (fun h => h34 (.inl h))
                    split at F2
                    · rename_i m hm
                      have := fval_le hR2.byt hm
                      omega
                    · rename_i hm
                      exact .inl (hdv_none h34 hm))
                have hE2 := hE'.keepN hk2
                clear hcut
                go_wp2_with (first | (go_at_call 81; refine (PE_bad hE2 _ (by omega)).mono ?_; rintro e w' ⟨⟨t, v, rfl⟩, rfl⟩))
                go_ret
                exact ⟨hk3, vv, st', hblk3, hsl3, hnew, F _ ⟨_, _, rfl⟩⟩
              · obtain ⟨A3, hR3, hout3, _, hcut3⟩ := (hR2.keepN hk2).cutFrom Tryd.und_bytes Tryd.size_byte .i64 k2 (by omega) (by omega)
                have hat3 : AtG astep l ((l'.drop k.toNat).drop k2.toNat) [] st' := by
                  by_cases h34 : t = 3 ∨ t = 4
                  · exact hat.opn hr.byt hp0 (HHd.out.trans (hdv_grp h34))
                  · have F2 := F2H.out (fun h => h34 (.inl h))
                    split at F2
                    · rename_i m hm
                      subst F2
                      exact hat.on hr.byt hp0 (HHd.out.trans (hdv_some h34 hm)) (.inl (HNE.out _ _))
                    · omega
                have hko := hout3 _ ho2
                clear hcut D1 D2
                go_wp2
                go_roundw
                case rel => exact ⟨A3, _, _, _, vv, st', rfl, hR3, by omega, hko, hk3, hblk3, hsl3, hnew, hat3⟩
                case measure => simp [lenOf]; omega
end Go.Proofs.YtipleaojejbkpaaDoor
