/- Rows of one's own, one cell an element; append of one element. A record's message, plain; (*PeerRecord_AddressInfo).unmarshal walked. (*PeerRecord).Unmarshal walked. (*PeerRecord).Unmarshal walked. -/
import Derived.Test.YtipleaojejbkpaaDoorAppend
import Derived.Test.YtipleaojejbkpaaDoorEnvA
namespace Go.Proofs.YtipleaojejbkpaaDoor
open Go Go.RowKit
set_option linter.unusedVariables false
set_option linter.unusedSimpArgs false
set_option maxRecDepth 100000

/-- A row of one's own: one cell an element. -/
structure VOwn (w : World) (e : TypeId) (B : Nat) (v : Value) (us : List Value) : Prop where
  row : w.ownsRow B e 1 v us.length us
theorem VOwn.nil (w : World) (e : TypeId) (B : Nat) : VOwn w e B (.slice none 0 0) [] := ⟨⟨rfl, .inl ⟨rfl, rfl⟩⟩⟩
theorem VOwn.base {w : World} {e : TypeId} {B : Nat} {v : Value} {us : List Value} (h : VOwn w e B v us) (k : Nat) (hk : v.ownBlock = some k) : B ≤ k ∧ k < w.heap.size := h.row.lt k hk
theorem VOwn.mono {w : World} {e : TypeId} {B B' : Nat} {v : Value} {us : List Value} (h : VOwn w e B v us) (hb : B' ≤ B) : VOwn w e B' v us := by
  refine ⟨⟨h.row.1, ?_⟩⟩
  rcases h.row.2 with h2 | ⟨g, cap, cur, hv, hg, r⟩
  · exact .inl h2
  · exact .inr ⟨g, cap, cur, hv, by omega, r⟩
theorem VOwn.keep {w w' : World} {S : Nat → Prop} {e : TypeId} {B : Nat} {v : Value} {us : List Value} (h : VOwn w e B v us) (k : Kp S w w') (hs : ∀ i, v.ownBlock = some i → ¬ S i) : VOwn w' e B v us := by
  refine ⟨⟨h.row.1, ?_⟩⟩
  rcases h.row.2 with h2 | ⟨g, cap, cur, hv, hg, hh, r⟩
  · exact .inl h2
  · exact .inr ⟨g, cap, cur, hv, hg, (k.block g (Array.getElem?_eq_some_iff.1 hh).1 (hs g (by rw [hv]; rfl))).trans hh, r⟩
theorem VOwn.keepN {w w' : World} {e : TypeId} {B : Nat} {v : Value} {us : List Value} (h : VOwn w e B v us) (k : Kp no w w') : VOwn w' e B v us := h.keep k (fun _ _ h => h)
theorem VOwn.form {w : World} {e : TypeId} {B : Nat} {v : Value} {us : List Value} (h : VOwn w e B v us) : ∃ A c, v = .slice A us.length c ∧ us.length ≤ c ∧ c ≤ 9223372036854775807 ∧ (0 < us.length → ∃ g, A = some ⟨g, 0, none⟩ ∧ ∀ j (hj : j < us.length), w.cell? ⟨g, j, none⟩ = some us[j]) := by
  rcases h.row.2 with ⟨rfl, h0⟩ | ⟨g, cap, cur, hv, hb, hh, hnc, hcm, hsz, ht⟩
  · exact ⟨none, 0, by rw [h0], by omega, by omega, fun hp => absurd hp (by omega)⟩
  · simp only [maxLen] at hcm
    refine ⟨_, _, hv, hnc, by omega, fun hp => ⟨g, rfl, fun j hj => ?_⟩⟩
    rw [cell_of_row w g _ cur e (0, 0) hh]
    have h2 : us[j]? = cur.toList[j]? := by rw [← ht, List.getElem?_take, if_pos (by omega)]
    rw [List.getElem?_eq_getElem hj] at h2
    simpa using h2.symm

section
variable {P : Program} {ops : Array Oper} {rest : List Oper} {o : Oper} {a : Act} {Q : Exit → Act → World → Prop}
/-- 'append(v, u)', behind 'at_builtin'; u lies in a new block of its own. -/
theorem one_append {W : World} (B : Nat) (hgd : o.guard = none) (s x : Operand) (t e : TypeId)
    (ho : o.op = .call { callee := .builtin .append, args := #[s, x], argTypes := #[t, t] })
    (ht : P.underlying t = some (.slice e)) (z : Value) (by_ : Nat) (hinfo : (P.info? e).map (fun i => (i.zero, i.size, i.bytes)) = some (some z, 1, by_)) (hz : z.cells.size = 1) (hby : by_ ≤ 24)
    (v : Value) (us : List Value) (u : Value) (b0 : Nat) (hs : a.eval s = v) (hx : a.eval x = .slice (some ⟨b0, 0, none⟩) 1 1) (hc : W.cell? ⟨b0, 0, none⟩ = some u) (h1 : u.oneCell' = true)
    (HO : VOwn W e B v us) (hB : B ≤ W.heap.size) (hl : us.length ≤ 1099511627776)
    (h : ∀ A1 c1 w1, VOwn w1 e B (.slice A1 (us.length + 1) c1) (us ++ [u]) → Kp (Of v) W w1 → Went W v (.slice A1 (us.length + 1) c1) → wpList P ops Q rest (a.put o.dst (.slice A1 (us.length + 1) c1)) w1) :
    wpList P ops Q (o :: rest) a W := by
  obtain ⟨i0, hi, hzz⟩ := Option.map_eq_some_iff.1 hinfo
  simp only [Prod.mk.injEq] at hzz
  obtain ⟨hz0, hz1, hz2⟩ := hzz
  have hcells : ∀ j u', [u][j]? = some u' → W.cell? ((⟨b0, 0, none⟩ : Addr).add j) = some u' := by
    intro j u' hu
    cases j with
    | zero =>
      have ha : (⟨b0, 0, none⟩ : Addr).add 0 = ⟨b0, 0, none⟩ := by unfold Addr.add; split <;> simp_all
      rw [ha, hc]; simpa using hu
    | succ j => simp at hu
  obtain ⟨v1, w1, hr, h2, h3, h4, h5⟩ := run_append_own_at (P := P) W B t o.type e i0 z 1 by_ ht hi hz0 hz1 hz2 hz (by omega) v us.length us HO.row ⟨b0, 0, none⟩ 1 1 [u] rfl hcells
    (by intro u' hu; simp only [List.mem_cons, List.not_mem_nil, or_false] at hu; rw [hu]; exact h1) (by simp only [maxLen]; omega)
    (Nat.le_trans (Nat.mul_le_mul_left _ hby) (by omega)) hB
  refine wpList_plain hgd fun K hK => ?_
  unfold Oper.wp execOp
  simp only [ho, resolve, invoke, builtin, Sem.run_bind, Sem.run_pure, Result.andThen_ok, List.map_toArray, List.map_cons, List.map_nil, hs, hx, hr]
  obtain ⟨A1, c1, rfl⟩ : ∃ A1 c1, v1 = .slice A1 (us.length + 1) c1 := by
    rcases h2.2 with ⟨rfl, h0⟩ | ⟨g, cap, cur, rfl, _⟩
    · omega
    · exact ⟨_, _, rfl⟩
  exact hK _ _ (h A1 c1 w1 ⟨by simpa using h2⟩ ((Kp.refl _ _).grown h3 fun k hk _ => hk) (h5.imp_right fun h => ⟨_, h, Nat.le_refl _⟩))
end
end Go.Proofs.YtipleaojejbkpaaDoor
namespace Go.Proofs.YtipleaojejbkpaaDoor
open Go Go.RowKit
set_option linter.unusedVariables false
set_option linter.unusedSimpArgs false
set_option maxRecDepth 100000

/-- An address: the last bytes count. -/
def astep (s : List Int) (f : Fld) : R3 (List Int) := if f.num = 1 ∧ f.kind = 2 then .ok f.data else .ok s
theorem astep_1 (s : List Int) (v : Int) (d : List Int) : astep s ⟨1, 2, v, d⟩ = .ok d := by simp [astep]
theorem astep_0 (s : List Int) (f : Fld) (h : ¬ (f.num = 1 ∧ f.kind = 2)) : astep s f = .ok s := by unfold astep; rw [if_neg h]
/-- A record: its ID, its number, its addresses. -/
structure RS where
  peer : List Int
  seq : Int
  addrs : List (List Int)
def RS.zero : RS := ⟨[], 0, []⟩
def addressed (s : RS) (r : R3 (List Int)) : R3 RS := match r with
  | .ok a => .ok { s with addrs := s.addrs ++ [a] }
  | .bad => .bad
  | .opn => .opn
def rstep (s : RS) (f : Fld) : R3 RS :=
  if f.num = 1 ∧ f.kind = 2 then .ok { s with peer := f.data } else if f.num = 2 ∧ f.kind = 0 then .ok { s with seq := f.val } else if f.num = 3 ∧ f.kind = 2 then addressed s (whole astep f.data []) else .ok s

/-- A slice that is new, or nil. -/
def Fresh (B : Nat) (v : Value) : Prop := ∀ a n c, v = .slice (some a) n c → B ≤ a.block
theorem Fresh.nil (B : Nat) : Fresh B (.slice none 0 0) := fun a n c h => by cases h
def AUO (w : World) (g : Nat) (T : TypeId) (l : List Int) (e : Ending) (w' : World) : Prop :=
  Kp (· = g) w w' ∧ ∃ v a, Blk w' g #[v] T ∧ SlAt w' (· = g) v a ∧ Fresh w.heap.size v ∧ FinG (whole astep l []) a e
structure ARel (w : World) (g : Nat) (T : TypeId) (l : List Int) (n : Nat) (A' : Option Addr) (n' c' : Nat) (l' : List Int) (v : Value) (st : List Int) (wr : World) : Prop where
  rd : Rd wr A' n' c' l'
  le : n' ≤ n
  out : Out (· = g) A'
  kp : Kp (· = g) w wr
  blk : Blk wr g #[v] T
  sl : SlAt wr (· = g) v st
  new : Fresh w.heap.size v
  at_ : AtG astep l l' [] st

set_option maxHeartbeats 4000000 in
theorem AUnmarshal_calls {w : World} {A : Option Addr} {n c : Nat} {l : List Int} (h : Rd w A n c l) (hn : n ≤ 1099511627776) (hE : PErrs w) (hN : IsErr w 0)
    (g : Nat) (T : TypeId) (hg : 10 ≤ g) (hb : Blk w g #[.slice none 0 0] T) (ho : Out (· = g) A) :
    Calls Tryd.prog 84 #[.pointer (some ⟨g, 0, none⟩), .slice A n c] w (AUO w g T l) := by
  have HI : ARel w g T l n A n c l (.slice none 0 0) [] w := ⟨h, Nat.le_refl _, ho, Kp.refl _ _, hb, SlAt.nil _ _, Fresh.nil _, AtG.start l []⟩
  clear h ho hb
  go_enter Tryd.func84, Tryd.ntmps84
  go_wp2
  go_loopw [1] (fun b wr => ∃ A' n' c' l' v st', b = .slice A' n' c' ∧ ARel w g T l n A' n' c' l' v st' wr) (fun b _ => lenOf b)
  case atStart => exact ⟨A, n, c, l, _, _, rfl, HI⟩
  case round =>
    obtain ⟨A', n', c', l', vv, st', rfl, hr, hn', hout, hk, hblk, hsl, hnew, hat⟩ := hrel
    have hl' := hr.len
    have hcap' := hr.cap
    have hmax' := hr.max
    have hE' := hE.keep hk (fun i hi he => by omega)
    obtain ⟨et, ev, hNe⟩ := hN.keep hk (by show ¬ _ = g; omega)
    by_cases h0 : n' = 0
    · subst h0
      have : l' = [] := List.eq_nil_of_length_eq_zero hl'
      subst this
      have F := hat.done
      clear hl'
      go_wp2
      go_ret
      exact ⟨hk, vv, st', hblk, hsl, hnew, F⟩
    · have hpos : (0 : Int) < (n' : Int) := by omega
      have hp0 : 0 < l'.length := by omega
      cases htag : tag l' with
      | none =>
        have F := fun e => hat.bad (s'' := st') (e := e) hr.byt hp0 (.inl (hd_none htag))
        have D1 := Lib.hid (CT_bad hr htag)
        clear hl' htag
        go_wp2_with (first | (go_at_call 80; refine D1.out.mono ?_; rintro e w' ⟨k, k0, k1, rfl, rfl⟩) | (go_at_call 81; refine (PE_bad hE' _ (by omega)).mono ?_; rintro e w' ⟨⟨t, v, rfl⟩, rfl⟩))
        go_ret
        exact ⟨hk, vv, st', hblk, hsl, hnew, F _ ⟨t, v, rfl⟩⟩
      | some p =>
        obtain ⟨f, t, k⟩ := p
        have hts := tag_some hr.byt htag
        rw [hl'] at hts
        obtain ⟨f0, f1, t0, t1, k0, k1, _⟩ := hts
        have D1 := Lib.hid (CT_ok hr htag)
        obtain ⟨A2, hR2, hout2, _, hcut⟩ := hr.cutFrom Tryd.und_bytes Tryd.size_byte .i64 k (by omega) (by omega)
        have ho2 := hout2 _ hout
        by_cases hf : 536870911 < f
        · have F := fun e => hat.bad (s'' := st') (e := e) hr.byt hp0 (.inl (hd_big htag hf))
          clear hl' htag hcut hR2 hout2
          go_wp2_with (first | (go_at_call 80; refine D1.out.mono ?_; rintro e w' ⟨rfl, rfl⟩))
          go_ret
          exact ⟨hk, vv, st', hblk, hsl, hnew, F _ ⟨_, _, rfl⟩⟩
        · have hl2 := hR2.len
          have hcap2 := hR2.cap
          have HH : hd l' = hdv f t (l'.drop k.toNat) := hd_of htag hf
          have HHd := Lib.hid HH
          have HL2 := Lib.hid hl2
          clear HH htag hl' hl2
          have hsplit : (f = 1 ∧ t = 2) ∨ (f = 1 ∧ ¬ t = 2) ∨ ¬ f = 1 := by omega
          rcases hsplit with ⟨rfl, rfl⟩ | hother
          · cases hv : bsz (l'.drop k.toNat) with
            | none =>
              have F := fun e => hat.bad (s'' := st') (e := e) hr.byt hp0 (.inl (by rw [HHd.out, hdv_bytes_none hv]))
              have D2 := Lib.hid (CB_bad hR2 hv)
              clear hv
              go_wp2_with (first | (go_at_call 80; refine D1.out.mono ?_; rintro e w' ⟨rfl, rfl⟩) | (go_at_call 82; refine D2.out.mono ?_; rintro e w' ⟨k2, k20, k21, rfl, rfl⟩) | (go_at_call 81; refine (PE_bad hE' _ (by omega)).mono ?_; rintro e w' ⟨⟨t, v, rfl⟩, rfl⟩))
              go_ret
              exact ⟨hk, vv, st', hblk, hsl, hnew, F _ ⟨t, v, rfl⟩⟩
            | some q =>
              obtain ⟨v, k2⟩ := q
              have hvl := bsz_some hR2.byt hv
              rw [HL2.out] at hvl
              obtain ⟨v0, k20, kv, _⟩ := hvl
              have D2 := Lib.hid (CB_ok hR2 hv)
              have hat3 := hat.on hr.byt hp0 (HHd.out.trans (hdv_bytes hv)) (.inl (astep_1 _ _ _))
              have hvl := Lib.hid (bsz_len hR2.byt hv)
              obtain ⟨A3, hR3, hout3, _, hcut3⟩ := hR2.cutFrom Tryd.und_bytes Tryd.size_byte .i64 (k2 + v) (by omega) (by omega)
              have hko := hout3 _ ho2
              generalize bval (l'.drop k.toNat) v k2 = y at *
              clear hv
              have HO := Own.lit wr 5 wr.heap.size [] (Nat.le_refl _) Byt.nil (by simp)
              have hka : Kp no wr (wr.alloc (.cells (nums .u8 []).toArray 5)) := (Kp.refl _ _).alloc _
              go_wp2_with (first | (go_at_call 80; refine D1.out.mono ?_; rintro e w' ⟨rfl, rfl⟩) | (go_at_call 82; refine D2.out.mono ?_; rintro e w' ⟨rfl, A4, rfl, hR4, _, _⟩) | (at_builtin; refine fresh_append wr.heap.size rfl (.tmp 45) (.tmp 46) 24 5 rfl Tryd.und_bytes Tryd.info_byte ⟨wr.heap.size, 0, none⟩ 0 y A4 v.toNat (c' - k.toNat - k2.toNat) rfl rfl HO (hR4.keepN hka) (by simp) (by omega) ?_; intro g1 c1 w2 hO1 hR5 hg1 hk2; have hk2N : Kp no wr w2 := hka.own HO (Nat.le_refl _) hk2; have hblk2 := hblk.keepN hk2N; have cc0 := hblk2.cell 0; have cf0 := hblk2.free 0))
              have hlt := hblk.lt
              have hg1w : w.heap.size ≤ g1 := by have := hk.size; omega
              have hg1lt : g1 < w2.heap.size := (hO1.base g1 rfl).2
              have hkA : Kp (· = g) wr w2 := hk2N.mono (fun i _ h => h.elim)
              have hkB : Kp (· = g) w2 (w2.setCell ⟨g, 0, none⟩ (.slice (some ⟨g1, 0, none⟩) v.toNat c1)) := (Kp.refl (· = g) w2).setCell (p := ⟨g, 0, none⟩) (fun _ => rfl) _
              have hkC := hkA.trans hkB (fun _ _ h => h)
              have hkD := hk.trans hkC (fun _ _ h => h)
              have hblk3 := hblk2.set 0 (.slice (some ⟨g1, 0, none⟩) v.toNat c1)
              have hsl3 : SlAt (w2.setCell ⟨g, 0, none⟩ (.slice (some ⟨g1, 0, none⟩) v.toNat c1)) (· = g) (.slice (some ⟨g1, 0, none⟩) v.toNat c1) y := by
                refine ⟨some ⟨g1, 0, none⟩, c1, by rw [hvl.out], ?_, (fun a ha => by cases ha; show ¬ g1 = g; omega), (fun a ha => by cases ha; simpa using hg1lt), by rw [hvl.out]; omega⟩
                rw [hvl.out]
                exact hR5.keep hkB (fun a ha => by cases ha; show ¬ g1 = g; omega)
              have hR6 := hR3.keep hkC hko
              clear hvl
              go_roundw
              case rel => exact ⟨A3, _, _, _, _, _, rfl, hR6, by omega, hko, hkD, hblk3, hsl3, (fun a n c h => by cases h; exact hg1w), hat3⟩
              case measure => simp [lenOf]; omega
          · have D2 := Lib.hid (CF_any hR2 f t)
            have HNE := Lib.hid (show ∀ v x, astep st' ⟨f, t, v, x⟩ = .ok st' from fun v x => astep_0 _ _ (by simp only; omega))
            rcases hother with ⟨rfl, hx⟩ | hx
            all_goals
              go_wp2_with (first | (go_at_call 80; refine D1.out.mono ?_; rintro e w' ⟨rfl, rfl⟩))
              refine D2.out.mono ?_
              rintro e w2 ⟨⟨k2, rfl, a2, b2, F2⟩, hk2⟩
              rw [HL2.out] at b2
              have F2H := Lib.hid F2
              clear F2
              have hk3 := hk.trans hk2 (fun i _ h => h.elim)
              have hblk3 := hblk.keepN hk2
              have hsl3 := hsl.keepN hk2
              rcases Int.lt_or_le k2 0 with hneg | hk2p
              · have F := fun e => hat.bad (s'' := st') (e := e) hr.byt hp0 (by
                  rw [HHd.out]
                  by_cases h34 : t = 3 ∨ t = 4
                  · exact .inr (hdv_grp h34)
                  · have F2 := F2H.out (fun h => h34 (.inl h))
                    split at F2
                    · rename_i m hm
                      have := fval_le hR2.byt hm
                      omega
                    · rename_i hm
                      exact .inl (hdv_none h34 hm))
                have hE2 := hE'.keepN hk2
                clear hcut
                go_wp2_with (first | (go_at_call 81; refine (PE_bad hE2 _ (by omega)).mono ?_; rintro e w' ⟨⟨t, v, rfl⟩, rfl⟩))
                go_ret
                exact ⟨hk3, vv, st', hblk3, hsl3, hnew, F _ ⟨_, _, rfl⟩⟩
              · obtain ⟨A3, hR3, hout3, _, hcut3⟩ := (hR2.keepN hk2).cutFrom Tryd.und_bytes Tryd.size_byte .i64 k2 (by omega) (by omega)
                have hat3 : AtG astep l ((l'.drop k.toNat).drop k2.toNat) [] st' := by
                  by_cases h34 : t = 3 ∨ t = 4
                  · exact hat.opn hr.byt hp0 (HHd.out.trans (hdv_grp h34))
                  · have F2 := F2H.out (fun h => h34 (.inl h))
                    split at F2
                    · rename_i m hm
                      subst F2
                      exact hat.on hr.byt hp0 (HHd.out.trans (hdv_some h34 hm)) (.inl (HNE.out _ _))
                    · omega
                have hko := hout3 _ ho2
                clear hcut D1 D2
                go_wp2
                go_roundw
                case rel => exact ⟨A3, _, _, _, vv, st', rfl, hR3, by omega, hko, hk3, hblk3, hsl3, hnew, hat3⟩
                case measure => simp [lenOf]; omega
end Go.Proofs.YtipleaojejbkpaaDoor
namespace Go.Proofs.YtipleaojejbkpaaDoor
open Go Go.RowKit
set_option linter.unusedVariables false
set_option linter.unusedSimpArgs false
set_option maxRecDepth 100000

theorem rstep_1 (s : RS) (v : Int) (d : List Int) : rstep s ⟨1, 2, v, d⟩ = .ok { s with peer := d } := by simp [rstep]
theorem rstep_2 (s : RS) (v : Int) (d : List Int) : rstep s ⟨2, 0, v, d⟩ = .ok { s with seq := v } := by simp [rstep]
theorem rstep_3 (s : RS) (v : Int) (d : List Int) : rstep s ⟨3, 2, v, d⟩ = addressed s (whole astep d []) := by simp [rstep]
theorem rstep_0 (s : RS) (f : Fld) (h1 : ¬ (f.num = 1 ∧ f.kind = 2)) (h2 : ¬ (f.num = 2 ∧ f.kind = 0)) (h3 : ¬ (f.num = 3 ∧ f.kind = 2)) : rstep s f = .ok s := by unfold rstep; rw [if_neg h1, if_neg h2, if_neg h3]
theorem addressed_nil {s : RS} {y a : List Int} (h : FinG (whole astep y []) a (.returned .nilIface)) : addressed s (whole astep y []) = .ok { s with addrs := s.addrs ++ [a] } ∨ addressed s (whole astep y []) = .opn := by
  unfold FinG at h
  generalize whole astep y [] = r at h ⊢
  cases r with
  | ok b => obtain ⟨_, rfl⟩ := h; exact .inl rfl
  | bad => exact (bad_not_nil h rfl).elim
  | opn => exact .inr rfl
theorem addressed_bad {s : RS} {y a : List Int} {e : Ending} (h : FinG (whole astep y []) a e) (he : Bad e) : addressed s (whole astep y []) = .bad ∨ addressed s (whole astep y []) = .opn := by
  unfold FinG at h
  generalize whole astep y [] = r at h ⊢
  cases r with
  | ok b => exact (bad_not_nil he h.1).elim
  | bad => exact .inl rfl
  | opn => exact .inr rfl

/-- An address that is pointed at. -/
def PAt (w : World) (S : Nat → Prop) (u : Value) (l : List Int) : Prop := ∃ ga sl, u = .pointer (some ⟨ga, 0, none⟩) ∧ ¬ S ga ∧ Blk w ga #[sl] 102 ∧ SlAt w S sl l
theorem PAt.keep {w w' : World} {S R : Nat → Prop} {u : Value} {l : List Int} (h : PAt w S u l) (k : Kp R w w') (hr : ∀ i, R i → i < w.heap.size → S i) : PAt w' S u l := by
  obtain ⟨ga, sl, h1, h2, h3, h4⟩ := h
  exact ⟨ga, sl, h1, h2, h3.keep k (fun h => h2 (hr _ h h3.lt)), h4.keep k hr⟩
theorem PAt.mono {w : World} {S S' : Nat → Prop} {u : Value} {l : List Int} (h : PAt w S u l) (hr : ∀ i, i < w.heap.size → S' i → S i) : PAt w S' u l := by
  obtain ⟨ga, sl, h1, h2, h3, h4⟩ := h
  exact ⟨ga, sl, h1, fun h => h2 (hr _ h3.lt h), h3, h4.mono hr⟩
def PsAt (w : World) (S : Nat → Prop) : List Value → List (List Int) → Prop
  | [], [] => True
  | u :: us, l :: ls => PAt w S u l ∧ PsAt w S us ls
  | _, _ => False
theorem PsAt.keep {w w' : World} {S R : Nat → Prop} (k : Kp R w w') (hr : ∀ i, R i → i < w.heap.size → S i) : ∀ {us : List Value} {ls : List (List Int)}, PsAt w S us ls → PsAt w' S us ls
  | [], [], _ => trivial
  | _ :: _, _ :: _, h => ⟨h.1.keep k hr, PsAt.keep k hr h.2⟩
  | [], _ :: _, h => h.elim
  | _ :: _, [], h => h.elim
theorem PsAt.mono {w : World} {S S' : Nat → Prop} (hr : ∀ i, i < w.heap.size → S' i → S i) : ∀ {us : List Value} {ls : List (List Int)}, PsAt w S us ls → PsAt w S' us ls
  | [], [], _ => trivial
  | _ :: _, _ :: _, h => ⟨h.1.mono hr, PsAt.mono hr h.2⟩
  | [], _ :: _, h => h.elim
  | _ :: _, [], h => h.elim
theorem PsAt.snoc {w : World} {S : Nat → Prop} {u : Value} {l : List Int} (hu : PAt w S u l) : ∀ {us : List Value} {ls : List (List Int)}, PsAt w S us ls → PsAt w S (us ++ [u]) (ls ++ [l])
  | [], [], _ => ⟨hu, trivial⟩
  | _ :: _, _ :: _, h => ⟨h.1, PsAt.snoc hu h.2⟩
  | [], _ :: _, h => h.elim
  | _ :: _, [], h => h.elim
theorem PsAt.len {w : World} {S : Nat → Prop} : ∀ {us : List Value} {ls : List (List Int)}, PsAt w S us ls → us.length = ls.length
  | [], [], _ => rfl
  | _ :: _, _ :: _, h => congrArg (· + 1) (PsAt.len h.2)
  | [], _ :: _, h => h.elim
  | _ :: _, [], h => h.elim
theorem PsAt.get {w : World} {S : Nat → Prop} : ∀ {us : List Value} {ls : List (List Int)}, PsAt w S us ls → ∀ j (hj : j < us.length), PAt w S us[j] (ls.getD j [])
  | [], [], _ => fun j hj => absurd hj (by simp)
  | _ :: _, _ :: _, h => fun j hj => by
    cases j with
    | zero => exact h.1
    | succ j => exact PsAt.get h.2 j (by simpa using hj)
  | [], _ :: _, h => h.elim
  | _ :: _, [], h => h.elim
/-- The record's block, and the row of its addresses. -/
def Sg (g : Nat) (ad : Value) (i : Nat) : Prop := i = g ∨ ad.ownBlock = some i
structure RSt (w : World) (B g : Nat) (pe sq ad : Value) (st : RS) : Prop where
  pe : SlAt w (Sg g ad) pe st.peer
  sq : sq = .int .u64 st.seq
  ad : ∃ us, VOwn w 100 B ad us ∧ PsAt w (Sg g ad) us st.addrs
theorem RSt.keep {w w' : World} {R : Nat → Prop} {B g : Nat} {pe sq ad : Value} {st : RS} (h : RSt w B g pe sq ad st) (k : Kp R w w') (hr : ∀ i, R i → i = g) (hg : g < B) : RSt w' B g pe sq ad st := by
  obtain ⟨us, h1, h2⟩ := h.ad
  exact ⟨h.pe.keep k (fun i hi _ => .inl (hr i hi)), h.sq, us, h1.keep k (fun i hi hR => by have := hr i hR; have := (h1.base i hi).1; omega), h2.keep k (fun i hi _ => .inl (hr i hi))⟩
theorem RSt.keepN {w w' : World} {B g : Nat} {pe sq ad : Value} {st : RS} (h : RSt w B g pe sq ad st) (k : Kp no w w') (hg : g < B) : RSt w' B g pe sq ad st := h.keep k (fun _ h => h.elim) hg
theorem RSt.zero (w : World) (B g : Nat) : RSt w B g (.slice none 0 0) (.int .u64 0) (.slice none 0 0) RS.zero := ⟨SlAt.nil _ _, rfl, [], VOwn.nil _ _ _, trivial⟩

/-- The place is none of the record's. -/
theorem RSt.off {w : World} {B g : Nat} {pe sq ad : Value} {st : RS} (h : RSt w B g pe sq ad st) (i : Nat) (hi : w.heap.size ≤ i) (hg : i ≠ g) : ¬ Sg g ad i := by
  obtain ⟨us, h1, _⟩ := h.ad
  rintro (h | h)
  · exact hg h
  · have := (h1.base i h).2; omega

/-- One more address: its block 'ga' is new since 'w', so are its bytes; the row went on from 'W'. -/
theorem RSt.more {w W w1 w2 : World} {B g ga : Nat} {pe sq ad v1 v : Value} {st : RS} {a : List Int} {us : List Value} (h : RSt w B g pe sq ad st) (k : Kp no w W)
    (hb : Blk W ga #[v] 102) (hsl : SlAt W (· = ga) v a) (hga : w.heap.size ≤ ga) (hf : Fresh w.heap.size v) (hg : g < w.heap.size)
    (hps : PsAt w (Sg g ad) us st.addrs) (hbase : ∀ i, ad.ownBlock = some i → i < w.heap.size)
    (hv : VOwn w1 100 B v1 (us ++ [.pointer (some ⟨ga, 0, none⟩)])) (k1 : Kp (Of ad) W w1) (hw : Went W ad v1)
    (k2 : Kp (· = g) w1 w2) (hgB : g < B) : RSt w2 B g pe sq v1 { st with addrs := st.addrs ++ [a] } := by
  have hs := k.size
  have hwent : ∀ i, i < W.heap.size → v1.ownBlock = some i → ad.ownBlock = some i := by
    intro i hi h
    rcases hw with hw | ⟨b, hw, hbb⟩
    · rw [← hw]; exact h
    · rw [hw] at h; injection h with h; omega
  have hm : ∀ i, i < W.heap.size → (Sg g ad i ∨ Sg g v1 i) → Sg g ad i := by
    intro i hi h
    rcases h with h | h | h
    · exact h
    · exact .inl h
    · exact .inr (hwent i hi h)
  have hkr : ∀ i, Of ad i → i < W.heap.size → (Sg g ad i ∨ Sg g v1 i) := fun i hi _ => .inl (.inr hi)
  have hsub : ∀ i, i < w1.heap.size → Sg g v1 i → (Sg g ad i ∨ Sg g v1 i) := fun i _ h => .inr h
  have hgk : ∀ i, i = g → i < w1.heap.size → Sg g v1 i := fun i hi _ => .inl hi
  refine ⟨((((h.pe.keepN k).mono hm).keep k1 hkr).mono hsub).keep k2 hgk, h.sq, us ++ [.pointer (some ⟨ga, 0, none⟩)], hv.keep k2 (fun i hi hR => by have := (hv.base i hi).1; have hR : i = g := hR; omega), PsAt.snoc ?_ (((((hps.keep k (fun _ h _ => h.elim)).mono hm).keep k1 hkr).mono hsub).keep k2 hgk)⟩
  have hnew : ∀ i, w.heap.size ≤ i → i < W.heap.size → ¬ (Sg g ad i ∨ Sg g v1 i) := by
    intro i hi hi2 h
    rcases hm i hi2 h with h | h
    · omega
    · have := hbase i h; omega
  have hp : PAt W (fun i => Sg g ad i ∨ Sg g v1 i) (.pointer (some ⟨ga, 0, none⟩)) a := by
    refine ⟨ga, v, rfl, hnew ga hga hb.lt, hb, ?_⟩
    obtain ⟨A, c, rfl, hR, hO, hL, hn⟩ := hsl
    exact ⟨A, c, rfl, hR, fun x hx => hnew _ (hf x _ _ (by rw [hx])) (hL x hx), hL, hn⟩
  exact ((hp.keep k1 hkr).mono hsub).keep k2 hgk

def RUO (w : World) (g : Nat) (T : TypeId) (l : List Int) (e : Ending) (w' : World) : Prop :=
  Kp (· = g) w w' ∧ ∃ pe sq ad st, Blk w' g #[pe, sq, ad] T ∧ RSt w' w.heap.size g pe sq ad st ∧ st.addrs.length ≤ l.length ∧ FinG (whole rstep l RS.zero) st e
structure RRel (w : World) (g : Nat) (T : TypeId) (l : List Int) (n : Nat) (A' : Option Addr) (n' c' : Nat) (l' : List Int) (pe sq ad : Value) (st : RS) (wr : World) : Prop where
  rd : Rd wr A' n' c' l'
  le : st.addrs.length + n' ≤ n
  out : Out (· = g) A'
  lo : Lo w.heap.size A'
  kp : Kp (· = g) w wr
  blk : Blk wr g #[pe, sq, ad] T
  rst : RSt wr w.heap.size g pe sq ad st
  at_ : AtG rstep l l' RS.zero st

theorem Tryd.und_pAddrs : Tryd.prog.underlying 97 = some (.slice 100) := by kernel_rfl
theorem Tryd.info_pAddr : (Tryd.prog.info? 100).map (fun i => (i.zero, i.size, i.bytes)) = some (some (.pointer none), 1, 8) := by kernel_rfl
end Go.Proofs.YtipleaojejbkpaaDoor
namespace Go.Proofs.YtipleaojejbkpaaDoor
open Go Go.RowKit
set_option linter.unusedVariables false
set_option linter.unusedSimpArgs false
set_option maxRecDepth 100000

/-- What a record's reading names. -/
structure RErrs (w : World) : Prop where
  p : PErrs w
  n : IsErr w 0
  sz : 10 ≤ w.heap.size
theorem RErrs.keepN {w w' : World} (h : RErrs w) (k : Kp no w w') : RErrs w' := ⟨h.p.keepN k, h.n.keepN k, Nat.le_trans h.sz k.size⟩
theorem RErrs.keep {w w' : World} {g : Nat} (h : RErrs w) (k : Kp (· = g) w w') (hg : 10 ≤ g) : RErrs w' :=
  ⟨h.p.keep k (fun i hi he => by omega), h.n.keep k (by show ¬ _ = g; omega), Nat.le_trans h.sz k.size⟩

set_option maxHeartbeats 8000000 in
theorem RUnmarshal_calls {w : World} {A : Option Addr} {n c : Nat} {l : List Int} (h : Rd w A n c l) (hn : n ≤ 1099511627776) (hE : RErrs w)
    (g : Nat) (T : TypeId) (hg : 10 ≤ g) (v0 v1 v2 : Value) (hb : Blk w g #[v0, v1, v2] T) (ho : Out (· = g) A) (hlo : Lo w.heap.size A) :
    Calls Tryd.prog 64 #[.pointer (some ⟨g, 0, none⟩), .slice A n c] w (RUO w g T l) := by
  have hglt := hb.lt
  have hLL : l.length = n := h.len
  obtain rfl := hLL
  have f0 := hb.free 0
  have f1 := hb.free 1
  have f2 := hb.free 2
  have z0 := hb.cell 0
  have z1 := hb.cell 1
  have z2 := hb.cell 2
  have kz : Kp (· = g) w (((w.setCell ⟨g, 0, none⟩ (.slice none 0 0)).setCell ⟨g, 1, none⟩ (.int .u64 0)).setCell ⟨g, 2, none⟩ (.slice none 0 0)) :=
    (((Kp.refl (· = g) w).setCell (p := ⟨g, 0, none⟩) (fun _ => rfl) _).setCell (p := ⟨g, 1, none⟩) (fun _ => rfl) _).setCell (p := ⟨g, 2, none⟩) (fun _ => rfl) _
  have bz := ((hb.set 0 (.slice none 0 0)).set 1 (.int .u64 0)).set 2 (.slice none 0 0)
  have HI : RRel w g T l l.length A l.length c l (.slice none 0 0) (.int .u64 0) (.slice none 0 0) RS.zero _ := ⟨h.keep kz ho, by simp [RS.zero], ho, hlo, kz, bz, RSt.zero _ _ g, AtG.start l RS.zero⟩
  clear h ho hb bz
  go_enter Tryd.func64, Tryd.ntmps64
  go_wp2
  go_loopw [1] (fun b wr => ∃ A' n' c' l' pe sq ad st', b = .slice A' n' c' ∧ RRel w g T l l.length A' n' c' l' pe sq ad st' wr) (fun b _ => lenOf b)
  case atStart => exact ⟨A, _, c, l, _, _, _, _, rfl, HI⟩
  case round =>
    obtain ⟨A', n', c', l', pe, sq, ad, st', rfl, hr, hn', hout, hloA, hk, hblk, hst, hat⟩ := hrel
    have hl' := hr.len
    have hcap' := hr.cap
    have hmax' := hr.max
    have hEr := hE.keep hk hg
    obtain ⟨et, ev, hNe⟩ := hEr.n
    have hE' := hEr.p
    have hgs := hblk.lt
    have hks := hk.size
    obtain ⟨pe0, pe1, pe2, epe⟩ := hst.pe.form
    have esq := hst.sq
    obtain ⟨us, hV, hPs⟩ := hst.ad
    obtain ⟨Aad, cad, ead, _, _, _⟩ := hV.form
    have HusL := Lib.hid hPs.len
    by_cases h0 : n' = 0
    · subst h0
      have : l' = [] := List.eq_nil_of_length_eq_zero hl'
      subst this
      have F0 := hat.done
      clear hl'
      go_wp2
      go_ret
      exact ⟨hk, pe, sq, ad, st', hblk, hst, by omega, F0⟩
    · have hpos : (0 : Int) < (n' : Int) := by omega
      have hp0 : 0 < l'.length := by omega
      cases htag : tag l' with
      | none =>
        have F := fun e => hat.bad (s'' := st') (e := e) hr.byt hp0 (.inl (hd_none htag))
        have D1 := Lib.hid (CT_bad hr htag)
        clear hl' htag
        go_wp2_with (first | (go_at_call 80; refine D1.out.mono ?_; rintro e w' ⟨k, k0, k1, rfl, rfl⟩) | (go_at_call 81; refine (PE_bad hE' _ (by omega)).mono ?_; rintro e w' ⟨⟨t, v, rfl⟩, rfl⟩))
        go_ret
        exact ⟨hk, pe, sq, ad, st', hblk, hst, by omega, F _ ⟨t, v, rfl⟩⟩
      | some p =>
        obtain ⟨f, t, k⟩ := p
        have hts := tag_some hr.byt htag
        rw [hl'] at hts
        obtain ⟨f0, f1, t0, t1, k0, k1, _⟩ := hts
        have D1 := Lib.hid (CT_ok hr htag)
        obtain ⟨A2, hR2, hout2, hlo2, hcut⟩ := hr.cutFrom Tryd.und_bytes Tryd.size_byte .i64 k (by omega) (by omega)
        have ho2 := hout2 _ hout
        have hl2' := hlo2 _ hloA
        by_cases hf : 536870911 < f
        · have F := fun e => hat.bad (s'' := st') (e := e) hr.byt hp0 (.inl (hd_big htag hf))
          clear hl' htag hcut hR2 hout2 hlo2
          go_wp2_with (first | (go_at_call 80; refine D1.out.mono ?_; rintro e w' ⟨rfl, rfl⟩))
          go_ret
          exact ⟨hk, pe, sq, ad, st', hblk, hst, by omega, F _ ⟨_, _, rfl⟩⟩
        · have hl2 := hR2.len
          have hcap2 := hR2.cap
          have HH : hd l' = hdv f t (l'.drop k.toNat) := hd_of htag hf
          have HHd := Lib.hid HH
          have HL2 := Lib.hid hl2
          clear HH htag hl' hl2 hout2 hlo2
          have hsplit : (f = 1 ∧ t = 2) ∨ (f = 2 ∧ t = 0) ∨ (f = 3 ∧ t = 2) ∨ ((f = 1 ∧ ¬ t = 2) ∨ (f = 2 ∧ ¬ t = 0) ∨ (f = 3 ∧ ¬ t = 2) ∨ (¬ f = 1 ∧ ¬ f = 2 ∧ ¬ f = 3)) := by omega
          rcases hsplit with ⟨rfl, rfl⟩ | ⟨rfl, rfl⟩ | ⟨rfl, rfl⟩ | hother
          · cases hv : bsz (l'.drop k.toNat) with
            | none =>
              have F := fun e => hat.bad (s'' := st') (e := e) hr.byt hp0 (.inl (by rw [HHd.out, hdv_bytes_none hv]))
              have D2 := Lib.hid (CB_bad hR2 hv)
              clear hv
              go_wp2_with (first | (go_at_call 80; refine D1.out.mono ?_; rintro e w' ⟨rfl, rfl⟩) | (go_at_call 82; refine D2.out.mono ?_; rintro e w' ⟨k2, k20, k21, rfl, rfl⟩) | (go_at_call 81; refine (PE_bad hE' _ (by omega)).mono ?_; rintro e w' ⟨⟨t, v, rfl⟩, rfl⟩))
              go_ret
              exact ⟨hk, pe, sq, ad, st', hblk, hst, by omega, F _ ⟨t, v, rfl⟩⟩
            | some q =>
              obtain ⟨v, k2⟩ := q
              have hvl := bsz_some hR2.byt hv
              rw [HL2.out] at hvl
              obtain ⟨v0, k20, kv, _⟩ := hvl
              have D2 := Lib.hid (CB_ok hR2 hv)
              have HF := Lib.hid (HHd.out.trans (hdv_bytes hv))
              have hvl := Lib.hid (bsz_len hR2.byt hv)
              obtain ⟨A3, hR3, hout3, hlo3, hcut3⟩ := hR2.cutFrom Tryd.und_bytes Tryd.size_byte .i64 (k2 + v) (by omega) (by omega)
              have hko := hout3 _ ho2
              have hll := hlo3 _ hl2'
              generalize bval (l'.drop k.toNat) v k2 = y at *
              clear hv hout3 hlo3
              have hat3 := hat.on (s'' := { st' with peer := y }) hr.byt hp0 HF.out (.inl (rstep_1 _ _ _))
              have HO := Own.lit wr 5 wr.heap.size [] (Nat.le_refl _) Byt.nil (by simp)
              have hka : Kp no wr (wr.alloc (.cells (nums .u8 []).toArray 5)) := (Kp.refl _ _).alloc _
              go_wp2_with (first | (go_at_call 80; refine D1.out.mono ?_; rintro e w' ⟨rfl, rfl⟩) | (go_at_call 82; refine D2.out.mono ?_; rintro e w' ⟨rfl, A4, rfl, hR4, _, _⟩) | (at_builtin; refine fresh_append wr.heap.size rfl (.tmp 67) (.tmp 68) 24 5 rfl Tryd.und_bytes Tryd.info_byte ⟨wr.heap.size, 0, none⟩ 0 y A4 v.toNat (c' - k.toNat - k2.toNat) rfl rfl HO (hR4.keepN hka) (by simp) (by omega) ?_; intro g1 c1 w2 hO1 hR5 hg1 hk2; have hk2N : Kp no wr w2 := hka.own HO (Nat.le_refl _) hk2; have hblk2 := hblk.keepN hk2N; have cc0 := hblk2.cell 0; have cf0 := hblk2.free 0))
              have hg1lt : g1 < w2.heap.size := (hO1.base g1 rfl).2
              have hkA : Kp (· = g) wr w2 := hk2N.mono (fun i _ h => h.elim)
              have hkB : Kp (· = g) w2 (w2.setCell ⟨g, 0, none⟩ (.slice (some ⟨g1, 0, none⟩) v.toNat c1)) := (Kp.refl (· = g) w2).setCell (p := ⟨g, 0, none⟩) (fun _ => rfl) _
              have hkC := hkA.trans hkB (fun _ _ h => h)
              have hkD := hk.trans hkC (fun _ _ h => h)
              have hblk3 := hblk2.set 0 (.slice (some ⟨g1, 0, none⟩) v.toNat c1)
              have hoff := hst.off g1 hg1 (by omega)
              have hsl3 : SlAt (w2.setCell ⟨g, 0, none⟩ (.slice (some ⟨g1, 0, none⟩) v.toNat c1)) (Sg g ad) (.slice (some ⟨g1, 0, none⟩) v.toNat c1) y := by
                refine ⟨some ⟨g1, 0, none⟩, c1, by rw [hvl.out], ?_, (fun a ha => by cases ha; exact hoff), (fun a ha => by cases ha; simpa using hg1lt), by rw [hvl.out]; omega⟩
                rw [hvl.out]
                exact hR5.keep hkB (fun a ha => by cases ha; show ¬ g1 = g; omega)
              have hst2 := hst.keep hkC (fun _ h => h) hglt
              have hst3 : RSt (w2.setCell ⟨g, 0, none⟩ (.slice (some ⟨g1, 0, none⟩) v.toNat c1)) w.heap.size g (.slice (some ⟨g1, 0, none⟩) v.toNat c1) sq ad { st' with peer := y } := ⟨hsl3, hst2.sq, hst2.ad⟩
              have hR6 := hR3.keep hkC hko
              clear hvl
              go_roundw
              case rel => exact ⟨A3, _, _, _, _, _, _, _, rfl, hR6, (by show st'.addrs.length + _ ≤ _; omega), hko, hll, hkD, hblk3, hst3, hat3⟩
              case measure => simp [lenOf]; omega
          · cases hv : rv 10 (l'.drop k.toNat) with
            | none =>
              have F := fun e => hat.bad (s'' := st') (e := e) hr.byt hp0 (.inl (by rw [HHd.out, hdv_num_none hv]))
              have D2 := Lib.hid (CV_bad hR2 hv)
              clear hv
              go_wp2_with (first | (go_at_call 80; refine D1.out.mono ?_; rintro e w' ⟨rfl, rfl⟩) | (go_at_call 83; refine D2.out.mono ?_; rintro e w' ⟨k2, k20, k21, rfl, rfl⟩) | (go_at_call 81; refine (PE_bad hE' _ (by omega)).mono ?_; rintro e w' ⟨⟨t, v, rfl⟩, rfl⟩))
              go_ret
              exact ⟨hk, pe, sq, ad, st', hblk, hst, by omega, F _ ⟨t, v, rfl⟩⟩
            | some q =>
              obtain ⟨v, k2⟩ := q
              have hu := rv_u64 hR2.byt hv
              have hvl := rv_len 10 _ v k2 hv
              rw [HL2.out] at hvl
              obtain ⟨k20, kv, _⟩ := hvl
              have D2 := Lib.hid (CV_ok hR2 hv)
              have hat3 := hat.on (s'' := { st' with seq := v }) hr.byt hp0 (HHd.out.trans (hdv_num hv)) (.inl (rstep_2 _ _ _))
              obtain ⟨A3, hR3, hout3, hlo3, hcut3⟩ := hR2.cutFrom Tryd.und_bytes Tryd.size_byte .i64 k2 (by omega) (by omega)
              have hko := hout3 _ ho2
              have hll := hlo3 _ hl2'
              have cc1 := hblk.cell 1
              have cf1 := hblk.free 1
              clear hv hout3 hlo3
              go_wp2_with (first | (go_at_call 80; refine D1.out.mono ?_; rintro e w' ⟨rfl, rfl⟩) | (go_at_call 83; refine D2.out.mono ?_; rintro e w' ⟨rfl, rfl⟩))
              have hkB : Kp (· = g) wr (wr.setCell ⟨g, 1, none⟩ (.int .u64 v)) := (Kp.refl (· = g) wr).setCell (p := ⟨g, 1, none⟩) (fun _ => rfl) _
              have hkD := hk.trans hkB (fun _ _ h => h)
              have hblk3 := hblk.set 1 (.int .u64 v)
              have hst2 := hst.keep hkB (fun _ h => h) hglt
              have hst3 : RSt (wr.setCell ⟨g, 1, none⟩ (.int .u64 v)) w.heap.size g pe (.int .u64 v) ad { st' with seq := v } := ⟨hst2.pe, rfl, hst2.ad⟩
              have hR6 := hR3.keep hkB hko
              go_roundw
              case rel => exact ⟨A3, _, _, _, _, _, _, _, rfl, hR6, (by show st'.addrs.length + _ ≤ _; omega), hko, hll, hkD, hblk3, hst3, hat3⟩
              case measure => simp [lenOf]; omega
          · cases hv : bsz (l'.drop k.toNat) with
            | none =>
              have F := fun e => hat.bad (s'' := st') (e := e) hr.byt hp0 (.inl (by rw [HHd.out, hdv_bytes_none hv]))
              have D2 := Lib.hid (CB_bad hR2 hv)
              clear hv
              go_wp2_with (first | (go_at_call 80; refine D1.out.mono ?_; rintro e w' ⟨rfl, rfl⟩) | (go_at_call 82; refine D2.out.mono ?_; rintro e w' ⟨k2, k20, k21, rfl, rfl⟩) | (go_at_call 81; refine (PE_bad hE' _ (by omega)).mono ?_; rintro e w' ⟨⟨t, v, rfl⟩, rfl⟩))
              go_ret
              exact ⟨hk, pe, sq, ad, st', hblk, hst, by omega, F _ ⟨t, v, rfl⟩⟩
            | some q =>
              obtain ⟨v, k2⟩ := q
              have hvl := bsz_some hR2.byt hv
              rw [HL2.out] at hvl
              obtain ⟨v0, k20, kv, _⟩ := hvl
              have D2 := Lib.hid (CB_ok hR2 hv)
              have HF := Lib.hid (HHd.out.trans (hdv_bytes hv))
              have hvl := Lib.hid (bsz_len hR2.byt hv)
              obtain ⟨A3, hR3, hout3, hlo3, hcut3⟩ := hR2.cutFrom Tryd.und_bytes Tryd.size_byte .i64 (k2 + v) (by omega) (by omega)
              have hko := hout3 _ ho2
              have hll := hlo3 _ hl2'
              generalize bval (l'.drop k.toNat) v k2 = y at *
              clear hv hout3 hlo3
              have hal : Kp no wr (wr.alloc (.cells #[.slice none 0 0] 102)) := (Kp.refl _ _).alloc _
              have hbk := Blk.new wr #[.slice none 0 0] 102
              have hEa := hEr.keepN hal
              go_wp2_with (first | (go_at_call 80; refine D1.out.mono ?_; rintro e w' ⟨rfl, rfl⟩) | (go_at_call 82; refine D2.out.mono ?_; rintro e w' ⟨rfl, A4, rfl, hR4, ho4, hl4⟩))
              have hl4' := hl4 _ hl2'
              have DA := Lib.hid (AUnmarshal_calls (hR4.keepN hal) (by omega) hEa.p hEa.n wr.heap.size 102 (by omega) hbk (fun a ha => by have := hl4' a ha; show ¬ _ = _; omega))
              refine DA.out.mono ?_
              rintro e w2 ⟨hkA, va, a, hbA, hslA, hfr, hFin⟩
              have hk2 : Kp no wr w2 := hal.trans hkA (fun i hi h => by omega)
              have hR6 := hR3.keepN hk2
              have hblk2 := hblk.keepN hk2
              have hst2 := hst.keepN hk2 hglt
              have hkD2 := hk.then hk2
              have hs2 := hk2.size
              have hbAlt := hbA.lt
              have hfe := hFin.end_
              have HFin := Lib.hid hFin
              clear hFin
              rcases hfe with rfl | ⟨te, ve, rfl⟩
              · have hat3 := hat.on (s'' := { st' with addrs := st'.addrs ++ [a] }) hr.byt hp0 HF.out (by rw [rstep_3]; exact addressed_nil HFin.out)
                have cc2 := hblk2.cell 2
                have hka2 : Kp no w2 (w2.alloc (.cells #[.pointer (some ⟨wr.heap.size, 0, none⟩)] 100)) := (Kp.refl _ _).alloc _
                have hcb := (Blk.new w2 #[.pointer (some ⟨wr.heap.size, 0, none⟩)] 100).cell 0
                have hV2 := hV.keepN (hk2.then hka2)
                have hbase : ∀ i, ad.ownBlock = some i → i < wr.heap.size := fun i hi => (hV.base i hi).2
                have hbaseB : ∀ i, ad.ownBlock = some i → w.heap.size ≤ i := fun i hi => (hV.base i hi).1
                have hbW := hbA.keepN hka2
                have hslW := hslA.keepN hka2
                have hfrW : Fresh wr.heap.size va := fun a n c h => by have := hfr a n c h; simp at this; omega
                have HusB := Lib.hid hbase
                have HusBB := Lib.hid hbaseB
                clear hbase hbaseB hfr
                rw [ead] at cc2
                have hul : us.length ≤ 1099511627776 := by have := HusL.out; omega
                go_wp2_with (first | (at_builtin; refine one_append w.heap.size rfl (.tmp 126) (.tmp 128) 97 100 rfl Tryd.und_pAddrs (.pointer none) 8 Tryd.info_pAddr rfl (by omega) ad us (.pointer (some ⟨wr.heap.size, 0, none⟩)) w2.heap.size ead.symm rfl hcb rfl hV2 (by simp; omega) hul ?_; intro A1 c1 w3 hV3 hk3 hw3; have hblk3 := (hblk2.keepN hka2).keep hk3 (fun h => by have := HusBB.out _ h; omega); have c3 := hblk3.cell 2; have cf3 := hblk3.free 2))
                have hkS : Kp (· = g) w3 (w3.setCell ⟨g, 2, none⟩ (.slice A1 (us.length + 1) c1)) := (Kp.refl (· = g) w3).setCell (p := ⟨g, 2, none⟩) (fun _ => rfl) _
                have hst3 := hst.more (hk2.then hka2) hbW hslW (Nat.le_refl _) hfrW hgs hPs HusB.out hV3 hk3 hw3 hkS hglt
                have hkW := hkD2.then hka2
                have hkV := hkW.trans hk3 (fun i hi h => by have h : ad.ownBlock = some i := h; exact absurd (HusBB.out i h) (by omega))
                have hkX : Kp (fun i => i = g ∨ ad.ownBlock = some i) wr _ := ((((hk2.then hka2).mono (fun _ _ h => h.elim)).trans hk3 (fun i hi h => .inr h)).trans hkS (fun i hi h => .inl h))
                have hkD := hkV.trans hkS (fun _ _ h => h)
                have hblk4 := hblk3.set 2 (.slice A1 (us.length + 1) c1)
                have hR7 := hR3.keep hkX (fun x hx h => by
                  rcases h with h | h
                  · exact hko x hx h
                  · have := hll x hx; have := HusBB.out _ h; omega)
                go_roundw
                case rel => exact ⟨A3, _, _, _, _, _, _, _, rfl, hR7, (by show (st'.addrs ++ [a]).length + _ ≤ _; rw [List.length_append]; simp only [List.length_cons, List.length_nil]; omega), hko, hll, hkD, hblk4, hst3, hat3⟩
                case measure => simp [lenOf]; omega
              · have FB := hat.badIn (s'' := st') (e := .returned (.iface te ve)) hr.byt hp0 HF.out (by rw [rstep_3]; exact addressed_bad HFin.out ⟨te, ve, rfl⟩) ⟨te, ve, rfl⟩
                go_wp2
                go_ret
                exact ⟨hkD2, pe, sq, ad, st', hblk2, hst2, by omega, FB⟩
          · have D2 := Lib.hid (CF_any hR2 f t)
            have HNE := Lib.hid (show ∀ v x, rstep st' ⟨f, t, v, x⟩ = .ok st' from fun v x => rstep_0 _ _ (by simp only; omega) (by simp only; omega) (by simp only; omega))
            rcases hother with ⟨rfl, hx⟩ | ⟨rfl, hx⟩ | ⟨rfl, hx⟩ | ⟨hx1, hx2, hx3⟩
            all_goals
              go_wp2_with (first | (go_at_call 80; refine D1.out.mono ?_; rintro e w' ⟨rfl, rfl⟩))
              refine D2.out.mono ?_
              rintro e w2 ⟨⟨k2, rfl, a2, b2, F2⟩, hk2⟩
              rw [HL2.out] at b2
              have F2H := Lib.hid F2
              clear F2
              have hk3 := hk.then hk2
              have hblk3 := hblk.keepN hk2
              have hst3 := hst.keepN hk2 hglt
              rcases Int.lt_or_le k2 0 with hneg | hk2p
              · have F := fun e => hat.bad (s'' := st') (e := e) hr.byt hp0 (by
                  rw [HHd.out]
                  by_cases h34 : t = 3 ∨ t = 4
                  · exact .inr (hdv_grp h34)
                  · have F2 := F2H.out (fun h => h34 (.inl h))
                    split at F2
                    · rename_i m hm
                      have := fval_le hR2.byt hm
                      omega
                    · rename_i hm
                      exact .inl (hdv_none h34 hm))
                have hE2 := hE'.keepN hk2
                clear hcut
                go_wp2_with (first | (go_at_call 81; refine (PE_bad hE2 _ (by omega)).mono ?_; rintro e w' ⟨⟨t, v, rfl⟩, rfl⟩))
                go_ret
                exact ⟨hk3, pe, sq, ad, st', hblk3, hst3, by omega, F _ ⟨_, _, rfl⟩⟩
              · obtain ⟨A3, hR3, hout3, hlo3, hcut3⟩ := (hR2.keepN hk2).cutFrom Tryd.und_bytes Tryd.size_byte .i64 k2 (by omega) (by omega)
                have hat3 : AtG rstep l ((l'.drop k.toNat).drop k2.toNat) RS.zero st' := by
                  by_cases h34 : t = 3 ∨ t = 4
                  · exact hat.opn hr.byt hp0 (HHd.out.trans (hdv_grp h34))
                  · have F2 := F2H.out (fun h => h34 (.inl h))
                    split at F2
                    · rename_i m hm
                      subst F2
                      exact hat.on hr.byt hp0 (HHd.out.trans (hdv_some h34 hm)) (.inl (HNE.out _ _))
                    · omega
                have hko := hout3 _ ho2
                have hll := hlo3 _ hl2'
                clear hcut D1 D2 hout3 hlo3
                go_wp2
                go_roundw
                case rel => exact ⟨A3, _, _, _, pe, sq, ad, st', rfl, hR3, by omega, hko, hll, hk3, hblk3, hst3, hat3⟩
                case measure => simp [lenOf]; omega
end Go.Proofs.YtipleaojejbkpaaDoor
