/- impl.Opened. Seal, where the record and the key are right. An envelope's Marshal; impl.sealed and Sealed, where all is right. -/
import Derived.Test.YtddofkeajinjpaaGreatDoorReA
import Derived.BigRegion
namespace Go.Proofs.YtddofkeajinjpaaGreatDoor
open Go Go.RowKit
set_option linter.unusedVariables false
set_option linter.unusedSimpArgs false
set_option maxRecDepth 100000

def OpP (w : World) (ok : Bool) (pl : List Int) (e : Ending) (w' : World) : Prop :=
  Kp no w w' ∧ if ok then ∃ A c, e = .returned (.tuple #[.slice A pl.length c, .bool true]) ∧ Rd w' A pl.length c pl ∧ Lo w'.heap.size A else e = .returned (.tuple #[.slice none 0 0, .bool false])
/-- What opening asks of the world. -/
structure OpW (w : World) (K : List Int) : Prop where
  e : EErrs w
  b : IsErr w 10
  i : IsErr w 3
  k : Keys w K
theorem OpW.keepN {w w' : World} {K : List Int} (h : OpW w K) (k : Kp no w w') : OpW w' K := ⟨h.e.keepN k, h.b.keepN k, h.i.keepN k, h.k.keepN k⟩
set_option maxHeartbeats 8000000 in
theorem opened_calls {w : World} {A : Option Addr} {n c : Nat} {l d ty pl sg K dl : List Int} {k : Int} (h : Rd w A n c l) (hn : n ≤ 1000000) (hW : OpW w K)
    (hst : efin (whole estep l ES.zero) = .ok ⟨some (some k, some d), ty, pl, sg⟩) (hd : d.length ≤ 300) (ht : ty.length ≤ 1000) (hp : pl.length ≤ 10000) (hdl : Byt dl) (hdn : dl.length ≤ 1000) :
    Calls Tryz.prog 16 #[.slice A n c, .string (strOfNums dl)] w
      (OpP w (decide (0 ≤ k ∧ k ≤ 3 ∧ 0 < d.length) && decide (sgn K d (uns dl ty pl) = sg)) pl) := by
  have BG := Blk.new w #[.string (strOfNums dl), .slice none 0 0, .slice none 0 0] 58
  have ka : Kp no w (w.alloc (.cells #[.string (strOfNums dl), .slice none 0 0, .slice none 0 0] 58)) := (Kp.refl _ _).alloc _
  have D1 := Lib.hid (Clone_calls (h.keepN ka) (by omega))
  have hl := h.len
  have D2 := Lib.hid (fun (w1 : World) A1 c1 (M : MadeAt (w.alloc (.cells #[.string (strOfNums dl), .slice none 0 0, .slice none 0 0] 58)) w1 A1 c1 l) =>
    consume_calls (w := w1) (g := w.heap.size) (vc := .slice none 0 0) (vp := .slice none 0 0) M.rd (by omega) (hW.e.keepN (ka.then M.kp)) M.lo (hW.b.keepN (ka.then M.kp)) (hW.i.keepN (ka.then M.kp)) hst hd ht hp (hW.k.keepN (ka.then M.kp)) hdl hdn (Blk.keepN BG M.kp))
  have HP := Lib.hid hp
  clear h hW hst hd ht hp hdl hdn BG
  obtain ⟨b, hbb⟩ : ∃ b, b = (decide (0 ≤ k ∧ k ≤ 3 ∧ 0 < d.length) && decide (sgn K d (uns dl ty pl) = sg)) := ⟨_, rfl⟩
  rw [← hbb] at D2 ⊢
  clear hbb
  obtain ⟨ds, hds⟩ : ∃ ds, ds = strOfNums dl := ⟨_, rfl⟩
  rw [← hds] at D1 D2 ka ⊢
  clear hds
  obtain ⟨nl, hnl⟩ : ∃ x, x = l.length := ⟨_, rfl⟩
  have HNL := Lib.hid hnl
  clear hl
  go_enter Tryz.func16, Tryz.ntmps16
  go_wp2_with (fail)
  refine D1.out.mono ?_
  rintro e w1 ⟨A1, c1, rfl, M1⟩
  have k1 := ka.then M1.kp
  have D3 := Lib.hid (D2.out w1 A1 c1 M1)
  clear M1
  rw [← hnl] at D3 ⊢
  clear hnl
  go_wp2_with (fail)
  refine D3.out.mono ?_
  rintro e w2 ⟨k2, hr⟩
  have k3 : Kp no w w2 := k1.trans k2 (fun i hi h => by have h : i = w.heap.size := h; omega)
  cases b with
  | false =>
    obtain ⟨v, t, x, rfl⟩ := hr
    have HF : Hid (OpP w false pl (.returned (.tuple #[.slice none 0 0, .bool false])) w2) := Lib.hid ⟨k3, rfl⟩
    go_wp2
    go_ret2
    exact HF.out
  | true =>
    obtain ⟨⟨v, rfl⟩, A3, c3, hG, hR, hL⟩ := hr
    have cc2 : w2.cell? ⟨w.heap.size, 2, none⟩ = some (.slice A3 pl.length c3) := Blk.cell hG 2
    have HF : Hid (OpP w true pl (.returned (.tuple #[.slice A3 pl.length c3, .bool true])) w2) := Lib.hid ⟨k3, A3, c3, rfl, hR, hL⟩
    clear hG hR hL
    go_wp2
    go_ret2
    exact HF.out
end Go.Proofs.YtddofkeajinjpaaGreatDoor
namespace Go.Proofs.YtddofkeajinjpaaGreatDoor
open Go Go.RowKit
set_option linter.unusedVariables false
set_option linter.unusedSimpArgs false
set_option maxRecDepth 100000

def SealP (w : World) (k : Int) (d ty pl sg : List Int) (e : Ending) (w' : World) : Prop := Kp no w w' ∧ ∃ g, e = .returned (.tuple #[.pointer (some ⟨g, 0, none⟩), .nilIface]) ∧ EvAt w' g k d ty pl sg
set_option maxHeartbeats 8000000 in
theorem seal_calls {w : World} {g gt nc cc np cp : Nat} {Ac Ap : Option Addr} {k : Int} {d ty pl K dl : List Int} (hG : Gv w g (strOfNums dl) (.slice Ac nc cc) (.slice Ap np cp)) (hT : ToyAt w gt k d) (hK : Keys w K)
    (hRc : Rd w Ac nc cc ty) (hLc : Lo w.heap.size Ac) (hRp : Rd w Ap np cp pl) (hLp : Lo w.heap.size Ap) (hdl : Byt dl) (hdn : dl.length ≤ 1000) (hd : d.length ≤ 300) (ht : ty.length ≤ 1000) (hp : pl.length ≤ 10000) (h1 : 0 < dl.length) (h2 : 0 < ty.length) :
    Calls Tryz.prog 35 #[.iface 55 (.pointer (some ⟨g, 0, none⟩)), .iface 77 (.pointer (some ⟨gt, 0, none⟩))] w (SealP w k d ty pl (sgn K d (uns dl ty pl))) := by
  have hnc := hRc.len
  have hnp := hRp.len
  have HUL := Lib.hid (show (uns dl ty pl).length ≤ 20000 from by
    unfold uns
    rw [List.length_append, List.length_append, part_len, part_len, part_len]
    have := (vint_len (dl.length : Int)).2; have := (vint_len (ty.length : Int)).2; have := (vint_len (pl.length : Int)).2
    omega)
  have D1 := Lib.hid (gvMarshal_calls hG)
  have D2 := Lib.hid (fun W (kk : Kp no w W) => gvDomain_calls (w := W) (Blk.keepN hG kk))
  have D3 := Lib.hid (fun W (kk : Kp no w W) => gvCodec_calls (w := W) (Blk.keepN hG kk))
  have D4 := Lib.hid (fun W (kk : Kp no w W) => makeUnsigned_calls (w := W) hdl hdn (hRc.keepN kk) (by omega) (hRp.keepN kk) (by omega))
  have D5 := Lib.hid (fun W (kk : Kp no w W) A c (hR : Rd W A (uns dl ty pl).length c (uns dl ty pl)) (hl : Lo W.heap.size A) => sign_calls (hT.keepN kk) (hK.keepN kk) hR hl hd (by have := HUL.out; omega))
  have HR := Lib.hid (And.intro hRc (And.intro hLc (And.intro hRp (And.intro hLp hT))))
  have HS := Lib.hid (And.intro (sgn_length K d (uns dl ty pl)) (sgn_byt K d (uns dl ty pl)))
  have hsz : (strOfNums dl).size = dl.length := strOfNums_size dl
  have hne : (strOfNums dl).toList.isEmpty = false := by
    rw [Lib.toList_data]
    have : (strOfNums dl).data.size = dl.length := hsz
    cases hh : (strOfNums dl).data.toList with
    | nil => simp at hh; rw [hh] at this; simp at this; omega
    | cons a b => rfl
  have e0 : ((nc : Int) == 0) = false := beq_eq_false_iff_ne.2 (by omega)
  have HNC := Lib.hid (And.intro hnc hnp)
  obtain ⟨S, hS⟩ : ∃ S, S = sgn K d (uns dl ty pl) := ⟨_, rfl⟩
  rw [← hS] at D5 HS ⊢
  obtain ⟨U, hU⟩ : ∃ U, U = uns dl ty pl := ⟨_, rfl⟩
  rw [← hU] at D4 D5
  generalize strOfNums dl = ds at *
  clear hG hT hK hRc hLc hRp hLp hdl hdn hd ht hp hnc hnp hsz hS hU h1 h2
  go_enter Tryz.func35, Tryz.ntmps35
  go_wp2_with (fail)
  refine D1.out.mono ?_
  rintro e w1 ⟨rfl, m1, rfl⟩
  have k1 : Kp no w (w.drewN m1) := Kp.byDraws _ _
  generalize w.drewN m1 = w1 at *
  have D2a := Lib.hid (D2.out _ k1)
  go_wp2_with (fail)
  refine D2a.out.mono ?_
  rintro e w2 ⟨rfl, rfl⟩
  have D3a := Lib.hid (D3.out _ k1)
  go_wp2_with (fail)
  refine D3a.out.mono ?_
  rintro e w2 ⟨rfl, rfl⟩
  have D4a := Lib.hid (D4.out _ k1)
  go_wp2_with (fail)
  refine D4a.out.mono ?_
  rintro e w2 ⟨A2, c2, rfl, R2, L2, k2⟩
  have k02 := k1.then k2
  have D5a := Lib.hid (D5.out _ k02 A2 c2 R2 L2)
  clear R2 L2
  generalize U.length = nu at *
  go_wp2_with (fail)
  refine D5a.out.mono ?_
  rintro e w3 ⟨gs, rfl, hgs, N3, k3⟩
  have k03 := k02.then k3
  have HN3 := Lib.hid N3
  clear N3 hgs
  have D6 := Lib.hid (toyPublic_calls (w := w3) (P := some ⟨gt, 0, none⟩))
  go_wp2_with (fail)
  refine D6.out.mono ?_
  rintro e w4 ⟨rfl, rfl⟩
  have kz : Kp no w3 (w3.alloc (.cells #[.iface 77 (.pointer (some ⟨gt, 0, none⟩)), .slice Ac nc cc, .slice Ap np cp, .slice (some ⟨gs, 0, none⟩) 32 32, .nilIface, .nilIface, .bool false, .nilFunc] 75)) := (Kp.refl _ _).alloc _
  have hgl : gs < w3.heap.size := HN3.out.lt
  have k04 := k03.then kz
  have HF : Hid (SealP w k d ty pl S (.returned (.tuple #[.pointer (some ⟨w3.heap.size, 0, none⟩), .nilIface])) (w3.alloc (.cells #[.iface 77 (.pointer (some ⟨gt, 0, none⟩)), .slice Ac nc cc, .slice Ap np cp, .slice (some ⟨gs, 0, none⟩) 32 32, .nilIface, .nilIface, .bool false, .nilFunc] 75))) := by
    have hnc := HNC.out.1
    have hnp := HNC.out.2
    have hS32 := HS.out.1
    subst hnc hnp
    refine Lib.hid ⟨k04, w3.heap.size, rfl, gt, _, _, _, _, _, _, _, Blk.new w3 _ _, HR.out.2.2.2.2.keepN k04, ⟨Ac, cc, rfl, HR.out.1.keepN k04, HR.out.2.1.mono k04.size⟩, ⟨Ap, cp, rfl, HR.out.2.2.1.keepN k04, HR.out.2.2.2.1.mono k04.size⟩, ⟨some ⟨gs, 0, none⟩, 32, by rw [hS32], by rw [hS32]; exact (HN3.out.keepN kz).rd hS32 HS.out.2 (by omega), fun a e => by cases e; exact (HN3.out.keepN kz).lt⟩⟩
  go_wp2
  go_ret2
  exact HF.out
end Go.Proofs.YtddofkeajinjpaaGreatDoor
namespace Go.Proofs.YtddofkeajinjpaaGreatDoor
open Go Go.RowKit
set_option linter.unusedVariables false
set_option linter.unusedSimpArgs false
set_option maxRecDepth 100000

def PKP (w : World) (k : Int) (A : Option Addr) (n c : Nat) (e : Ending) (w' : World) : Prop :=
  Kp no w w' ∧ ∃ gk b, e = .returned (.tuple #[.pointer (some ⟨gk, 0, none⟩), .nilIface]) ∧ Blk w' gk #[.pointer (some ⟨b, 0, none⟩), .slice A n c] 103 ∧ w'.cell? ⟨b, 0, none⟩ = some (.int .i32 k)
set_option maxHeartbeats 4000000 in
theorem pkToProto_calls {w : World} {gt : Nat} {k : Int} {A : Option Addr} {n c : Nat} (hb : Blk w gt #[.int .i32 k, .slice A n c] 132) :
    Calls Tryz.prog 51 #[.iface 77 (.pointer (some ⟨gt, 0, none⟩))] w (PKP w k A n c) := by
  have D1 := Lib.hid (toyRaw_calls hb)
  have D2 := Lib.hid (fun W (kk : Kp no w W) => toyType_calls (w := W) (hb.keepN kk))
  clear hb
  go_enter Tryz.func51, Tryz.ntmps51
  go_wp2_with (fail)
  refine D1.out.mono ?_
  rintro e w1 ⟨rfl, m1, rfl⟩
  have k1 : Kp no w (w.drewN m1) := Kp.byDraws _ _
  generalize w.drewN m1 = w1 at *
  have D2a := Lib.hid (D2.out _ k1)
  go_wp2_with (fail)
  refine D2a.out.mono ?_
  rintro e w2 ⟨rfl, rfl⟩
  have D3 := Lib.hid (Enum_calls (w := w1) k)
  go_wp2_with (fail)
  refine D3.out.mono ?_
  rintro e w2 ⟨b, rfl, hbge, hbc, k2⟩
  have kz : Kp no w2 (w2.alloc (.cells #[.pointer (some ⟨b, 0, none⟩), .slice A n c] 103)) := (Kp.refl _ _).alloc _
  have HF : Hid (PKP w k A n c (.returned (.tuple #[.pointer (some ⟨w2.heap.size, 0, none⟩), .nilIface])) (w2.alloc (.cells #[.pointer (some ⟨b, 0, none⟩), .slice A n c] 103))) :=
    Lib.hid ⟨(k1.then k2).then kz, w2.heap.size, b, rfl, Blk.new w2 _ _, kz.cellN hbc⟩
  clear hbc kz
  go_wp2
  go_ret2
  exact HF.out

/-- The message of an envelope. -/
def ebb (k : Int) (d ty pl sg : List Int) : List Int := wb 1 (kb k d) ++ (ob 2 ty ++ (ob 3 pl ++ ob 5 sg))
set_option maxHeartbeats 8000000 in
theorem envMarshal_calls {w : World} {g : Nat} {k : Int} {d ty pl sg : List Int} (hV : EvAt w g k d ty pl sg) (hk0 : 0 ≤ k) (hk1 : k ≤ 3) (hd0 : 0 < d.length) (hd : d.length ≤ 300) (ht : ty.length ≤ 1000) (hp : pl.length ≤ 10000) (hs : sg.length ≤ 10000) :
    Calls Tryz.prog 36 #[.pointer (some ⟨g, 0, none⟩)] w (MadeOk w (ebb k d ty pl sg)) := by
  obtain ⟨gt, vt, vp, vs, v4, v5, v6, v7, hb, ⟨A0, n0, c0, hbt, hR0, hL0, _⟩, ⟨B1, e1, rfl, r1, m1⟩, ⟨B2, e2, rfl, r2, m2⟩, ⟨B3, e3, rfl, r3, m3⟩⟩ := hV
  have hn0 := hR0.len
  obtain ⟨ga, oa, rfl, _⟩ := hR0.at_ (by omega)
  obtain rfl := hn0
  have D1 := Lib.hid (pkToProto_calls hbt)
  have cc0 : w.cell? ⟨g, 0, none⟩ = some (.iface 77 (.pointer (some ⟨gt, 0, none⟩))) := hb.cell 0
  have D2 := Lib.hid (fun (W : World) (gk b : Nat) (kk : Kp no w W) (hbk : Blk W gk #[.pointer (some ⟨b, 0, none⟩), .slice (some ⟨ga, oa, none⟩) d.length c0] 103) (hc : W.cell? ⟨b, 0, none⟩ = some (.int .i32 k)) (gm : Nat)
      (hbm : Blk W gm #[.pointer (some ⟨gk, 0, none⟩), .slice B1 ty.length e1, .slice B2 pl.length e2, .slice B3 sg.length e3] 65) =>
    EMarshal_keyG (w := W) k (by omega) (by omega) (hR0.keepN kk) (r1.keepN kk) (r2.keepN kk) (r3.keepN kk) hd (by omega) hp hs (hL0.mono kk.size) (m1.mono kk.size) (m2.mono kk.size) (m3.mono kk.size) gm gk b _ hbm hbk hc)
  have HB := Lib.hid hb
  obtain ⟨l, hl⟩ : ∃ l, l = ebb k d ty pl sg := ⟨_, rfl⟩
  rw [← hl]
  have HL := Lib.hid hl
  obtain ⟨n1, hn1⟩ : ∃ n, n = ty.length := ⟨_, rfl⟩
  obtain ⟨n2, hn2⟩ : ∃ n, n = pl.length := ⟨_, rfl⟩
  obtain ⟨n3, hn3⟩ : ∃ n, n = sg.length := ⟨_, rfl⟩
  obtain ⟨nd, hnd⟩ : ∃ n, n = d.length := ⟨_, rfl⟩
  rw [← hn1, ← hn2, ← hn3] at HB
  rw [← hn1, ← hn2, ← hn3, ← hnd] at D2
  rw [← hnd] at D1
  clear hb hbt hR0 hL0 r1 r2 r3 m1 m2 m3 hl hn1 hn2 hn3 hnd hd ht hp hs hd0
  go_enter Tryz.func36, Tryz.ntmps36
  go_wp2_with (fail)
  refine D1.out.mono ?_
  rintro e w1 ⟨k1, gk, b, rfl, hbk, hcb⟩
  have hb1 := HB.out.keepN k1
  have q1 : w1.cell? ⟨g, 1, none⟩ = some (.slice B1 n1 e1) := hb1.cell 1
  have q2 : w1.cell? ⟨g, 2, none⟩ = some (.slice B2 n2 e2) := hb1.cell 2
  have q3 : w1.cell? ⟨g, 3, none⟩ = some (.slice B3 n3 e3) := hb1.cell 3
  have HBK := Lib.hid hbk
  have HCB := Lib.hid hcb
  have hglt := hb1.lt
  clear hb1 hbk hcb
  go_upto_region 4 with (fail)
  go_region
  all_goals
    have kz : Kp no w1 (w1.alloc (.cells #[.pointer (some ⟨gk, 0, none⟩), .slice B1 n1 e1, .slice B2 n2 e2, .slice B3 n3 e3] 65)).drew := ((Kp.refl _ _).alloc _).drew
    have D3 := Lib.hid (D2.out _ gk b (k1.then kz) (HBK.out.keepN kz) (kz.cellN HCB.out) w1.heap.size (Blk.drew (Blk.new w1 #[.pointer (some ⟨gk, 0, none⟩), .slice B1 n1 e1, .slice B2 n2 e2, .slice B3 n3 e3] 65)))
    have HL2 := Lib.hid (show wb 1 (kb k d) ++ (ob 2 ty ++ (ob 3 pl ++ ob 5 sg)) = l from HL.out.symm)
    rw [HL2.out] at D3
    go_wp2_with (fail)
    refine D3.out.mono ?_
    rintro e w3 ⟨A3, c3, rfl, M3⟩
    have HF : Hid (MadeOk w l (.returned (.tuple #[.slice A3 l.length c3, .nilIface])) w3) := Lib.hid ⟨A3, c3, rfl, M3.up (k1.then kz)⟩
    clear M3
    go_wp2
    go_ret2
    exact HF.out
end Go.Proofs.YtddofkeajinjpaaGreatDoor
