/- A record as data: what it tells of itself. UnmarshalEnvelope, and the key out of a message. An envelope is validated, and consumed. -/
import Derived.Test.YtddofkeajinjpaaGreatDoorDgA
import Derived.Test.YtddofkeajinjpaaGreatDoorUnA
import Derived.Test.YtddofkeajinjpaaGreatDoorEMarG
import Derived.Deep.RegionWith
import Derived.Deep.Cut
import Derived.Deep.CutRange
namespace Go.Proofs.YtddofkeajinjpaaGreatDoor
open Go Go.RowKit
set_option linter.unusedVariables false
set_option linter.unusedSimpArgs false
set_option maxRecDepth 100000

/-- A given record lies at g. -/
def Gv (w : World) (g : Nat) (s : ByteArray) (vc vp : Value) : Prop := Blk w g #[.string s, vc, vp] 58
theorem gvMarshal_calls {w : World} {g : Nat} {s : ByteArray} {vc : Value} {A : Option Addr} {n c : Nat} (h : Gv w g s vc (.slice A n c)) :
    Calls Tryz.prog 87 #[.pointer (some ⟨g, 0, none⟩)] w fun e w' => e = .returned (.tuple #[.slice A n c, .nilIface]) ∧ ∃ m, w' = w.drewN m := by
  have c1 : w.cell? ⟨g, 2, none⟩ = some (.slice A n c) := Blk.cell h 2
  clear h
  go_enter Tryz.func87, Tryz.ntmps87
  go_wp2
  first
    | (go_ret2; exact ⟨rfl, 0, rfl⟩)
    | (go_quiet (fail); go_wp2; go_ret2; exact ⟨rfl, nq, rfl⟩)
theorem gvDomain_calls {w : World} {g : Nat} {s : ByteArray} {vc vp : Value} (h : Gv w g s vc vp) :
    Calls Tryz.prog 86 #[.pointer (some ⟨g, 0, none⟩)] w fun e w' => e = .returned (.string s) ∧ w = w' := by
  have c1 : w.cell? ⟨g, 0, none⟩ = some (.string s) := Blk.cell h 0
  clear h
  go_enter Tryz.func86, Tryz.ntmps86
  go_wp2
  go_ret
  exact ⟨rfl, rfl⟩
theorem gvCodec_calls {w : World} {g : Nat} {s : ByteArray} {vp : Value} {A : Option Addr} {n c : Nat} (h : Gv w g s (.slice A n c) vp) :
    Calls Tryz.prog 85 #[.pointer (some ⟨g, 0, none⟩)] w fun e w' => e = .returned (.slice A n c) ∧ w = w' := by
  have c1 : w.cell? ⟨g, 1, none⟩ = some (.slice A n c) := Blk.cell h 1
  clear h
  go_enter Tryz.func85, Tryz.ntmps85
  go_wp2
  go_ret
  exact ⟨rfl, rfl⟩
def GvTook (w : World) (g : Nat) (s : ByteArray) (vc : Value) (l : List Int) (e : Ending) (w' : World) : Prop := e = .returned .nilIface ∧ Kp (· = g) w w' ∧ ∃ A c, Gv w' g s vc (.slice A l.length c) ∧ Rd w' A l.length c l ∧ Lo w'.heap.size A ∧ ∀ a, A = some a → w.heap.size ≤ a.block
theorem gvUnmarshal_calls {w : World} {g : Nat} {s : ByteArray} {vc vp : Value} {A : Option Addr} {n c : Nat} {l : List Int} (h : Gv w g s vc vp) (hR : Rd w A n c l) (hn : n ≤ 1000000) :
    Calls Tryz.prog 88 #[.pointer (some ⟨g, 0, none⟩), .slice A n c] w (GvTook w g s vc l) := by
  have D1 := Lib.hid (Clone_calls hR (by omega))
  have hglt := Blk.lt h
  have HG := Lib.hid h
  clear h hR
  go_enter Tryz.func88, Tryz.ntmps88
  go_wp2_with (fail)
  refine D1.out.mono ?_
  rintro e w1 ⟨A1, c1, rfl, M1⟩
  have HG1 := Blk.keepN HG.out M1.kp
  have c2 : w1.cell? ⟨g, 2, none⟩ = some vp := HG1.cell 2
  have f2 := HG1.free 2
  obtain ⟨k, hk⟩ : ∃ k, k = l.length := ⟨_, rfl⟩
  have hlo := M1.own.rd
  have hge : ∀ a, A1 = some a → w.heap.size ≤ a.block := fun a e => by subst e; exact (M1.own.base a.block rfl).1
  have hlt : ∀ a, A1 = some a → a.block < w1.heap.size := fun a e => by subst e; exact (M1.own.base a.block rfl).2
  have HF : Hid (GvTook w g s vc l (.returned .nilIface) (w1.setCell ⟨g, 2, none⟩ (.slice A1 k c1))) := Lib.hid (by
    subst hk
    refine ⟨rfl, Kp.setCell (S := (· = g)) (M1.kp.mono (fun _ _ h => h.elim)) (p := ⟨g, 2, none⟩) (fun _ => rfl) _, A1, c1, Blk.set HG1 2 _, M1.rd.keep (Kp.setCell (S := (· = g)) (Kp.refl _ w1) (p := ⟨g, 2, none⟩) (fun _ => rfl) _) (fun a e h => by have := hge a e; have h : a.block = g := h; omega), fun a e => by have := hlt a e; simpa [World.setCell] using this, hge⟩)
  rw [← hk]
  clear hk M1 HG1 hlo hge hlt
  go_wp2
  go_ret
  exact HF.out
end Go.Proofs.YtddofkeajinjpaaGreatDoor
namespace Go.Proofs.YtddofkeajinjpaaGreatDoor
open Go Go.RowKit
set_option linter.unusedVariables false
set_option linter.unusedSimpArgs false
set_option maxRecDepth 100000

theorem PKGetData_calls {w : World} (g : Nat) (T : TypeId) (pt : Value) (A : Option Addr) (n c : Nat) (hb : Blk w g #[pt, .slice A n c] T) :
    Calls Tryz.prog 49 #[.pointer (some ⟨g, 0, none⟩)] w fun e w' => e = .returned (.slice A n c) ∧ w = w' := by
  have c1 : w.cell? ⟨g, 1, none⟩ = some (.slice A n c) := hb.cell 1
  clear hb
  go_enter Tryz.func49, Tryz.ntmps49
  go_wp2
  go_ret
  exact ⟨rfl, rfl⟩
/-- What comes of a key's message. -/
def FromP (w : World) (k : Int) (d : List Int) (e : Ending) (w' : World) : Prop :=
  Kp no w w' ∧ if 0 ≤ k ∧ k ≤ 3 ∧ 0 < d.length then ∃ g, e = .returned (.tuple #[.iface 77 (.pointer (some ⟨g, 0, none⟩)), .nilIface]) ∧ w.heap.size ≤ g ∧ ToyAt w' g k d
  else ∃ t v, e = .returned (.tuple #[.nilIface, .iface t v])
set_option maxHeartbeats 4000000 in
theorem fromProto_calls {w : World} {g : Nat} {T : TypeId} {pt sl : Value} {k : Int} {d : List Int} {S : Nat → Prop} (hb : Blk w g #[pt, sl] T) (hs : KSt w S pt sl (some k, some d)) (hd : d.length ≤ 100000)
    (hE : IsErr w 10) :
    Calls Tryz.prog 32 #[.pointer (some ⟨g, 0, none⟩)] w (FromP w k d) := by
  have D1 := Lib.hid (PKGetType_calls g T pt sl k (some d) hb hs)
  obtain ⟨b, o, c, rfl, _, hblt, _, hR⟩ := hs.dt
  have D2 := Lib.hid (PKGetData_calls g T pt (some ⟨b, o, none⟩) d.length c hb)
  have HR := Lib.hid hR
  have HLO := Lib.hid (show Lo w.heap.size (some ⟨b, o, none⟩) from fun a e => by cases e; exact hblt)
  have HD := Lib.hid hd
  clear hb hs hR hd
  by_cases hok : 0 ≤ k ∧ k ≤ 3 ∧ 0 < d.length
  · have D3 := Lib.hid (newToy_yes k hok.1 hok.2.1 HR.out HLO.out hok.2.2 HD.out)
    have HOK := Lib.hid hok
    clear hok
    obtain ⟨n, hn⟩ : ∃ n, n = d.length := ⟨_, rfl⟩
    rw [← hn] at D2 D3
    clear hn
    go_enter Tryz.func32, Tryz.ntmps32
    go_wp2_with (fail)
    refine D1.out.mono ?_
    rintro e w1 ⟨rfl, rfl⟩
    go_wp2_with (fail)
    refine D2.out.mono ?_
    rintro e w1 ⟨rfl, rfl⟩
    go_wp2_with (fail)
    refine D3.out.mono ?_
    rintro e w1 ⟨g1, rfl, hg1, ht1, k1⟩
    have HF : Hid (FromP w k d (.returned (.tuple #[.iface 77 (.pointer (some ⟨g1, 0, none⟩)), .nilIface])) w1) := Lib.hid ⟨k1, by rw [if_pos HOK.out]; exact ⟨g1, rfl, hg1, ht1⟩⟩
    clear ht1
    go_wp2
    go_ret2
    exact HF.out
  · have D3 := Lib.hid (newToy_no (A := some ⟨b, o, none⟩) (c := c) (n := d.length) k (by omega) hE)
    have HOK := Lib.hid hok
    clear hok hE
    obtain ⟨n, hn⟩ : ∃ n, n = d.length := ⟨_, rfl⟩
    rw [← hn] at D2 D3
    clear hn
    go_enter Tryz.func32, Tryz.ntmps32
    go_wp2_with (fail)
    refine D1.out.mono ?_
    rintro e w1 ⟨rfl, rfl⟩
    go_wp2_with (fail)
    refine D2.out.mono ?_
    rintro e w1 ⟨rfl, rfl⟩
    go_wp2_with (fail)
    refine D3.out.mono ?_
    rintro e w1 ⟨t, v, rfl, k1⟩
    have HF : Hid (FromP w k d (.returned (.tuple #[.nilIface, .iface t v])) w1) := Lib.hid ⟨k1, by rw [if_neg HOK.out]; exact ⟨t, v, rfl⟩⟩
    go_wp2
    go_ret2
    exact HF.out
/-- A slice that is read. -/
def SlR (w : World) (v : Value) (l : List Int) : Prop := ∃ A c, v = .slice A l.length c ∧ Rd w A l.length c l ∧ Lo w.heap.size A
theorem SlR.keepN {w w' : World} {v : Value} {l : List Int} (h : SlR w v l) (k : Kp no w w') : SlR w' v l := by
  obtain ⟨A, c, h1, h2, h3⟩ := h
  exact ⟨A, c, h1, h2.keepN k, h3.mono k.size⟩
theorem SlAt.slr {w : World} {S : Nat → Prop} {v : Value} {l : List Int} (h : SlAt w S v l) : SlR w v l := by
  obtain ⟨A, c, h1, h2, _, h4, _⟩ := h
  exact ⟨A, c, h1, h2, h4⟩
/-- An envelope lies at g. -/
def EvAt (w : World) (g : Nat) (k : Int) (d ty pl sg : List Int) : Prop := ∃ gt vt vp vs v4 v5 v6 v7, Blk w g #[.iface 77 (.pointer (some ⟨gt, 0, none⟩)), vt, vp, vs, v4, v5, v6, v7] 75 ∧ ToyAt w gt k d ∧ SlR w vt ty ∧ SlR w vp pl ∧ SlR w vs sg
theorem EvAt.keepN {w w' : World} {g : Nat} {k : Int} {d ty pl sg : List Int} (h : EvAt w g k d ty pl sg) (kk : Kp no w w') : EvAt w' g k d ty pl sg := by
  obtain ⟨gt, vt, vp, vs, v4, v5, v6, v7, h1, h2, h3, h4, h5⟩ := h
  exact ⟨gt, vt, vp, vs, v4, v5, v6, v7, h1.keepN kk, h2.keepN kk, h3.keepN kk, h4.keepN kk, h5.keepN kk⟩
def UEP (w : World) (k : Int) (d ty pl sg : List Int) (e : Ending) (w' : World) : Prop :=
  Kp no w w' ∧ if 0 ≤ k ∧ k ≤ 3 ∧ 0 < d.length then ∃ g, e = .returned (.tuple #[.pointer (some ⟨g, 0, none⟩), .nilIface]) ∧ w.heap.size ≤ g ∧ EvAt w' g k d ty pl sg
  else ∃ t v, e = .returned (.tuple #[.pointer none, .iface t v])
set_option maxHeartbeats 8000000 in
theorem unmarshal_calls {w : World} {A : Option Addr} {n c : Nat} {l d ty pl sg : List Int} {k : Int} (h : Rd w A n c l) (hn : n ≤ 1099511627776) (hE : EErrs w) (hlo : Lo w.heap.size A) (hB : IsErr w 10)
    (hst : efin (whole estep l ES.zero) = .ok ⟨some (some k, some d), ty, pl, sg⟩) (hd : d.length ≤ 100000) :
    Calls Tryz.prog 21 #[.slice A n c] w (UEP w k d ty pl sg) := by
  have ka : Kp no w (w.alloc (.cells #[.pointer none, .slice none 0 0, .slice none 0 0, .slice none 0 0] 65)) := (Kp.refl _ _).alloc _
  have B0 := Blk.new w #[.pointer none, .slice none 0 0, .slice none 0 0, .slice none 0 0] 65
  have D1 := Lib.hid (EUnmarshal_calls (h.keepN ka) hn (hE.keepN ka) w.heap.size 65 hE.k.sz _ _ _ _ B0 (fun a e => by have h1 := hlo a e; intro h2; have h2 : a.block = w.heap.size := h2; omega) (hlo.mono ka.size))
  have HST := Lib.hid hst
  have HB := Lib.hid hB
  have HD := Lib.hid hd
  clear h hE hlo hst hB hd B0
  go_enter Tryz.func21, Tryz.ntmps21
  go_wp2_with (fail)
  refine D1.out.mono ?_
  rintro e w1 ⟨k1, pk, vt, vp, vs, st, b1, est, hf⟩
  have hf2 := hf.2
  rw [HST.out] at hf2
  obtain ⟨rfl, rfl⟩ := hf2
  obtain ⟨gk, pt, sl, rfl, hne, hge, hbk, hks⟩ := est.key
  have hk1 : Kp no w w1 := ka.trans k1 (fun i hi h => by have h : i = w.heap.size := h; omega)
  have HT := Lib.hid (And.intro est.ty.slr (And.intro est.pl.slr est.sg.slr))
  have D2 := fun W (kk : Kp no w1 W) => Lib.hid (fromProto_calls (w := W) (hbk.keepN kk) (hks.keepN kk) HD.out ((HB.out.keepN hk1).keepN kk))
  have c0 : w1.cell? ⟨w.heap.size, 0, none⟩ = some (.pointer (some ⟨gk, 0, none⟩)) := b1.cell 0
  have HB1 := Lib.hid b1
  clear hf est hbk hks b1 hge hne
  go_wp2_with (fail)
  refine (D2 _ (Kp.refl _ _)).out.mono ?_
  rintro e w2 ⟨k2, hr⟩
  have HT2 := Lib.hid (And.intro (HT.out.1.keepN k2) (And.intro (HT.out.2.1.keepN k2) (HT.out.2.2.keepN k2)))
  have b2 := HB1.out.keepN k2
  have hk2 := hk1.then k2
  by_cases hok : 0 ≤ k ∧ k ≤ 3 ∧ 0 < d.length
  · rw [if_pos hok] at hr
    obtain ⟨gt, rfl, hgt, htoy⟩ := hr
    obtain ⟨B1, e1, rfl, r1, m1⟩ := HT2.out.1
    obtain ⟨B2, e2, rfl, r2, m2⟩ := HT2.out.2.1
    obtain ⟨B3, e3, rfl, r3, m3⟩ := HT2.out.2.2
    have c1 : w2.cell? ⟨w.heap.size, 1, none⟩ = some (.slice B1 ty.length e1) := b2.cell 1
    have c2 : w2.cell? ⟨w.heap.size, 2, none⟩ = some (.slice B2 pl.length e2) := b2.cell 2
    have c3 : w2.cell? ⟨w.heap.size, 3, none⟩ = some (.slice B3 sg.length e3) := b2.cell 3
    have kz : Kp no w2 (w2.alloc (.cells #[.iface 77 (.pointer (some ⟨gt, 0, none⟩)), .slice B1 ty.length e1, .slice B2 pl.length e2, .slice B3 sg.length e3, .nilIface, .nilIface, .bool false, .nilFunc] 75)) := (Kp.refl _ _).alloc _
    have HF : Hid (UEP w k d ty pl sg (.returned (.tuple #[.pointer (some ⟨w2.heap.size, 0, none⟩), .nilIface])) (w2.alloc (.cells #[.iface 77 (.pointer (some ⟨gt, 0, none⟩)), .slice B1 ty.length e1, .slice B2 pl.length e2, .slice B3 sg.length e3, .nilIface, .nilIface, .bool false, .nilFunc] 75))) :=
      Lib.hid ⟨hk2.then kz, by rw [if_pos hok]; exact ⟨w2.heap.size, rfl, hk2.size, gt, _, _, _, _, _, _, _, Blk.new w2 _ _, htoy.keepN kz, ⟨B1, e1, rfl, r1.keepN kz, m1.mono kz.size⟩, ⟨B2, e2, rfl, r2.keepN kz, m2.mono kz.size⟩, ⟨B3, e3, rfl, r3.keepN kz, m3.mono kz.size⟩⟩⟩
    clear hok htoy b2 r1 r2 r3 kz HT HT2
    go_wp2
    go_ret2
    exact HF.out
  · rw [if_neg hok] at hr
    obtain ⟨t, v, rfl⟩ := hr
    have HOK := Lib.hid hok
    clear hok b2
    have HF : Hid (UEP w k d ty pl sg (.returned (.tuple #[.pointer none, .iface t v])) w2) := Lib.hid ⟨hk2, by rw [if_neg HOK.out]; exact ⟨t, v, rfl⟩⟩
    go_wp2
    go_ret2
    exact HF.out
end Go.Proofs.YtddofkeajinjpaaGreatDoor
namespace Go.Proofs.YtddofkeajinjpaaGreatDoor
open Go Go.RowKit
set_option linter.unusedVariables false
set_option linter.unusedSimpArgs false
set_option maxRecDepth 100000

/-- A text with its bytes. -/
def ValP (w : World) (ok : Bool) (e : Ending) (w' : World) : Prop := Kp no w w' ∧ if ok then e = .returned .nilIface else ∃ t v, e = .returned (.iface t v)
set_option maxHeartbeats 8000000 in
theorem validate_calls {w : World} {g : Nat} {k : Int} {d ty pl sg K dl : List Int} (hV : EvAt w g k d ty pl sg) (hK : Keys w K) (hdl : Byt dl) (hdn : dl.length ≤ 1000) (hd : d.length ≤ 300) (ht : ty.length ≤ 1000) (hp : pl.length ≤ 10000)
    (hI : IsErr w 3) :
    Calls Tryz.prog 38 #[.pointer (some ⟨g, 0, none⟩), .string (strOfNums dl)] w (ValP w (decide (sgn K d (uns dl ty pl) = sg))) := by
  obtain ⟨gt, vt, vp, vs, v4, v5, v6, v7, hb, hT, ⟨B1, e1, rfl, r1, m1⟩, ⟨B2, e2, rfl, r2, m2⟩, ⟨B3, e3, rfl, r3, m3⟩⟩ := hV
  have D1 := Lib.hid (fun W (kk : Kp no w W) => makeUnsigned_calls (w := W) hdl hdn (r1.keepN kk) ht (r2.keepN kk) hp)
  have HUL := Lib.hid (show (uns dl ty pl).length ≤ 20000 from by
    unfold uns
    rw [List.length_append, List.length_append, part_len, part_len, part_len]
    have := (vint_len (dl.length : Int)).2; have := (vint_len (ty.length : Int)).2; have := (vint_len (pl.length : Int)).2
    omega)
  have D2 := Lib.hid (fun W (kk : Kp no w W) A c (hR : Rd W A (uns dl ty pl).length c (uns dl ty pl)) (hl : Lo W.heap.size A) => verify_calls (hT.keepN kk) (hK.keepN kk) hR hl (r3.keepN kk) hd (by have := HUL.out; omega))
  have HI := Lib.hid hI
  have cc0 : w.cell? ⟨g, 0, none⟩ = some (.iface 77 (.pointer (some ⟨gt, 0, none⟩))) := hb.cell 0
  have cc1 : w.cell? ⟨g, 1, none⟩ = some (.slice B1 ty.length e1) := hb.cell 1
  have cc2 : w.cell? ⟨g, 2, none⟩ = some (.slice B2 pl.length e2) := hb.cell 2
  have cc3 : w.cell? ⟨g, 3, none⟩ = some (.slice B3 sg.length e3) := hb.cell 3
  generalize strOfNums dl = ds at *
  obtain ⟨b, hbb⟩ : ∃ b, b = decide (sgn K d (uns dl ty pl) = sg) := ⟨_, rfl⟩
  rw [← hbb] at D2 ⊢
  have HBB := Lib.hid hbb
  obtain ⟨U, hU⟩ : ∃ U, U = uns dl ty pl := ⟨_, rfl⟩
  rw [← hU] at D1 D2 HUL
  obtain ⟨n1, hn1⟩ : ∃ n, n = ty.length := ⟨_, rfl⟩
  obtain ⟨n2, hn2⟩ : ∃ n, n = pl.length := ⟨_, rfl⟩
  obtain ⟨n3, hn3⟩ : ∃ n, n = sg.length := ⟨_, rfl⟩
  rw [← hn1] at D1 cc1
  rw [← hn2] at D1 cc2
  rw [← hn3] at D2 cc3
  have HCC := Lib.hid (And.intro cc0 cc3)
  clear hb hT r1 r2 r3 m1 m2 m3 hK hI hdl hdn hd ht hp hbb hU hn1 hn2 hn3
  go_enter Tryz.func38, Tryz.ntmps38
  go_upto_region 1 with (fail)
  go_cut [5, 6, 8] from 9 to 20 (fun v5 v6 _ wx => ∃ A c, v5 = .slice A U.length c ∧ v6 = .nilIface ∧ Rd wx A U.length c U ∧ Lo wx.heap.size A ∧ Kp no w wx)
  case first =>
    go_region_with (go_at_call 50; refine (D1.out _ (Kp.refl _ _).drew).mono ?_; rintro e w1 ⟨A1, c1, rfl, R1, L1, k1⟩)
    all_goals
      go_wp2
      go_meet
      case rel => exact ⟨A1, c1, rfl, rfl, R1, L1, (Kp.refl _ _).drew.then k1⟩
  case rest =>
    obtain ⟨A1, c1, rfl, rfl, R1, L1, k1⟩ := hcut
    obtain ⟨w1, rfl⟩ : ∃ x : World, x = wc := ⟨_, rfl⟩
    have q0 := k1.cellN HCC.out.1
    have q3 := k1.cellN HCC.out.2
    have kd : Kp no w1 w1.drew := (Kp.refl _ _).drew
    have D3 := Lib.hid (D2.out w1.drew (k1.then kd) A1 c1 (R1.keepN kd) (L1.mono kd.size))
    have HI1 := Lib.hid (HI.out.keepN k1)
    clear R1 L1 cc1 cc2 cc0 cc3
    generalize U.length = nu at *
    go_upto_region 4 with (fail)
    go_cut [6, 7, 24] from 25 to 38 (fun v6 v7 _ wx => v6 = .nilIface ∧ v7 = .bool b ∧ Kp no w1 wx)
    case first =>
      go_region_with (go_at_call 94; refine D3.out.mono ?_; rintro e w2 ⟨rfl, k2⟩)
      all_goals
        go_wp2
        go_meet
        case rel => exact ⟨rfl, rfl, kd.then k2⟩
    case rest =>
      obtain ⟨rfl, rfl, k2⟩ := hcut
      have k3 := k1.then k2
      obtain ⟨t, v, hc⟩ := HI1.out.keepN k2
      cases b with
      | true =>
        have HF : Hid (ValP w true (.returned .nilIface) wc) := Lib.hid ⟨k3, rfl⟩
        go_wp2
        go_ret
        exact HF.out
      | false =>
        have HF : Hid (ValP w false (.returned (.iface t v)) wc) := Lib.hid ⟨k3, t, v, rfl⟩
        go_wp2
        go_ret
        exact HF.out
/-- What is consumed. -/
def ConP (w : World) (g : Nat) (ok : Bool) (s : ByteArray) (vc : Value) (pl : List Int) (e : Ending) (w' : World) : Prop :=
  Kp (· = g) w w' ∧ if ok then (∃ v, e = .returned (.tuple #[v, .nilIface])) ∧ ∃ A c, Gv w' g s vc (.slice A pl.length c) ∧ Rd w' A pl.length c pl ∧ Lo w'.heap.size A
  else ∃ v t x, e = .returned (.tuple #[v, .iface t x])
theorem errNewR {w : World} (s : ByteArray) : Calls Tryz.prog 37 #[.string s] w fun e w' => ∃ t x, e = .returned (.iface t x) ∧ Kp no w w' := by
  go_enter Tryz.func37, Tryz.ntmps37
  go_wp2
  go_ret
  exact ⟨_, _, rfl, (Kp.refl _ _).alloc _⟩
theorem ahead_unm (a : Addr) (w : World) : (nilAhead 280 55 (.pointer (some a)) "UnmarshalRecord").run Tryz.prog w = .ok (some false) w := by kernel_rfl
set_option maxHeartbeats 8000000 in
theorem consume_calls {w : World} {A : Option Addr} {n c g : Nat} {l d ty pl sg K dl : List Int} {k : Int} {vc vp : Value} (h : Rd w A n c l) (hn : n ≤ 1099511627776) (hE : EErrs w) (hlo : Lo w.heap.size A)
    (hB : IsErr w 10) (hI : IsErr w 3)
    (hst : efin (whole estep l ES.zero) = .ok ⟨some (some k, some d), ty, pl, sg⟩) (hd : d.length ≤ 300) (ht : ty.length ≤ 1000) (hp : pl.length ≤ 10000)
    (hK : Keys w K) (hdl : Byt dl) (hdn : dl.length ≤ 1000) (hG : Gv w g (strOfNums dl) vc vp) :
    Calls Tryz.prog 26 #[.slice A n c, .iface 55 (.pointer (some ⟨g, 0, none⟩))] w
      (ConP w g (decide (0 ≤ k ∧ k ≤ 3 ∧ 0 < d.length) && decide (sgn K d (uns dl ty pl) = sg)) (strOfNums dl) vc pl) := by
  have D1 := Lib.hid (unmarshal_calls h hn hE hlo hB hst (by omega))
  have HK := Lib.hid hK
  have HI := Lib.hid hI
  have HG := Lib.hid hG
  have hglt := Blk.lt hG
  have HN := Lib.hid (And.intro hd (And.intro ht (And.intro hp (And.intro hdl hdn))))
  have hna := ahead_unm
  clear h hE hlo hB hI hst hK hdl hdn hG hd ht hp
  by_cases hok : 0 ≤ k ∧ k ≤ 3 ∧ 0 < d.length
  · have HOK := Lib.hid hok
    have e0 : decide (0 ≤ k ∧ k ≤ 3 ∧ 0 < d.length) = true := decide_eq_true hok
    rw [e0, Bool.true_and]
    clear hok e0
    have D3 := Lib.hid (fun (w1 : World) (kk : Kp no w w1) (ge : Nat) (hev : EvAt w1 ge k d ty pl sg) => validate_calls (w := w1) hev (HK.out.keepN kk) HN.out.2.2.2.1 HN.out.2.2.2.2 HN.out.1 HN.out.2.1 HN.out.2.2.1 (HI.out.keepN kk))
    obtain ⟨b, hbb⟩ : ∃ b, b = decide (sgn K d (uns dl ty pl) = sg) := ⟨_, rfl⟩
    rw [← hbb] at D3 ⊢
    clear hbb
    obtain ⟨ds, hds⟩ : ∃ ds, ds = strOfNums dl := ⟨_, rfl⟩
    rw [← hds] at D3 HG ⊢
    clear hds
    go_enter Tryz.func26, Tryz.ntmps26
    go_wp2_with (fail)
    refine D1.out.mono ?_
    rintro e w1 ⟨k1, hr⟩
    rw [if_pos HOK.out] at hr
    obtain ⟨ge, rfl, hge, hev⟩ := hr
    have HEV := Lib.hid hev
    have HG1 := Lib.hid (Blk.keepN HG.out k1)
    have D2 := Lib.hid (gvDomain_calls (w := w1) HG1.out)
    have D3 := Lib.hid (D3.out w1 k1 ge hev)
    clear hev
    go_wp2_with (fail)
    refine D2.out.mono ?_
    rintro e w2 ⟨rfl, rfl⟩
    go_wp2_with (fail)
    refine D3.out.mono ?_
    rintro e w2 ⟨k2, hr2⟩
    cases b with
    | false =>
      obtain ⟨t, v, rfl⟩ := hr2
      have D4 := fun s => Lib.hid (errNewR (w := w2) s)
      go_wp2_with (fail)
      refine (D4 _).out.mono ?_
      rintro e w3 ⟨t2, v2, rfl, k3⟩
      have HF : Hid (ConP w g false ds vc pl (.returned (.tuple #[.pointer (some ⟨ge, 0, none⟩), .iface t2 v2])) w3) := Lib.hid ⟨((k1.then k2).then k3).mono (fun _ _ h => h.elim), _, t2, v2, rfl⟩
      go_wp2
      go_ret2
      exact HF.out
    | true =>
      obtain rfl : e = .returned .nilIface := hr2
      have HEV2 := Lib.hid (HEV.out.keepN k2)
      have HG2 := Lib.hid (Blk.keepN HG1.out k2)
      have k02 := k1.then k2
      obtain ⟨gt, vt, vp2, vs, v4, v5, v6, v7, hb, _, _, ⟨P1, q1, rfl, rp, lp⟩, _⟩ := HEV2.out
      have cc2 : w2.cell? ⟨ge, 2, none⟩ = some (.slice P1 pl.length q1) := hb.cell 2
      have HB := Lib.hid hb
      have D5 := Lib.hid (gvUnmarshal_calls (w := w2.drew) (g := g) (s := ds) (vc := vc) (vp := vp) (Blk.drew HG2.out) (rp.keepN (Kp.refl _ _).drew) (by have := HN.out.2.2.1; omega))
      clear hb rp lp
      obtain ⟨np, hnp⟩ : ∃ x, x = pl.length := ⟨_, rfl⟩
      rw [← hnp] at cc2 D5
      clear hnp
      go_upto_region 7 with (fail)
      go_cut [5] from 23 to 31 (fun v5 wx => v5 = .nilIface ∧ GvTook w2.drew g ds vc pl (.returned .nilIface) wx)
      case first =>
        go_region_with (go_at_call 88; refine D5.out.mono ?_; rintro e w3 hgt; obtain rfl := hgt.1)
        all_goals
          go_wp2
          go_meet
          case rel => exact ⟨rfl, hgt⟩
      case rest =>
        obtain ⟨rfl, _, k3, A3, c3, HG3, R3, L3, N3⟩ := hcut
        obtain ⟨w3, rfl⟩ : ∃ x : World, x = wc := ⟨_, rfl⟩
        have hge3 : ge ≠ g := by omega
        have kd3 : Kp (· = g) w2 w3 := (show Kp (· = g) w2 w2.drew from (Kp.refl _ _).drew).trans k3 (fun _ _ h => h)
        have hb3 := Blk.keep HB.out kd3 hge3
        have cc4 : w3.cell? ⟨ge, 4, none⟩ = some v4 := hb3.cell 4
        have ff4 := hb3.free 4
        have HG4 := Blk.far HG3 (p := ⟨ge, 4, none⟩) (Ne.symm hge3) (.iface 55 (.pointer (some ⟨g, 0, none⟩)))
        have hgE : w.heap.size ≤ ge := hge
        have HF : Hid (ConP w g true ds vc pl (.returned (.tuple #[.pointer (some ⟨ge, 0, none⟩), .nilIface])) (w3.setCell ⟨ge, 4, none⟩ (.iface 55 (.pointer (some ⟨g, 0, none⟩))))) := by
          refine Lib.hid ⟨((k02.mono (fun _ _ h => h.elim)).trans kd3 (fun _ _ h => h)).setCell (p := ⟨ge, 4, none⟩) (fun h => by have h : ge < w.heap.size := h; omega) _, ⟨_, rfl⟩, A3, c3, HG4, R3.keep (Kp.setCell (S := (· = ge)) (Kp.refl _ w3) (p := ⟨ge, 4, none⟩) (fun _ => rfl) _) (fun a e h => by have h : a.block = ge := h; have h2 : w2.heap.size ≤ a.block := N3 a e; have h3 := HB.out.lt; omega), fun a e => by have := L3 a e; simpa [World.setCell] using this⟩
        clear hb3 HG3 HG4 R3 L3 N3
        go_wp2
        go_ret2
        exact HF.out
  · have e0 : decide (0 ≤ k ∧ k ≤ 3 ∧ 0 < d.length) = false := decide_eq_false hok
    have HOK := Lib.hid hok
    rw [e0, Bool.false_and]
    clear hok e0
    go_enter Tryz.func26, Tryz.ntmps26
    go_wp2_with (fail)
    refine D1.out.mono ?_
    rintro e w1 ⟨k1, hr⟩
    rw [if_neg HOK.out] at hr
    obtain ⟨t, v, rfl⟩ := hr
    have D4 := fun s => Lib.hid (errNewR (w := w1) s)
    go_wp2_with (fail)
    refine (D4 _).out.mono ?_
    rintro e w3 ⟨t2, v2, rfl, k3⟩
    have HF : Hid (ConP w g false (strOfNums dl) vc pl (.returned (.tuple #[.pointer none, .iface t2 v2])) w3) := Lib.hid ⟨(k1.then k3).mono (fun _ _ h => h.elim), _, t2, v2, rfl⟩
    go_wp2
    go_ret2
    exact HF.out
end Go.Proofs.YtddofkeajinjpaaGreatDoor
