/- impl.toyOf, givenOf, sealed and Sealed, where all is right. impl.sealed and Sealed, where all is right. recordAwake: what is sealed is opened, over whatever keys the library's SHA2-256 has. -/
import Derived.Test.YtddofkeajinjpaaGreatDoorSeA
import Derived.Deep.RegionHeld3
import Derived.Lib.SlBytesConst
import Derived.Lib.SmallJoins
namespace Go.Proofs.YtddofkeajinjpaaGreatDoor
open Go Go.RowKit
set_option linter.unusedVariables false
set_option linter.unusedSimpArgs false
set_option maxRecDepth 100000

def TyP (w : World) (k : Int) (d : List Int) (e : Ending) (w' : World) : Prop := Kp no w w' ∧ ∃ g, e = .returned (.tuple #[.pointer (some ⟨g, 0, none⟩), .bool true]) ∧ ToyAt w' g k d
set_option maxHeartbeats 8000000 in
theorem toyOf_calls {w : World} {A : Option Addr} {n c : Nat} {k : Int} {d : List Int} (hR : Rd w A n c d) (h0 : 0 ≤ k) (h1 : k ≤ 3) (hn : 0 < n) (hn2 : n ≤ 100000) :
    Calls Tryz.prog 34 #[.agg #[.int .i32 k, .slice A n c]] w (TyP w k d) := by
  have hl := hR.len
  have BX := Blk.new w #[.int .i32 k, .slice A n c] 34
  have ka : Kp no w (w.alloc (.cells #[.int .i32 k, .slice A n c] 34)) := (Kp.refl _ _).alloc _
  have kd : Kp no (w.alloc (.cells #[.int .i32 k, .slice A n c] 34)) (w.alloc (.cells #[.int .i32 k, .slice A n c] 34)).drew := (Kp.refl _ _).drew
  have C1 := Lib.hid (Clone_calls (w := (w.alloc (.cells #[.int .i32 k, .slice A n c] 34)).drew) ((hR.keepN ka).keepN kd) (by omega))
  have C2 := Lib.hid (fun (W : World) A1 c1 (hr : Rd W A1 d.length c1 d) (hlo : Lo W.heap.size A1) => newToy_yes (w := W) k h0 h1 hr hlo (by omega) (by omega))
  have b0 := (BX.drew).cell 0
  have q0 : (w.alloc (.cells #[.int .i32 k, .slice A n c] 34)).cell? ⟨w.heap.size, 0, none⟩ = some (.int .i32 k) := BX.cell 0
  have q1 : (w.alloc (.cells #[.int .i32 k, .slice A n c] 34)).cell? ⟨w.heap.size, 1, none⟩ = some (.slice A n c) := BX.cell 1
  have HBX := Lib.hid BX
  obtain ⟨nd, hnd⟩ : ∃ x, x = d.length := ⟨_, rfl⟩
  have HND := Lib.hid hnd
  clear hR hl BX b0 hnd
  go_enter Tryz.func34, Tryz.ntmps34
  go_upto_region 1 with (fail)
  generalize w.alloc (.cells #[.int .i32 k, .slice A n c] 34) = W0 at *
  go_cut [4, 5, 6] from 7 to 14 (fun v4 v5 _ wx => ∃ g, v4 = .pointer (some ⟨g, 0, none⟩) ∧ v5 = .nilIface ∧ ToyAt wx g k d ∧ Kp no w wx)
  case first =>
    go_region_with (first
      | (go_at_call 47; refine D7.out.mono ?_; rintro e w2 ⟨g2, rfl, hg2, ht2, k2⟩)
      | (go_at_call 22; refine C1.out.mono ?_; rintro e w1 ⟨A1, c1, rfl, M1⟩; have D7 := Lib.hid (C2.out w1 A1 c1 M1.rd M1.lo); have q0' : w1.cell? ⟨w.heap.size, 0, none⟩ = some (.int .i32 k) := M1.kp.cellN (kd.cellN q0); have k1 := M1.kp; clear M1; rw [← HND.out] at D7 ⊢))
    all_goals
      go_wp2
      go_meet
      case rel => exact ⟨g2, rfl, rfl, ht2, ((ka.then kd).then k1).then k2⟩
  case rest =>
    obtain ⟨g, rfl, rfl, ht, k1⟩ := hcut
    have HF := Lib.hid (fun nq => (show TyP w k d (.returned (.tuple #[.pointer (some ⟨g, 0, none⟩), .bool true])) (wc.drewN nq) from ⟨k1.then (Kp.byDraws _ nq), g, rfl, ht.keepN (Kp.byDraws _ nq)⟩))
    clear ht
    go_upto_region 2 with (fail)
    go_quiet (fail)
    go_wp2
    go_ret2
    exact HF.out _
def GvP (w : World) (s : ByteArray) (ty pl : List Int) (e : Ending) (w' : World) : Prop := Kp no w w' ∧ ∃ g A1 c1 A2 c2, e = .returned (.pointer (some ⟨g, 0, none⟩)) ∧ Gv w' g s (.slice A1 ty.length c1) (.slice A2 pl.length c2) ∧ Rd w' A1 ty.length c1 ty ∧ Lo w'.heap.size A1 ∧ Rd w' A2 pl.length c2 pl ∧ Lo w'.heap.size A2
set_option maxHeartbeats 8000000 in
theorem givenOf_calls {w : World} {A B : Option Addr} {c b : Nat} {s : ByteArray} {ty pl : List Int} (hR : Rd w A ty.length c ty) (hn : ty.length ≤ 100000) (hS : Rd w B pl.length b pl) (hm : pl.length ≤ 100000) :
    Calls Tryz.prog 25 #[.agg #[.string s, .slice A ty.length c, .slice B pl.length b]] w (GvP w s ty pl) := by
  have hb := Blk.new w #[.string s, .slice A ty.length c, .slice B pl.length b] 30
  have ka : Kp no w (w.alloc (.cells #[.string s, .slice A ty.length c, .slice B pl.length b] 30)) := (Kp.refl _ _).alloc _
  go_enter Tryz.func25, Tryz.ntmps25
  go_upto_region 1 with (fail)
  generalize w.alloc (.cells #[.string s, .slice A ty.length c, .slice B pl.length b] 30) = W1 at *
  have kd : Kp no W1 W1.drew := (Kp.refl _ _).drew
  have R1 := hR.keepN ka
  have R2 := hS.keepN ka
  have D1 := fun W (k : Kp no W1 W) => Lib.hid (Clone_calls (R1.keepN k) (by omega))
  have D2 := fun W (k : Kp no W1 W) => Lib.hid (Clone_calls (R2.keepN k) (by omega))
  have hS0 : ∀ W, Kp no W1 W → Kp no W1 W ∧ W.cell? ⟨w.heap.size, 0, none⟩ = some (.string s) ∧ W.cell? ⟨w.heap.size, 1, none⟩ = some (.slice A ty.length c) ∧ W.cell? ⟨w.heap.size, 2, none⟩ = some (.slice B pl.length b) := fun W k => ⟨k, (hb.keepN k).cell 0, (hb.keepN k).cell 1, (hb.keepN k).cell 2⟩
  have HS := Lib.hid hS0
  have HKA := Lib.hid ka
  clear hS0 hR hS ka
  go_cut [2] from 3 to 13 (fun v wx => GvP w s ty pl (.returned v) wx)
  case first =>
    go_region_held3 (fun W => Kp no W1 W ∧ W.cell? ⟨w.heap.size, 0, none⟩ = some (.string s) ∧ W.cell? ⟨w.heap.size, 1, none⟩ = some (.slice A ty.length c) ∧ W.cell? ⟨w.heap.size, 2, none⟩ = some (.slice B pl.length b))
      ((exact HS.out _ (by first | with_reducible exact kd | with_reducible exact k4 | with_reducible exact k5 | with_reducible exact k5.alloc _)))
      (first
      | (go_at_call 22; refine (D2 _ (by with_reducible exact k4)).out.mono ?_; rintro e w5 ⟨A5, c5, rfl, M5⟩; have k5 := k4.then M5.kp)
      | (go_at_call 22; refine (D1 _ (by with_reducible exact kd)).out.mono ?_; rintro e w4 ⟨A4, c4, rfl, M4⟩; have k4 := kd.then M4.kp))
    all_goals
      go_wp2_with (fail)
      go_meet
      case rel =>
        have kz : Kp no w5 (w5.alloc (.cells #[.string s, .slice A4 ty.length c4, .slice A5 pl.length c5] 58)) := (Kp.refl _ _).alloc _
        exact ⟨HKA.out.then (k5.then kz), w5.heap.size, A4, c4, A5, c5, rfl, Blk.new w5 _ _, M4.rd.keepN (M5.kp.then kz), M4.lo.mono (M5.kp.then kz).size, M5.rd.keepN kz, M5.lo.mono kz.size⟩
  case rest =>
    have HC := Lib.hid hcut
    clear hcut D1 D2 HS R1 R2 hb
    go_wp2
    go_ret
    exact HC.out
end Go.Proofs.YtddofkeajinjpaaGreatDoor
namespace Go.Proofs.YtddofkeajinjpaaGreatDoor
open Go Go.RowKit
set_option linter.unusedVariables false
set_option linter.unusedSimpArgs false
set_option maxRecDepth 100000

def SdP (w : World) (l : List Int) (e : Ending) (w' : World) : Prop := Kp no w w' ∧ ∃ A c, e = .returned (.tuple #[.slice A l.length c, .bool true]) ∧ Rd w' A l.length c l ∧ Lo w'.heap.size A
set_option maxHeartbeats 8000000 in
theorem sealed_calls {w : World} {g : Nat} {A Ac Ap : Option Addr} {n c cc cp : Nat} {k : Int} {d ty pl K dl : List Int} (hG : Gv w g (strOfNums dl) (.slice Ac ty.length cc) (.slice Ap pl.length cp)) (hR : Rd w A n c d) (hK : Keys w K)
    (hRc : Rd w Ac ty.length cc ty) (hLc : Lo w.heap.size Ac) (hRp : Rd w Ap pl.length cp pl) (hLp : Lo w.heap.size Ap) (hdl : Byt dl) (hdn : dl.length ≤ 1000) (hd : d.length ≤ 300) (ht : ty.length ≤ 1000) (hp : pl.length ≤ 10000) (h1 : 0 < dl.length) (h2 : 0 < ty.length)
    (hk0 : 0 ≤ k) (hk1 : k ≤ 3) (hd0 : 0 < d.length) :
    Calls Tryz.prog 24 #[.iface 55 (.pointer (some ⟨g, 0, none⟩)), .agg #[.int .i32 k, .slice A n c]] w (SdP w (ebb k d ty pl (sgn K d (uns dl ty pl)))) := by
  have hnl := hR.len
  have hb := Blk.new w #[.int .i32 k, .slice A n c] 34
  have ka : Kp no w (w.alloc (.cells #[.int .i32 k, .slice A n c] 34)) := (Kp.refl _ _).alloc _
  have q0 : (w.alloc (.cells #[.int .i32 k, .slice A n c] 34)).cell? ⟨w.heap.size, 0, none⟩ = some (.int .i32 k) := hb.cell 0
  have q1 : (w.alloc (.cells #[.int .i32 k, .slice A n c] 34)).cell? ⟨w.heap.size, 1, none⟩ = some (.slice A n c) := hb.cell 1
  have D1 := Lib.hid (toyOf_calls (hR.keepN ka) hk0 hk1 (by omega) (by omega))
  have D2 := Lib.hid (fun W gt (kk : Kp no w W) (hT : ToyAt W gt k d) => seal_calls (w := W) (Blk.keepN hG kk) hT (hK.keepN kk) (hRc.keepN kk) (hLc.mono kk.size) (hRp.keepN kk) (hLp.mono kk.size) hdl hdn hd ht hp h1 h2)
  have HSL := Lib.hid (sgn_length K d (uns dl ty pl))
  obtain ⟨S, hS⟩ : ∃ S, S = sgn K d (uns dl ty pl) := ⟨_, rfl⟩
  rw [← hS] at D2 HSL ⊢
  have D3 := Lib.hid (fun W ge (hV : EvAt W ge k d ty pl S) => envMarshal_calls (w := W) hV hk0 hk1 hd0 hd ht hp (by rw [HSL.out]; omega))
  obtain ⟨l, hl⟩ : ∃ l, l = ebb k d ty pl S := ⟨_, rfl⟩
  rw [← hl] at D3 ⊢
  clear hG hK hRc hLc hRp hLp hdl hdn hd ht hp h1 h2 hS hl hb hR hnl hk0 hk1 hd0
  go_enter Tryz.func24, Tryz.ntmps24
  go_wp2_with (fail)
  refine D1.out.mono ?_
  rintro e w1 ⟨k1, gt, rfl, hT⟩
  have k01 := ka.then k1
  have D2a := Lib.hid (D2.out w1 gt k01 hT)
  clear hT
  go_wp2_with (fail)
  refine D2a.out.mono ?_
  rintro e w2 ⟨k2, ge, rfl, hV⟩
  have D3a := Lib.hid (D3.out w2 ge hV)
  clear hV
  go_wp2_with (fail)
  refine D3a.out.mono ?_
  rintro e w3 ⟨A3, c3, rfl, M3⟩
  have HF := Lib.hid (fun nq => (show SdP w l (.returned (.tuple #[.slice A3 l.length c3, .bool true])) (w3.drewN nq) from ⟨((k01.then k2).then M3.kp).then (Kp.byDraws _ nq), A3, c3, rfl, M3.rd.keepN (Kp.byDraws _ nq), M3.lo.mono (Kp.byDraws w3 nq).size⟩))
  clear M3
  generalize l.length = nl at *
  go_upto_region 8 with (fail)
  go_quiet (fail)
  go_wp2
  go_ret2
  exact HF.out _
set_option maxHeartbeats 8000000 in
theorem Sealed_calls {w : World} {A Ac Ap : Option Addr} {n c cc cp : Nat} {k : Int} {d ty pl K dl : List Int} (hR : Rd w A n c d) (hK : Keys w K)
    (hRc : Rd w Ac ty.length cc ty) (hRp : Rd w Ap pl.length cp pl) (hdl : Byt dl) (hdn : dl.length ≤ 1000) (hd : d.length ≤ 300) (ht : ty.length ≤ 1000) (hp : pl.length ≤ 10000) (h1 : 0 < dl.length) (h2 : 0 < ty.length)
    (hk0 : 0 ≤ k) (hk1 : k ≤ 3) (hd0 : 0 < d.length) :
    Calls Tryz.prog 15 #[.agg #[.string (strOfNums dl), .slice Ac ty.length cc, .slice Ap pl.length cp], .agg #[.int .i32 k, .slice A n c]] w (SdP w (ebb k d ty pl (sgn K d (uns dl ty pl)))) := by
  have hsz : (w.alloc (.cells #[.string (strOfNums dl), .slice Ac ty.length cc, .slice Ap pl.length cp] 30)).heap.size = w.heap.size + 1 := by simp
  have hb1 := (Blk.new w #[.string (strOfNums dl), .slice Ac ty.length cc, .slice Ap pl.length cp] 30).alloc (.cells #[.int .i32 k, .slice A n c] 34)
  have hb2 := Blk.new (w.alloc (.cells #[.string (strOfNums dl), .slice Ac ty.length cc, .slice Ap pl.length cp] 30)) #[.int .i32 k, .slice A n c] 34
  rw [hsz] at hb2
  have ka : Kp no w ((w.alloc (.cells #[.string (strOfNums dl), .slice Ac ty.length cc, .slice Ap pl.length cp] 30)).alloc (.cells #[.int .i32 k, .slice A n c] 34)) := ((Kp.refl _ _).alloc _).alloc _
  have D1 := Lib.hid (fun W (kk : Kp no w W) => givenOf_calls (w := W) (s := strOfNums dl) (hRc.keepN kk) (by omega) (hRp.keepN kk) (by omega))
  have D2 := Lib.hid (fun W g A1 c1 A2 c2 (kk : Kp no w W) (hG : Gv W g (strOfNums dl) (.slice A1 ty.length c1) (.slice A2 pl.length c2)) (r1 : Rd W A1 ty.length c1 ty) (l1 : Lo W.heap.size A1) (r2 : Rd W A2 pl.length c2 pl) (l2 : Lo W.heap.size A2) =>
    sealed_calls (w := W) hG (hR.keepN kk) (hK.keepN kk) r1 l1 r2 l2 hdl hdn hd ht hp h1 h2 hk0 hk1 hd0)
  obtain ⟨l, hl⟩ : ∃ l, l = ebb k d ty pl (sgn K d (uns dl ty pl)) := ⟨_, rfl⟩
  rw [← hl] at D2 ⊢
  clear hl
  generalize strOfNums dl = ds at *
  obtain ⟨n1, hn1⟩ : ∃ x, x = ty.length := ⟨_, rfl⟩
  obtain ⟨n2, hn2⟩ : ∃ x, x = pl.length := ⟨_, rfl⟩
  rw [← hn1, ← hn2] at D1 D2 hb1 hb2 ka ⊢
  have HN := Lib.hid (And.intro hn1 hn2)
  clear hR hK hRc hRp hdl hdn hd ht hp h1 h2 hk0 hk1 hd0 hsz hn1 hn2
  go_enter Tryz.func15, Tryz.ntmps15
  go_upto_region 1 with (fail)
  generalize (w.alloc (.cells #[.string ds, .slice Ac n1 cc, .slice Ap n2 cp] 30)).alloc (.cells #[.int .i32 k, .slice A n c] 34) = W1 at *
  have kd : Kp no W1 W1.drew := (Kp.refl _ _).drew
  have hS0 : ∀ W, Kp no W1 W → Kp no W1 W ∧ W.cell? ⟨w.heap.size, 0, none⟩ = some (.string ds) ∧ W.cell? ⟨w.heap.size, 1, none⟩ = some (.slice Ac n1 cc) ∧ W.cell? ⟨w.heap.size, 2, none⟩ = some (.slice Ap n2 cp) ∧ W.cell? ⟨w.heap.size + 1, 0, none⟩ = some (.int .i32 k) ∧ W.cell? ⟨w.heap.size + 1, 1, none⟩ = some (.slice A n c) :=
    fun W k => ⟨k, (hb1.keepN k).cell 0, (hb1.keepN k).cell 1, (hb1.keepN k).cell 2, (hb2.keepN k).cell 0, (hb2.keepN k).cell 1⟩
  have HS := Lib.hid hS0
  have HKA := Lib.hid ka
  clear hS0 ka hb1 hb2
  go_cut [4, 5] from 6 to 12 (fun v4 v5 wx => ∃ A2 c2, v4 = .slice A2 l.length c2 ∧ v5 = .bool true ∧ Rd wx A2 l.length c2 l ∧ Lo wx.heap.size A2 ∧ Kp no w wx)
  case first =>
    go_region_held3 (fun W => Kp no W1 W ∧ W.cell? ⟨w.heap.size, 0, none⟩ = some (.string ds) ∧ W.cell? ⟨w.heap.size, 1, none⟩ = some (.slice Ac n1 cc) ∧ W.cell? ⟨w.heap.size, 2, none⟩ = some (.slice Ap n2 cp) ∧ W.cell? ⟨w.heap.size + 1, 0, none⟩ = some (.int .i32 k) ∧ W.cell? ⟨w.heap.size + 1, 1, none⟩ = some (.slice A n c))
      ((exact HS.out _ (by first | with_reducible exact kd | with_reducible exact k4 | with_reducible exact k5)))
      (first
      | (go_at_call 24; refine (D7.out).mono ?_; rintro e w5 ⟨k45, A5, c5, rfl, R5, L5⟩; have k5 := k4.then k45)
      | (go_at_call 25; refine (D1.out _ (HKA.out.then kd)).mono ?_; rintro e w4 ⟨k14, g4, A3, c3, A4, c4, rfl, G4, r3, l3, r4, l4⟩; rw [← HN.out.1] at G4 r3; rw [← HN.out.2] at G4 r4; have k4 := kd.then k14; have D7 := Lib.hid (D2.out w4 g4 A3 c3 A4 c4 (HKA.out.then k4) G4 r3 l3 r4 l4); clear G4 r3 l3 r4 l4))
    all_goals
      go_wp2_with (fail)
      go_meet
      case rel => exact ⟨A5, c5, rfl, rfl, R5, L5, HKA.out.then k5⟩
  case rest =>
    obtain ⟨A2, c2, rfl, rfl, hr, hlo, hk⟩ := hcut
    have HF : Hid (SdP w l (.returned (.tuple #[.slice A2 l.length c2, .bool true])) wc) := Lib.hid ⟨hk, A2, c2, rfl, hr, hlo⟩
    clear hr hlo
    go_wp2
    go_ret2
    exact HF.out
end Go.Proofs.YtddofkeajinjpaaGreatDoor
namespace Go.Proofs.YtddofkeajinjpaaGreatDoor
open Go Go.RowKit
set_option linter.unusedVariables false
set_option linter.unusedSimpArgs false
set_option maxRecDepth 100000

/-- What the message of an envelope tells. -/
theorem efin_ebb {k : Int} {d ty pl sg : List Int} (h0 : 0 ≤ k) (h1 : k ≤ 127) (hd : Byt d) (ht : Byt ty) (hp : Byt pl) (hs : Byt sg) (nd : d.length ≤ 300) (nt : ty.length ≤ 10000) (np : pl.length ≤ 10000) (ns : sg.length ≤ 10000) :
    efin (whole estep (ebb k d ty pl sg) ES.zero) = .ok ⟨some (some k, some d), ty, pl, sg⟩ ∧ Byt (ebb k d ty pl sg) ∧ (ebb k d ty pl sg).length ≤ 40000 := by
  have hx : EOkL ⟨true, k, none, 0, d, none, 0, ty, none, 0, pl, none, 0, sg⟩ := ⟨by show -2147483648 ≤ k; omega, by show k ≤ 2147483647; omega, hd, ht, hp, hs, nd, nt, np, ns⟩
  have h2 := wf_ebL hx
  have h3 := fo_ebfL hx
  have e : eb ⟨true, k, none, 0, d, none, 0, ty, none, 0, pl, none, 0, sg⟩ = ebb k d ty pl sg := rfl
  rw [e] at h2
  refine ⟨?_, e ▸ eb_bytL hx, e ▸ eb_lenL hx⟩
  rw [whole_ok h2, h3]
  rfl
theorem Rd.litm (W : World) (e : TypeId) (l : List Int) (fr : Nat × Nat) (hl : Byt l) (hm : l.length ≤ 9223372036854775807) :
    Rd (W.alloc (.cells (nums .u8 l).toArray e fr)) (some ⟨W.heap.size, 0, none⟩) l.length l.length l := by
  refine ⟨rfl, Nat.le_refl _, hm, hl, fun _ => ⟨W.heap.size, 0, rfl, fun j hj => ?_⟩⟩
  rw [Nat.zero_add, World.cell?_alloc_mark]
  simp [nums, List.getD_eq_getElem?_getD, List.getElem?_eq_getElem hj]
/-- The fixed example's envelope. -/
def awL (K : List Int) : List Int := ebb 1 [107] [3] [112] (sgn K [107] (uns [100] [3] [112]))
theorem awL_ok (K : List Int) : efin (whole estep (awL K) ES.zero) = .ok ⟨some (some 1, some [107]), [3], [112], sgn K [107] (uns [100] [3] [112])⟩ ∧ Byt (awL K) ∧ (awL K).length ≤ 40000 :=
  efin_ebb (by omega) (by omega) (Byt.one (by omega) (by omega)) (Byt.one (by omega) (by omega)) (Byt.one (by omega) (by omega)) (sgn_byt _ _ _) (by simp) (by simp) (by simp) (by rw [sgn_length]; omega)
set_option maxHeartbeats 8000000 in
theorem awake_calls {w : World} {K : List Int} (hW : OpW w K) :
    Calls Tryz.prog 6 #[] w fun e w' => e = .returned (.bool true) ∧ Kp no w w' := by
  have kc1 : (convert 28 28 (.slice (some ⟨w.heap.size + 1, 0, none⟩) 1 1)).run Tryz.prog ((w.alloc (.cells #[.int .u8 3] 5)).alloc (.cells #[.int .u8 112] 5)) = .ok (.slice (some ⟨w.heap.size + 1, 0, none⟩) 1 1) ((w.alloc (.cells #[.int .u8 3] 5)).alloc (.cells #[.int .u8 112] 5 (1, 2))) :=
    Go.Joins.run_convert_bytes_const_at (w.alloc (.cells #[.int .u8 3] 5)) 28 5 #[.int .u8 112] 1 1 (w.heap.size + 1) (by simp) Tryz.und_bytes Tryz.und_byte
  have kc2 : (convert 28 28 (.slice (some ⟨w.heap.size + 2, 0, none⟩) 1 1)).run Tryz.prog (((w.alloc (.cells #[.int .u8 3] 5)).alloc (.cells #[.int .u8 112] 5 (1, 2))).alloc (.cells #[.int .u8 107] 5)) = .ok (.slice (some ⟨w.heap.size + 2, 0, none⟩) 1 1) (((w.alloc (.cells #[.int .u8 3] 5)).alloc (.cells #[.int .u8 112] 5 (1, 2))).alloc (.cells #[.int .u8 107] 5 (1, 2))) :=
    Go.Joins.run_convert_bytes_const_at ((w.alloc (.cells #[.int .u8 3] 5)).alloc (.cells #[.int .u8 112] 5 (1, 2))) 28 5 #[.int .u8 107] 1 1 (w.heap.size + 2) (by simp) Tryz.und_bytes Tryz.und_byte
  have ka : Kp no w (((w.alloc (.cells #[.int .u8 3] 5)).alloc (.cells #[.int .u8 112] 5 (1, 2))).alloc (.cells #[.int .u8 107] 5 (1, 2))) := (((Kp.refl _ _).alloc _).alloc _).alloc _
  have s1 : (w.alloc (.cells #[.int .u8 3] 5)).heap.size = w.heap.size + 1 := by simp
  have s2 : ((w.alloc (.cells #[.int .u8 3] 5)).alloc (.cells #[.int .u8 112] 5 (1, 2))).heap.size = w.heap.size + 2 := by simp
  have r1 := ((Rd.lit w 5 [3] (Byt.one (by omega) (by omega)) (by simp)).keepN ((Kp.refl no _).alloc (.cells #[.int .u8 112] 5 (1, 2)))).keepN ((Kp.refl no _).alloc (.cells #[.int .u8 107] 5 (1, 2)))
  have r2 := (Rd.litm (w.alloc (.cells #[.int .u8 3] 5)) 5 [112] (1, 2) (Byt.one (by omega) (by omega)) (by simp)).keepN ((Kp.refl no _).alloc (.cells #[.int .u8 107] 5 (1, 2)))
  have r3 := Rd.litm ((w.alloc (.cells #[.int .u8 3] 5)).alloc (.cells #[.int .u8 112] 5 (1, 2))) 5 [107] (1, 2) (Byt.one (by omega) (by omega)) (by simp)
  rw [s1] at r2
  rw [s2] at r3
  have D1 : Calls Tryz.prog 15 #[.agg #[.string ⟨#[100]⟩, .slice (some ⟨w.heap.size, 0, none⟩) 1 1, .slice (some ⟨w.heap.size + 1, 0, none⟩) 1 1], .agg #[.int .i32 1, .slice (some ⟨w.heap.size + 2, 0, none⟩) 1 1]] (((w.alloc (.cells #[.int .u8 3] 5)).alloc (.cells #[.int .u8 112] 5 (1, 2))).alloc (.cells #[.int .u8 107] 5 (1, 2)))
      (SdP (((w.alloc (.cells #[.int .u8 3] 5)).alloc (.cells #[.int .u8 112] 5 (1, 2))).alloc (.cells #[.int .u8 107] 5 (1, 2))) (awL K)) :=
    Sealed_calls (dl := [100]) (ty := [3]) (pl := [112]) (d := [107]) r3 (hW.k.keepN ka) r1 r2 (Byt.one (by omega) (by omega)) (by simp) (by simp) (by simp) (by simp) (by simp) (by simp) (by omega) (by omega) (by simp)
  have HD1 := Lib.hid D1
  have HL := awL_ok K
  have D2 : ∀ (W : World) A c, Kp no w W → Rd W A (awL K).length c (awL K) → Calls Tryz.prog 16 #[.slice A (awL K).length c, .string ⟨#[100]⟩] W (OpP W true [112]) := fun W A c kk hR => by
    have := opened_calls (dl := [100]) hR (by have := HL.2.2; omega) (hW.keepN kk) HL.1 (by simp) (by simp) (by simp) (Byt.one (by omega) (by omega)) (by simp)
    have e : (decide (0 ≤ (1 : Int) ∧ (1 : Int) ≤ 3 ∧ 0 < ([107] : List Int).length) && decide (sgn K [107] (uns [100] [3] [112]) = sgn K [107] (uns [100] [3] [112]))) = true := by
      rw [decide_eq_true (show 0 ≤ (1 : Int) ∧ (1 : Int) ≤ 3 ∧ 0 < ([107] : List Int).length from ⟨by omega, by omega, by simp⟩), decide_eq_true rfl]; rfl
    rw [e] at this
    exact this
  have HD2 := Lib.hid D2
  clear D1 D2 HL r1 r2 r3 s1 s2 hW
  generalize awL K = l at *
  go_enter Tryz.func6, Tryz.ntmps6
  go_wp2_with (fail)
  refine HD1.out.mono ?_
  rintro e w1 ⟨k1, A1, c1, rfl, R1, _⟩
  have k01 := ka.then k1
  have D3 := Lib.hid (HD2.out w1 A1 c1 k01 R1)
  clear R1
  generalize l.length = nl at *
  go_wp2_with (fail)
  refine D3.out.mono ?_
  rintro e w2 ⟨k2, A2, c2, rfl, R2, _⟩
  have hst : (convert 28 9 (.slice A2 1 c2)).run Tryz.prog w2 = .ok (.string ⟨#[112]⟩) w2 := R2.str
  clear R2
  go_wp2
  go_ret
  exact ⟨rfl, k01.then k2⟩
end Go.Proofs.YtddofkeajinjpaaGreatDoor
