/- FnRecordSame. -/
import Derived.Test.YtddofkeajinjpaaDoorSmK
namespace Go.Proofs.YtddofkeajinjpaaDoor
open Go Go.RowKit
set_option linter.unusedVariables false
set_option linter.unusedSimpArgs false
set_option maxRecDepth 100000

def LawOk (w : World) (e : Ending) (w' : World) : Prop := e = .returned (.bool true) ∧ Kp no w w'
theorem some_same {w : World} {A B : Option Addr} {n c m d : Nat} {a b : List Int} (ha : Rd w A n c a) (hb : Rd w B m d b) (q : Bool) (hq : decide (a = b) = q) :
    Calls Tryd.prog 21 #[.slice A n c, .slice B m d] w fun e w' => e = .returned (.bool q) ∧ Kp no w w' := hq ▸ recordSame_calls ha hb
theorem short_two {w : World} {g : Nat} {k kq : Int} {D1 D2 : Option Addr} {n1 n2 f1 f2 : Nat} (s : ByteArray) (A B : Option Addr) (n c m d : Nat) (hb : Blk w g #[.int .i32 k, .slice D1 n1 f1, .int .i32 kq, .slice D2 n2 f2] 30) :
    Calls Tryd.prog 11 #[.agg #[.string s, .slice A n c, .slice B m d], .slice (some ⟨g, 0, none⟩) 2 2] w fun e w' => Kp no w w' ∧ TellB ((s.size ≤ 200 ∧ n ≤ 200 ∧ m ≤ 1000) ∧ n1 ≤ 200 ∧ n2 ≤ 200) e := by
  have h := recordShort_keys (w := w) s A B n c m d g 2 2 (fun i => if i = 0 then k else kq) (fun i => if i = 0 then D1 else D2) (fun i => if i = 0 then n1 else n2) (fun i => if i = 0 then f1 else f2) (by omega) (fun i hi => by
    match i, hi with
    | 0, _ => exact ⟨hb.cell 0, hb.cell 1⟩
    | 1, _ => exact ⟨hb.cell 2, hb.cell 3⟩)
  exact h.mono fun e w' ⟨h1, b, h2, h3⟩ => ⟨h1, b, h2, fun hbt => ⟨(h3 hbt).1, (h3 hbt).2 0 (by omega), (h3 hbt).2 1 (by omega)⟩⟩

set_option maxHeartbeats 16000000 in
theorem fnRecordSame_calls {w : World} {K : List Int} {A1 A2 B1 B2 D1 D2 : Option Addr} {c1 c2 d1 d2 f1 f2 : Nat} {da ta pa db tb pb dd de : List Int} {k kq : Int} (hda : Byt da) (hdb : Byt db) (ra1 : Rd w A1 ta.length c1 ta) (ra2 : Rd w A2 pa.length c2 pa) (rb1 : Rd w B1 tb.length d1 tb) (rb2 : Rd w B2 pb.length d2 pb)
    (rd1 : Rd w D1 dd.length f1 dd) (rd2 : Rd w D2 de.length f2 de) (hW : OpW w K) :
    Calls Tryd.prog 9 #[.agg #[.string (strOfNums da), .slice A1 ta.length c1, .slice A2 pa.length c2], .agg #[.string (strOfNums db), .slice B1 tb.length d1, .slice B2 pb.length d2], .agg #[.int .i32 k, .slice D1 dd.length f1], .agg #[.int .i32 kq, .slice D2 de.length f2]] w (LawOk w) := by
  have k0 : Kp no w ((((w.alloc (.cells #[.string (strOfNums da), .slice A1 ta.length c1, .slice A2 pa.length c2] 24)).alloc (.cells #[.string (strOfNums db), .slice B1 tb.length d1, .slice B2 pb.length d2] 24)).alloc (.cells #[.int .i32 k, .slice D1 dd.length f1] 30)).alloc (.cells #[.int .i32 kq, .slice D2 de.length f2] 30)) := ((((Kp.refl _ _).alloc _).alloc _).alloc _).alloc _
  have hb0 := (((Blk.new w #[.string (strOfNums da), .slice A1 ta.length c1, .slice A2 pa.length c2] 24).alloc (.cells #[.string (strOfNums db), .slice B1 tb.length d1, .slice B2 pb.length d2] 24)).alloc (.cells #[.int .i32 k, .slice D1 dd.length f1] 30)).alloc (.cells #[.int .i32 kq, .slice D2 de.length f2] 30)
  have hb1 := ((Blk.new (w.alloc (.cells #[.string (strOfNums da), .slice A1 ta.length c1, .slice A2 pa.length c2] 24)) #[.string (strOfNums db), .slice B1 tb.length d1, .slice B2 pb.length d2] 24).alloc (.cells #[.int .i32 k, .slice D1 dd.length f1] 30)).alloc (.cells #[.int .i32 kq, .slice D2 de.length f2] 30)
  have hb2 := (Blk.new ((w.alloc (.cells #[.string (strOfNums da), .slice A1 ta.length c1, .slice A2 pa.length c2] 24)).alloc (.cells #[.string (strOfNums db), .slice B1 tb.length d1, .slice B2 pb.length d2] 24)) #[.int .i32 k, .slice D1 dd.length f1] 30).alloc (.cells #[.int .i32 kq, .slice D2 de.length f2] 30)
  have hb3 := Blk.new (((w.alloc (.cells #[.string (strOfNums da), .slice A1 ta.length c1, .slice A2 pa.length c2] 24)).alloc (.cells #[.string (strOfNums db), .slice B1 tb.length d1, .slice B2 pb.length d2] 24)).alloc (.cells #[.int .i32 k, .slice D1 dd.length f1] 30)) #[.int .i32 kq, .slice D2 de.length f2] 30
  rw [show (w.alloc (.cells #[.string (strOfNums da), .slice A1 ta.length c1, .slice A2 pa.length c2] 24)).heap.size = w.heap.size + 1 from by simp] at hb1
  rw [show ((w.alloc (.cells #[.string (strOfNums da), .slice A1 ta.length c1, .slice A2 pa.length c2] 24)).alloc (.cells #[.string (strOfNums db), .slice B1 tb.length d1, .slice B2 pb.length d2] 24)).heap.size = w.heap.size + 2 from by simp] at hb2
  rw [show (((w.alloc (.cells #[.string (strOfNums da), .slice A1 ta.length c1, .slice A2 pa.length c2] 24)).alloc (.cells #[.string (strOfNums db), .slice B1 tb.length d1, .slice B2 pb.length d2] 24)).alloc (.cells #[.int .i32 k, .slice D1 dd.length f1] 30)).heap.size = w.heap.size + 3 from by simp] at hb3
  have sa := strOfNums_size da
  have sb := strOfNums_size db
  have HB := Lib.hid (fun W (k : Kp no ((((w.alloc (.cells #[.string (strOfNums da), .slice A1 ta.length c1, .slice A2 pa.length c2] 24)).alloc (.cells #[.string (strOfNums db), .slice B1 tb.length d1, .slice B2 pb.length d2] 24)).alloc (.cells #[.int .i32 k, .slice D1 dd.length f1] 30)).alloc (.cells #[.int .i32 kq, .slice D2 de.length f2] 30)) W) => And.intro ((hb0.keepN k).cell 0) (And.intro ((hb0.keepN k).cell 1) (And.intro ((hb0.keepN k).cell 2) (And.intro ((hb1.keepN k).cell 0) (And.intro ((hb1.keepN k).cell 1) (And.intro ((hb1.keepN k).cell 2) (And.intro ((hb2.keepN k).cell 0) (And.intro ((hb2.keepN k).cell 1) (And.intro ((hb3.keepN k).cell 0) ((hb3.keepN k).cell 1))))))))))
  have FA := Lib.hid (fun W => zzFits6_calls (w := W) (strOfNums da) A1 A2 ta.length c1 pa.length c2)
  have FB := Lib.hid (fun W => zzFits6_calls (w := W) (strOfNums db) B1 B2 tb.length d1 pb.length d2)
  have FC := Lib.hid (fun W => zzFits7_calls (w := W) k D1 dd.length f1)
  have FD := Lib.hid (fun W => zzFits7_calls (w := W) kq D2 de.length f2)
  have SA := Lib.hid (fun W => short_two (strOfNums da) A1 A2 ta.length c1 pa.length c2 (Blk.new W #[.int .i32 k, .slice D1 dd.length f1, .int .i32 kq, .slice D2 de.length f2] 30))
  have SB := Lib.hid (fun W => recordShort_none (w := W) (strOfNums db) B1 B2 tb.length d1 pb.length d2)
  have AW := Lib.hid (fun W (k : Kp no w W) => awake_calls (hW.keepN k))
  rw [sa] at SA
  rw [sb] at SB
  have QA := Lib.hid (fun W (kk : Kp no w W) (z : da.length ≤ 200 ∧ ta.length ≤ 200 ∧ pa.length ≤ 1000) (z2 : dd.length ≤ 200) => recordSealed_calls (k := k) hda z z2 (ra1.keepN kk) (ra2.keepN kk) (rd1.keepN kk))
  have QB := Lib.hid (fun W (kk : Kp no w W) (z : db.length ≤ 200 ∧ tb.length ≤ 200 ∧ pb.length ≤ 1000) (z2 : de.length ≤ 200) => recordSealed_calls (k := kq) hdb z z2 (rb1.keepN kk) (rb2.keepN kk) (rd2.keepN kk))
  have VA := Lib.hid (fun S (h : 0 < da.length ∧ 0 < ta.length ∧ 0 ≤ k ∧ k ≤ 3 ∧ 0 < dd.length) (z : da.length ≤ 200 ∧ ta.length ≤ 200 ∧ pa.length ≤ 1000) (z2 : dd.length ≤ 200) (hS : List.length S = 32) (hSb : Byt S) => EvL.ebb (k := k) (sg := S) h.2.2.1 h.2.2.2.1 h.2.2.2.2 rd1.byt ra1.byt ra2.byt hSb (by omega) (by omega) (by omega) (by omega))
  have VB := Lib.hid (fun S (h : 0 < db.length ∧ 0 < tb.length ∧ 0 ≤ kq ∧ kq ≤ 3 ∧ 0 < de.length) (z : db.length ≤ 200 ∧ tb.length ≤ 200 ∧ pb.length ≤ 1000) (z2 : de.length ≤ 200) (hS : List.length S = 32) (hSb : Byt S) => EvL.ebb (k := kq) (sg := S) h.2.2.1 h.2.2.2.1 h.2.2.2.2 rd2.byt rb1.byt rb2.byt hSb (by omega) (by omega) (by omega) (by omega))
  have HU := Lib.hid (show UnW w from ⟨hW.e, hW.b⟩)
  clear ra1 ra2 rb1 rb2 rd1 rd2 hW hda hdb hb0 hb1 hb2 hb3 sa sb
  obtain ⟨x0, x1, x2, z0, z1, z2, y0, y1, v0, v1⟩ := HB.out _ (Kp.refl _ _)
  go_enter Tryd.func9, Tryd.ntmps9
  go_upto_region 1 with (fail)
  generalize ((((w.alloc (.cells #[.string (strOfNums da), .slice A1 ta.length c1, .slice A2 pa.length c2] 24)).alloc (.cells #[.string (strOfNums db), .slice B1 tb.length d1, .slice B2 pb.length d2] 24)).alloc (.cells #[.int .i32 k, .slice D1 dd.length f1] 30)).alloc (.cells #[.int .i32 kq, .slice D2 de.length f2] 30)) = W0 at *
  have kr := Kp.refl no W0
  have E1 := Lib.hid (FA.out W0)
  go_wp2_with (fail)
  refine E1.out.mono ?_
  rintro e w1 ⟨k1', q, rfl, _⟩
  have k1 := kr.then k1'
  clear x0 x1 x2 z0 z1 z2 y0 y1 v0 v1
  obtain ⟨x0, x1, x2, z0, z1, z2, y0, y1, v0, v1⟩ := HB.out w1 k1
  cases q
  · go_wp2
    go_ret
    exact ⟨rfl, k0.then k1⟩
  have E2 := Lib.hid (FB.out w1)
  go_wp2_with (fail)
  refine E2.out.mono ?_
  rintro e w2 ⟨k2', q, rfl, _⟩
  have k2 := k1.then k2'
  clear x0 x1 x2 z0 z1 z2 y0 y1 v0 v1
  obtain ⟨x0, x1, x2, z0, z1, z2, y0, y1, v0, v1⟩ := HB.out w2 k2
  cases q
  · go_wp2
    go_ret
    exact ⟨rfl, k0.then k2⟩
  have E3 := Lib.hid (FC.out w2)
  go_wp2_with (fail)
  refine E3.out.mono ?_
  rintro e w3 ⟨k3', q, rfl, _⟩
  have k3 := k2.then k3'
  clear x0 x1 x2 z0 z1 z2 y0 y1 v0 v1
  obtain ⟨x0, x1, x2, z0, z1, z2, y0, y1, v0, v1⟩ := HB.out w3 k3
  cases q
  · go_wp2
    go_ret
    exact ⟨rfl, k0.then k3⟩
  have E4 := Lib.hid (FD.out w3)
  go_wp2_with (fail)
  refine E4.out.mono ?_
  rintro e w4 ⟨k4', q, rfl, _⟩
  have k4 := k3.then k4'
  clear x0 x1 x2 z0 z1 z2 y0 y1 v0 v1
  obtain ⟨x0, x1, x2, z0, z1, z2, y0, y1, v0, v1⟩ := HB.out w4 k4
  cases q
  · go_wp2
    go_ret
    exact ⟨rfl, k0.then k4⟩
  have kl : Kp no W0 (w4.alloc (.cells #[.int .i32 k, .slice D1 dd.length f1, .int .i32 kq, .slice D2 de.length f2] 30)) := k4.then ((Kp.refl _ _).alloc _)
  have E5 := Lib.hid (SA.out w4)
  go_wp2_with (fail)
  refine E5.out.mono ?_
  rintro e w5 ⟨k5', q, rfl, zA⟩
  have k5 := kl.then k5'
  clear x0 x1 x2 z0 z1 z2 y0 y1 v0 v1
  obtain ⟨x0, x1, x2, z0, z1, z2, y0, y1, v0, v1⟩ := HB.out w5 k5
  cases q
  · clear zA
    have EA := Lib.hid (AW.out w5 (k0.then k5))
    go_wp2_with (fail)
    refine EA.out.mono ?_
    rintro e wz ⟨rfl, kz⟩
    go_wp2
    go_ret
    exact ⟨rfl, k0.then (k5.then kz)⟩
  have ZA := Lib.hid (zA rfl)
  clear zA
  have E6 := Lib.hid (SB.out w5)
  go_wp2_with (fail)
  refine E6.out.mono ?_
  rintro e w6 ⟨k6', q, rfl, zB⟩
  have k6 := k5.then k6'
  clear x0 x1 x2 z0 z1 z2 y0 y1 v0 v1
  obtain ⟨x0, x1, x2, z0, z1, z2, y0, y1, v0, v1⟩ := HB.out w6 k6
  cases q
  · clear zB
    have EA := Lib.hid (AW.out w6 (k0.then k6))
    go_wp2_with (fail)
    refine EA.out.mono ?_
    rintro e wz ⟨rfl, kz⟩
    go_wp2
    go_ret
    exact ⟨rfl, k0.then (k6.then kz)⟩
  have ZB := Lib.hid (zB rfl)
  clear zB
  have E7 := Lib.hid (QA.out w6 (k0.then k6) ZA.out.1 ZA.out.2.1)
  go_wp2_with (fail)
  refine E7.out.mono ?_
  rintro e w7 ⟨k7', hr⟩
  have k7 := k6.then k7'
  clear x0 x1 x2 z0 z1 z2 y0 y1 v0 v1
  obtain ⟨x0, x1, x2, z0, z1, z2, y0, y1, v0, v1⟩ := HB.out w7 k7
  have E8 := Lib.hid (QB.out w7 (k0.then k7) ZB.out ZA.out.2.2)
  by_cases p1 : 0 < da.length ∧ 0 < ta.length ∧ 0 ≤ k ∧ k ≤ 3 ∧ 0 < dd.length
  · rw [if_pos p1] at hr
    obtain ⟨S, L, C, cc, hS, hSb, hL, rfl, RC⟩ := hr
    have VL := Lib.hid (VA.out S p1 ZA.out.1 ZA.out.2.1 hS hSb)
    have HL := Lib.hid hL
    have HRC := Lib.hid RC
    clear hS hSb hL RC p1
    go_wp2_with (fail)
    refine E8.out.mono ?_
    rintro e w8 ⟨k8', hr⟩
    have k8 := k7.then k8'
    by_cases p2 : 0 < db.length ∧ 0 < tb.length ∧ 0 ≤ kq ∧ kq ≤ 3 ∧ 0 < de.length
    · rw [if_pos p2] at hr
      obtain ⟨S2, L2, C2, cc2, hS2, hSb2, hL2, rfl, RC2⟩ := hr
      have VL2 := Lib.hid (VB.out S2 p2 ZB.out ZA.out.2.2 hS2 hSb2)
      have HL2 := Lib.hid hL2
      have R1 := Lib.hid (fun W (kk : Kp no w8 W) => HRC.out.keepN (k8'.then kk))
      have R2 := Lib.hid (fun W (kk : Kp no w8 W) => RC2.keepN kk)
      have SBQ := Lib.hid (same_bool VL.out VL2.out)
      have SBS := Lib.hid (same_bool VL.out VL.out)
      rw [← HL.out] at VL SBQ SBS
      rw [← HL2.out] at VL2 SBQ
      have UW := Lib.hid (fun W (kk : Kp no w8 W) => HU.out.keepN (k0.then (k8.then kk)))
      have SE := Lib.hid (fun W (kk : Kp no w8 W) X Y x y (RX : Rd W X L.length x L) (RY : Rd W Y L2.length y L2) => sameEnvelopes_calls (UW.out W kk) RX RY VL.out VL2.out)
      have SS := Lib.hid (fun W (kk : Kp no w8 W) X Y x y (RX : Rd W X L.length x L) (RY : Rd W Y L.length y L) => sameEnvelopes_calls (UW.out W kk) RX RY VL.out VL.out)
      have ST := Lib.hid (fun W (kk : Kp no w8 W) X Y x y (RX : Rd W X L.length x L) (RY : Rd W Y 1 y [255]) => sameEnvelopes_torn (UW.out W kk) RX RY VL.out)
      rw [SBQ.out] at SE
      rw [SBS.out, decide_eq_true (rfl : L = L)] at SS
      obtain ⟨q, hq⟩ : ∃ q, decide (L = L2) = q := ⟨_, rfl⟩
      rw [hq] at SE
      have RQ := Lib.hid (fun W (kk : Kp no w8 W) => some_same (R1.out W kk) (R2.out W kk) q hq)
      have O1 := Lib.hid (fun W (kk : Kp no w8 W) => recordOwn_calls (R1.out W kk) (by have := VL.out.len; omega))
      have O2 := Lib.hid (fun W (kk : Kp no w8 W) => recordOwn_calls (R2.out W kk) (by have := VL2.out.len; omega))
      clear hq hS2 hSb2 hL2 RC2 p2 SBQ SBS x0 x1 x2 z0 z1 z2 y0 y1 v0 v1 HB QA QB VA VB FA FB FC FD SA SB
      obtain ⟨n1, hn1⟩ : ∃ n, n = L.length := ⟨_, rfl⟩
      obtain ⟨n2, hn2⟩ : ∃ n, n = L2.length := ⟨_, rfl⟩
      rw [← hn1] at SE SS ST O1 RQ ⊢
      rw [← hn2] at SE O2 RQ ⊢
      have HN1 := Lib.hid hn1
      have HN2 := Lib.hid hn2
      clear hn1 hn2
      have m0 := Kp.refl no w8
      have G1 := Lib.hid (O1.out w8 m0)
      go_wp2_with (fail)
      refine G1.out.mono ?_
      rintro e u1 ⟨X1, xc1, rfl, M1⟩
      have m1 := M1.kp
      have G2 := Lib.hid (O2.out u1 m1)
      go_wp2_with (fail)
      refine G2.out.mono ?_
      rintro e u2 ⟨X2, xc2, rfl, M2⟩
      have m2 := m1.then M2.kp
      have G3 := Lib.hid (SE.out u2 m2 X1 X2 xc1 xc2 (by rw [HN1.out]; exact M1.rd.keepN M2.kp) (by rw [HN2.out]; exact M2.rd))
      rw [← HN1.out, ← HN2.out]
      clear M1 M2
      go_wp2_with (fail)
      refine G3.out.mono ?_
      rintro e u3 ⟨rfl, m3'⟩
      have m3 := m2.then m3'
      have G4 := Lib.hid (O1.out u3 m3)
      go_wp2_with (fail)
      refine G4.out.mono ?_
      rintro e u4 ⟨X4, xc4, rfl, M4⟩
      have m4 := m3.then M4.kp
      have G5 := Lib.hid (O1.out u4 m4)
      rw [← HN1.out]
      go_wp2_with (fail)
      refine G5.out.mono ?_
      rintro e u5 ⟨X5, xc5, rfl, M5⟩
      have m5 := m4.then M5.kp
      have G6 := Lib.hid (SS.out u5 m5 X4 X5 xc4 xc5 (by rw [HN1.out]; exact M4.rd.keepN M5.kp) (by rw [HN1.out]; exact M5.rd))
      rw [← HN1.out]
      clear M4 M5
      go_wp2_with (fail)
      refine G6.out.mono ?_
      rintro e u6 ⟨rfl, m6'⟩
      have m6 := m5.then m6'
      have G7 := Lib.hid (O1.out u6 m6)
      go_wp2_with (fail)
      refine G7.out.mono ?_
      rintro e u7 ⟨X7, xc7, rfl, M7⟩
      have m7 := m6.then M7.kp
      have ml : Kp no u7 (u7.alloc (.cells #[.int .u8 255] 5)) := (Kp.refl _ _).alloc _
      have R255 : Rd (u7.alloc (.cells #[.int .u8 255] 5)) (some ⟨u7.heap.size, 0, none⟩) 1 1 [255] := Rd.litm u7 5 [255] _ (Byt.one (by omega) (by omega)) (by simp)
      have G8 := Lib.hid (ST.out _ (m7.then ml) X7 _ xc7 1 (by rw [HN1.out]; exact M7.rd.keepN ml) R255)
      have m7l := m7.then ml
      rw [← HN1.out]
      clear M7 R255 ml
      go_wp2_with (fail)
      refine G8.out.mono ?_
      rintro e u8 ⟨rfl, m8'⟩
      have m8 := m7l.then m8'
      have G9 := Lib.hid (RQ.out u8 m8)
      go_wp2_with (fail)
      refine G9.out.mono ?_
      rintro e u9 ⟨rfl, m9'⟩
      have m9 := k8.then (m8.then m9')
      have EA := Lib.hid (AW.out u9 (k0.then m9))
      go_wp2_with (fail)
      refine EA.out.mono ?_
      rintro e wz ⟨rfl, kz⟩
      go_wp2
      go_ret
      exact ⟨rfl, k0.then (m9.then kz)⟩
    · rw [if_neg p2] at hr
      subst hr
      clear p2
      have EA := Lib.hid (AW.out w8 (k0.then k8))
      go_wp2_with (fail)
      refine EA.out.mono ?_
      rintro e wz ⟨rfl, kz⟩
      go_wp2
      go_ret
      exact ⟨rfl, k0.then (k8.then kz)⟩
  · rw [if_neg p1] at hr
    subst hr
    clear p1
    go_wp2_with (fail)
    refine E8.out.mono ?_
    rintro e w8 ⟨k8', hr⟩
    have k8 := k7.then k8'
    by_cases p2 : 0 < db.length ∧ 0 < tb.length ∧ 0 ≤ kq ∧ kq ≤ 3 ∧ 0 < de.length
    · rw [if_pos p2] at hr
      obtain ⟨S2, L2, C2, cc2, hS2, hSb2, hL2, rfl, RC2⟩ := hr
      clear hS2 hSb2 hL2 RC2 p2
      have EA := Lib.hid (AW.out w8 (k0.then k8))
      go_wp2_with (fail)
      refine EA.out.mono ?_
      rintro e wz ⟨rfl, kz⟩
      go_wp2
      go_ret
      exact ⟨rfl, k0.then (k8.then kz)⟩
    · rw [if_neg p2] at hr
      subst hr
      clear p2
      have EA := Lib.hid (AW.out w8 (k0.then k8))
      go_wp2_with (fail)
      refine EA.out.mono ?_
      rintro e wz ⟨rfl, kz⟩
      go_wp2
      go_ret
      exact ⟨rfl, k0.then (k8.then kz)⟩
end Go.Proofs.YtddofkeajinjpaaDoor
