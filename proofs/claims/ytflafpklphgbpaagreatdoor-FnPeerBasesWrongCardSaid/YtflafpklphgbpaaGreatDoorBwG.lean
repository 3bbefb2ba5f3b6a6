/- A text in some base behind its letter: gocid.Decode and peer.Decode of it, out of what multibase.Decode gives: texts that impl.PeerDecode refuses. -/
import Derived.Test.YtflafpklphgbpaaGreatDoorWrA
namespace Go.Proofs.YtflafpklphgbpaaGreatDoor
open Go Go.RowKit
set_option linter.unusedVariables false
set_option linter.unusedSimpArgs false
set_option maxRecDepth 100000

/-- multibase.Decode's answer: the letter, and the bytes. -/
def MbP (w : World) (L : Int) (x : List Int) (e : Ending) (w' : World) : Prop := ∃ A c, e = .returned (.tuple #[.int .i64 L, .slice A x.length c, Value.nilIface]) ∧ Rd w' A x.length c x ∧ Kp no w w'
/-- A text whose letter is no head of an old ID. -/
structure Txb (L : Int) (T : List Int) : Prop where
  b : Byt (L :: T)
  q : L ≠ 81
  o : L ≠ 49
  n : 1 ≤ T.length
  m : T.length ≤ 1000
theorem cutG_ne {L : Int} {r : List Int} (hT : Txb L r) : (((strOfNums (L :: r)).extract 0 2).toList == ([81, 109] : List UInt8)) = false := by
  have h1 := hT.n
  have h := strOfNums_beq (a := (L :: r).take 2) (b := [81, 109]) (hT.b.take 2) (fun x hx => by simp at hx; omega)
  rw [← str_take (L :: r) 2 (by simp; omega), show (strOfNums [81, 109]).toList = [81, 109] from by rw [Lib.toList_data, strOfNums_data]; rfl] at h
  rw [h]
  exact decide_eq_false (fun h => by
    cases r with
    | nil => simp at h1
    | cons a r => have := hT.q; simp at h; omega)

set_option maxHeartbeats 8000000 in
/-- .. where the bytes are no CID. -/
theorem cidG_bad {w : World} {L : Int} {T x : List Int} (hT : Txb L T) (hM : ∀ W, Kp no w W → Calls Tryz.prog 36 #[.string (strOfNums (L :: T))] W (MbP W L x))
    (hC : ∀ W A' c', Kp no w W → Rd W A' x.length c' x → Calls Tryz.prog 58 #[.slice A' x.length c'] W (CidBad W)) :
    Calls Tryz.prog 25 #[.string (strOfNums (L :: T))] w fun e w' => ∃ t x, e = .returned (.tuple #[.agg #[.string ⟨#[]⟩], .iface t x]) ∧ Kp no w w' := by
  have ka : Kp no w (w.alloc (.cells #[.string ⟨#[]⟩] 57)) := (Kp.refl _ _).alloc _
  have B0 := Blk.new w #[.string ⟨#[]⟩] 57
  have D1 := Lib.hid (hM (w.alloc (.cells #[.string ⟨#[]⟩] 57)) ka)
  have D2 := Lib.hid (fun w1 A1 c1 (k : Kp no (w.alloc (.cells #[.string ⟨#[]⟩] 57)) w1) (R : Rd w1 A1 x.length c1 x) => cidCast_bad (w := w1) (fun W k' => hC W A1 c1 ((ka.then k).then k') (R.keepN k')))
  have hne := cutG_ne hT
  have h1 := hT.n
  have hn := hT.m
  have hs := strOfNums_size (L :: T)
  simp only [List.length_cons] at hs
  generalize strOfNums (L :: T) = S at *
  have hs1 : ¬ (S.size : Int) < 2 := by omega
  have hs2 : 2 ≤ S.size := by omega
  have hs3 : (2 : Int) ≤ (S.size : Int) := by omega
  clear hC hM h1 hn hT hs
  by_cases h46 : S.size = 46
  · have e46 : ((S.size : Int) == 46) = true := by rw [h46]; rfl
    go_enter Tryz.func25, Tryz.ntmps25
    go_wp2_with (first
      | (go_at_call 36; refine D1.out.mono ?_; rintro e w1 ⟨A1, c1, rfl, R1, k1⟩)
      | (go_at_call 37; refine (D2.out _ _ _ k1 R1).mono ?_; rintro e w2 ⟨t, x, rfl, k2⟩; have K2 := (ka.then k1).then k2; have B2 := B0.keepN (k1.then k2); have f2 := B2.free 0; have z2 := B2.cell 0))
    (try simp only [Exit.inBlock, Exit.then]); refine bodyPost_ret (results_cellrow_tmp1 rfl _ _ w.heap.size 57 #[.string ⟨#[]⟩] _ rfl (B2.set 0 (.string ⟨#[]⟩)) Tryz.underlying57 rfl infoC) rfl ?_
    exact ⟨_, _, rfl, K2.setCell (p := ⟨w.heap.size, 0, none⟩) (fun hh => by have hh : w.heap.size < w.heap.size := hh; omega) _⟩
  · have e46 : ((S.size : Int) == 46) = false := beq_eq_false_iff_ne.2 (by omega)
    go_enter Tryz.func25, Tryz.ntmps25
    go_wp2_with (first
      | (go_at_call 36; refine D1.out.mono ?_; rintro e w1 ⟨A1, c1, rfl, R1, k1⟩)
      | (go_at_call 37; refine (D2.out _ _ _ k1 R1).mono ?_; rintro e w2 ⟨t, x, rfl, k2⟩; have K2 := (ka.then k1).then k2; have B2 := B0.keepN (k1.then k2); have f2 := B2.free 0; have z2 := B2.cell 0))
    (try simp only [Exit.inBlock, Exit.then]); refine bodyPost_ret (results_cellrow_tmp1 rfl _ _ w.heap.size 57 #[.string ⟨#[]⟩] _ rfl (B2.set 0 (.string ⟨#[]⟩)) Tryz.underlying57 rfl infoC) rfl ?_
    exact ⟨_, _, rfl, K2.setCell (p := ⟨w.heap.size, 0, none⟩) (fun hh => by have hh : w.heap.size < w.heap.size := hh; omega) _⟩
set_option maxHeartbeats 8000000 in
/-- .. where they are a CID. -/
theorem cidG_good {w : World} {L : Int} {T x : List Int} {Sx : ByteArray} (hT : Txb L T) (hM : ∀ W, Kp no w W → Calls Tryz.prog 36 #[.string (strOfNums (L :: T))] W (MbP W L x))
    (hC : ∀ W A' c', Kp no w W → Rd W A' x.length c' x → Calls Tryz.prog 58 #[.slice A' x.length c'] W fun e w' => e = .returned (.tuple #[.int .i64 (x.length : Nat), .agg #[.string Sx], Value.nilIface]) ∧ Kp no W w') :
    Calls Tryz.prog 25 #[.string (strOfNums (L :: T))] w fun e w' => e = .returned (.tuple #[.agg #[.string Sx], Value.nilIface]) ∧ Kp no w w' := by
  have ka : Kp no w (w.alloc (.cells #[.string ⟨#[]⟩] 57)) := (Kp.refl _ _).alloc _
  have B0 := Blk.new w #[.string ⟨#[]⟩] 57
  have D1 := Lib.hid (hM (w.alloc (.cells #[.string ⟨#[]⟩] 57)) ka)
  have D2 := Lib.hid (fun w1 A1 c1 (k : Kp no (w.alloc (.cells #[.string ⟨#[]⟩] 57)) w1) (R : Rd w1 A1 x.length c1 x) => cidCast_good (w := w1) (fun W k' => hC W A1 c1 ((ka.then k).then k') (R.keepN k')))
  have hne := cutG_ne hT
  have h1 := hT.n
  have hn := hT.m
  have hs := strOfNums_size (L :: T)
  simp only [List.length_cons] at hs
  generalize strOfNums (L :: T) = S at *
  have hs1 : ¬ (S.size : Int) < 2 := by omega
  have hs2 : 2 ≤ S.size := by omega
  have hs3 : (2 : Int) ≤ (S.size : Int) := by omega
  clear hC hM h1 hn hT hs
  by_cases h46 : S.size = 46
  · have e46 : ((S.size : Int) == 46) = true := by rw [h46]; rfl
    go_enter Tryz.func25, Tryz.ntmps25
    go_wp2_with (first
      | (go_at_call 36; refine D1.out.mono ?_; rintro e w1 ⟨A1, c1, rfl, R1, k1⟩)
      | (go_at_call 37; refine (D2.out _ _ _ k1 R1).mono ?_; rintro e w2 ⟨rfl, k2⟩; have K2 := (ka.then k1).then k2; have B2 := B0.keepN (k1.then k2); have f2 := B2.free 0; have z2 := B2.cell 0))
    (try simp only [Exit.inBlock, Exit.then]); refine bodyPost_ret (results_cellrow_tmp1 rfl _ _ w.heap.size 57 #[.string Sx] _ rfl (B2.set 0 (.string Sx)) Tryz.underlying57 rfl infoC) rfl ?_
    exact ⟨rfl, K2.setCell (p := ⟨w.heap.size, 0, none⟩) (fun hh => by have hh : w.heap.size < w.heap.size := hh; omega) _⟩
  · have e46 : ((S.size : Int) == 46) = false := beq_eq_false_iff_ne.2 (by omega)
    go_enter Tryz.func25, Tryz.ntmps25
    go_wp2_with (first
      | (go_at_call 36; refine D1.out.mono ?_; rintro e w1 ⟨A1, c1, rfl, R1, k1⟩)
      | (go_at_call 37; refine (D2.out _ _ _ k1 R1).mono ?_; rintro e w2 ⟨rfl, k2⟩; have K2 := (ka.then k1).then k2; have B2 := B0.keepN (k1.then k2); have f2 := B2.free 0; have z2 := B2.cell 0))
    (try simp only [Exit.inBlock, Exit.then]); refine bodyPost_ret (results_cellrow_tmp1 rfl _ _ w.heap.size 57 #[.string Sx] _ rfl (B2.set 0 (.string Sx)) Tryz.underlying57 rfl infoC) rfl ?_
    exact ⟨rfl, K2.setCell (p := ⟨w.heap.size, 0, none⟩) (fun hh => by have hh : w.heap.size < w.heap.size := hh; omega) _⟩
/-- What stands ahead of gocid.Decode: neither of the two heads. -/
theorem headsG_no {L : Int} {r : List Int} (hT : Txb L r) : decide ((L :: r).take ([81, 109] : List Int).length = [81, 109]) = false ∧ decide ((L :: r).take ([49] : List Int).length = [49]) = false :=
  ⟨decide_eq_false (fun h => by have := hT.q; simp at h; omega), decide_eq_false (fun h => by have := hT.o; simp at h; omega)⟩
theorem peerG_bad {w : World} {L : Int} {r : List Int} (hT : Txb L r)
    (hC : ∀ W, Kp no w W → Calls Tryz.prog 25 #[.string (strOfNums (L :: r))] W fun e w' => ∃ t x, e = .returned (.tuple #[.agg #[.string ⟨#[]⟩], .iface t x]) ∧ Kp no W w') :
    Calls Tryz.prog 12 #[.string (strOfNums (L :: r))] w (IdOr w (fun _ => False)) := by
  have E1 := Lib.hid (hasPre_calls (w := w) (L :: r) [81, 109] hT.b (fun x hx => by simp at hx; omega) (by have := hT.m; simp; omega) (by simp) (headsG_no hT).1)
  have E2 := Lib.hid (hasPre_calls (w := w) (L :: r) [49] hT.b (fun x hx => by simp at hx; omega) (by have := hT.m; simp; omega) (by simp) (headsG_no hT).2)
  have E3 := Lib.hid (hC w (Kp.refl _ _))
  have E4 := fun W s => Lib.hid (errNewX (w := W) s)
  rw [show strOfNums [81, 109] = ⟨#[81, 109]⟩ from rfl] at E1
  rw [show strOfNums [49] = ⟨#[49]⟩ from rfl] at E2
  generalize strOfNums (L :: r) = s at *
  clear hT hC
  go_enter Tryz.func12, Tryz.ntmps12
  go_wp2_with (fail)
  refine E1.out.mono ?_
  rintro e w3 ⟨rfl, rfl⟩
  go_wp2_with (fail)
  refine E2.out.mono ?_
  rintro e w3 ⟨rfl, rfl⟩
  go_wp2_with (fail)
  refine E3.out.mono ?_
  rintro e w4 ⟨t, x, rfl, k4⟩
  go_wp2_with (first | (go_at_call 24; refine (E4 _ _).out.mono ?_; rintro e w5 ⟨t5, x5, rfl, k5⟩))
  go_ret2
  exact ⟨(k4.alloc _).then k5, .inr ⟨t5, x5, rfl⟩⟩
theorem peerG_other {w : World} {L : Int} {r : List Int} {Sx : ByteArray} (hT : Txb L r)
    (hC : ∀ W, Kp no w W → Calls Tryz.prog 25 #[.string (strOfNums (L :: r))] W fun e w' => e = .returned (.tuple #[.agg #[.string Sx], Value.nilIface]) ∧ Kp no W w')
    (hF : ∀ W, Calls Tryz.prog 26 #[.agg #[.string Sx]] W fun e w' => ∃ t x, e = .returned (.tuple #[.string ⟨#[]⟩, .iface t x]) ∧ Kp no W w') :
    Calls Tryz.prog 12 #[.string (strOfNums (L :: r))] w (IdOr w (fun _ => False)) := by
  have E1 := Lib.hid (hasPre_calls (w := w) (L :: r) [81, 109] hT.b (fun x hx => by simp at hx; omega) (by have := hT.m; simp; omega) (by simp) (headsG_no hT).1)
  have E2 := Lib.hid (hasPre_calls (w := w) (L :: r) [49] hT.b (fun x hx => by simp at hx; omega) (by have := hT.m; simp; omega) (by simp) (headsG_no hT).2)
  have E3 := Lib.hid (hC w (Kp.refl _ _))
  have E4 := Lib.hid hF
  rw [show strOfNums [81, 109] = ⟨#[81, 109]⟩ from rfl] at E1
  rw [show strOfNums [49] = ⟨#[49]⟩ from rfl] at E2
  generalize strOfNums (L :: r) = s at *
  clear hT hC hF
  go_enter Tryz.func12, Tryz.ntmps12
  go_wp2_with (fail)
  refine E1.out.mono ?_
  rintro e w3 ⟨rfl, rfl⟩
  go_wp2_with (fail)
  refine E2.out.mono ?_
  rintro e w3 ⟨rfl, rfl⟩
  go_wp2_with (fail)
  refine E3.out.mono ?_
  rintro e w4 ⟨rfl, k4⟩
  have B4 := Blk.new w4 #[.string Sx] 57
  have c4 := B4.cell 0
  go_wp2_with (first | (go_at_call 26; refine (E4.out _).mono ?_; rintro e w5 ⟨t5, x5, rfl, k5⟩))
  go_ret2
  exact ⟨(k4.alloc _).then k5, .inr ⟨t5, x5, rfl⟩⟩
/-- A CID that is torn. -/
theorem tornG {w : World} {L : Int} {T x : List Int} (hT : Txb L T) (hM : ∀ W, Kp no w W → Calls Tryz.prog 36 #[.string (strOfNums (L :: T))] W (MbP W L x)) (hn : x.length ≤ 100)
    (hx : x = [] ∨ x = [1] ∨ ∃ p, x = 1 :: 114 :: p ∧ MH p = none) (hE : MErrs w) :
    Calls Tryz.prog 6 #[.string (strOfNums (L :: T))] w (BytOr w (fun _ => False)) := by
  refine pdecode_of (peerG_bad hT (fun W k => cidG_bad hT (fun W' k' => hM W' (k.then k')) (fun W' A' c' k' r => ?_)))
  exact cidFrom_torn hx (hE.keepN k) (by omega) W' A' c' k' r
/-- A CID of another codec. -/
theorem codecG {w : World} {L : Int} {T p : List Int} {y : Int} (hT : Txb L T) (hM : ∀ W, Kp no w W → Calls Tryz.prog 36 #[.string (strOfNums (L :: T))] W (MbP W L (1 :: y :: p)))
    (hb : Byt (1 :: y :: p)) (hn : p.length ≤ 90) (hy : y ≠ 114) (y0 : 0 ≤ y) (y1 : y < 128) (hm : IsMH p) (hp : 1 ≤ p.length) (hE : MErrs w) :
    Calls Tryz.prog 6 #[.string (strOfNums (L :: T))] w (BytOr w (fun _ => False)) := by
  refine pdecode_of (peerG_other (Sx := strOfNums (1 :: y :: p)) hT (fun W k => cidG_good hT (fun W' k' => hM W' (k.then k')) (fun W' A' c' k' r => ?_)) (fun W => fromCid_other hy (fun W' => type1_calls hb (by omega) y1)))
  exact cidFrom_good r ((hE.keepN k).keepN k') (by simp; omega) y0 y1 hm hp
end Go.Proofs.YtflafpklphgbpaaGreatDoor
