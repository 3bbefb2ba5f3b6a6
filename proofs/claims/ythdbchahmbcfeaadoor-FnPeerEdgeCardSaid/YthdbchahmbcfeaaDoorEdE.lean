/- gomultihash.encodeHash and Sum, at both hashers; peer.IDFromPublicKey; impl.PeerOfKey. How many bytes come out. -/
import Derived.Test.YthdbchahmbcfeaaDoorEdA
import Derived.Test.YthdbchahmbcfeaaDoorEdD
import Derived.Test.YthdbchahmbcfeaaDoorPeer
namespace Go.Proofs.YthdbchahmbcfeaaDoor
open Go Go.RowKit
set_option linter.unusedVariables false
set_option linter.unusedSimpArgs false
set_option maxRecDepth 100000

theorem IdF.keepN {w w' : World} {g n : Nat} (h : IdF w g n) (k : Kp no w w') : IdF w' g n := by
  obtain ⟨gb, c, L, hb, hn, hc, hl, hby, hN⟩ := h
  exact ⟨gb, c, L, hb.keepN k, hn, hc, hl, hby, hN.keepN k⟩
theorem RowP.up {w w1 w' : World} {n : Nat} {v : Value} (h : RowP w1 n v w') (k : Kp no w w1) : RowP w n v w' := by
  obtain ⟨g, L, h1, h2, h3, h4, h5, h6⟩ := h
  exact ⟨g, L, h1, h2, h3, h4, Nat.le_trans k.size h5, k.then h6⟩
set_option maxHeartbeats 2000000 in
theorem encodeHash_id {w : World} {g n : Nat} (h1 : 1 ≤ n) (h2 : n < 128) (hb : IdF w g n) :
    Calls Tryd.prog 25 #[.iface 83 (.pointer (some ⟨g, 0, none⟩)), .int .u64 0, .int .i64 (-1)] w (EncP w (n + 2)) := by
  have D1 := Lib.hid (idSum_calls (v := .slice none 0 0) h1 hb)
  have HB := Lib.hid hb
  have hn0 : (0 : Int) ≤ (n : Int) := by omega
  have hn1 : ¬ (n : Int) < 0 := by omega
  clear hb
  obtain ⟨m, hm⟩ : ∃ m, n + 2 = m := ⟨_, rfl⟩
  rw [hm]
  have HM := Lib.hid hm
  clear hm
  go_enter Tryd.func25, Tryd.ntmps25
  go_wp2_with (fail)
  refine D1.out.mono ?_
  rintro e w1 ⟨⟨A, c, l, rfl, hR⟩, k1⟩
  have HR := Lib.hid hR
  have D2 := Lib.hid (idSize_calls (HB.out.keepN k1))
  have hcap := hR.cap
  have hmax := hR.max
  clear D1 hR
  go_wp2_with (fail)
  refine D2.out.mono ?_
  rintro e w2 ⟨rfl, k2⟩
  have hc2 := cutTo (P := Tryd.prog) Tryd.und_bytes info_byte1 A n c .i64 (n : Int) (by omega) (by omega) hcap
  simp only [Int.toNat_natCast] at hc2
  have D3 := Lib.hid (encode_calls (HR.out.keepN k2) (by omega) h2 0 (by omega))
  have HK := Lib.hid (k1.then k2)
  rw [HM.out] at D3
  clear D2 k1 k2 hcap hmax
  go_wp2_with (fail)
  refine D3.out.mono ?_
  rintro e w3 ⟨v, rfl, hv⟩
  have HF := Lib.hid (show EncP w m (.returned (.tuple #[v, .nilIface])) w3 from ⟨v, rfl, hv.up HK.out⟩)
  clear hv D3
  go_wp2
  go_ret2
  exact HF.out
set_option maxHeartbeats 2000000 in
theorem encodeHash_sha {w : World} {g : Nat} {K : List Int} {s : DS} (hD : Dg w g s) (hK : Keys w K) (hn : s.len ≤ 60000) (hx : s.nx = s.len % 64) :
    Calls Tryd.prog 25 #[.iface 106 (.pointer (some ⟨g, 0, none⟩)), .int .u64 18, .int .i64 (-1)] w (EncP w 34) := by
  have D1 := Lib.hid (dsumNil_calls hD hK hn hx)
  have HB := Lib.hid hD
  have hna := ahead_sum
  clear hD hx
  go_enter Tryd.func25, Tryd.ntmps25
  go_wp2_with (fail)
  refine D1.out.mono ?_
  rintro e w1 ⟨⟨A, c, l, rfl, hR⟩, k1⟩
  have HR := Lib.hid hR
  have D2 := Lib.hid (dsize_calls (HB.out.keepN k1))
  have hcap := hR.cap
  have hmax := hR.max
  clear D1 hR
  go_wp2_with (fail)
  refine D2.out.mono ?_
  rintro e w2 ⟨rfl, rfl⟩
  have hc2 : ∀ W : World, (Instr.slice 22 (.slice A 32 c) none (some (.int .i64 32)) none).run Tryd.prog W = .ok (.slice A 32 c) W := cutTo (P := Tryd.prog) Tryd.und_bytes info_byte1 A 32 c .i64 32 (by omega) (by omega) hcap
  have D3 := Lib.hid (encode_calls HR.out (by omega) (by omega) 18 (by omega))
  have HK := Lib.hid k1
  clear D2 k1 hcap hmax
  go_wp2_with (fail)
  refine D3.out.mono ?_
  rintro e w3 ⟨v, rfl, hv⟩
  have HF := Lib.hid (show EncP w 34 (.returned (.tuple #[v, .nilIface])) w3 from ⟨v, rfl, hv.up HK.out⟩)
  clear hv D3
  go_wp2
  go_ret2
  exact HF.out
theorem EncP.up {w w1 w' : World} {n : Nat} {e : Ending} (h : EncP w1 n e w') (k : Kp no w w1) : EncP w n e w' := by
  obtain ⟨v, h1, h2⟩ := h
  exact ⟨v, h1, h2.up k⟩
set_option maxHeartbeats 2000000 in
theorem msum_id {w : World} {A : Option Addr} {n c : Nat} {l : List Int} (hR : Rd w A n c l) (hlo : Lo w.heap.size A) (h1 : 1 ≤ n) (h2 : n ≤ 64) :
    Calls Tryd.prog 17 #[.slice A n c, .int .u64 0, .int .i64 (-1)] w (EncP w (n + 2)) := by
  have D1 := Lib.hid (hasherId_calls (w := w))
  have HR := Lib.hid hR
  have HLO := Lib.hid hlo
  clear hR hlo
  go_enter Tryd.func17, Tryd.ntmps17
  go_wp2_with (fail)
  refine D1.out.mono ?_
  rintro e w1 ⟨rfl, hb, k1⟩
  have D2 := Lib.hid (bufWrite_calls hb (HR.out.keepN k1) (fun a e h => by have h1 := HLO.out a e; have h2 : a.block = w.heap.size := h; omega) h1 h2)
  have HK1 := Lib.hid k1
  clear D1 hb k1
  go_wp2_with (fail)
  refine D2.out.mono ?_
  rintro e w2 ⟨rfl, hb, k2⟩
  have K2 : Kp no w w2 := HK1.out.trans k2 (fun i hi h => by have h : i = w.heap.size := h; omega)
  have D3 := Lib.hid (encodeHash_id h1 (by omega) hb)
  have HK2 := Lib.hid K2
  clear D2 hb k2 K2
  go_wp2_with (fail)
  refine D3.out.mono ?_
  rintro e w3 ⟨v, rfl, hv⟩
  have HF := Lib.hid (show EncP w (n + 2) (.returned (.tuple #[v, .nilIface])) w3 from ⟨v, rfl, hv.up HK2.out⟩)
  clear hv D3
  go_wp2
  go_ret2
  exact HF.out
set_option maxHeartbeats 2000000 in
theorem msum_sha {w : World} {A : Option Addr} {n c : Nat} {l K : List Int} (hR : Rd w A n c l) (hlo : Lo w.heap.size A) (hK : Keys w K) (h2 : n ≤ 60000) :
    Calls Tryd.prog 17 #[.slice A n c, .int .u64 18, .int .i64 (-1)] w (EncP w 34) := by
  have D1 := Lib.hid (hasherSha_calls (w := w))
  have HR := Lib.hid hR
  have HLO := Lib.hid hlo
  have HK := Lib.hid hK
  have HN := Lib.hid hR.len
  clear hR hlo hK
  go_enter Tryd.func17, Tryd.ntmps17
  go_wp2_with (fail)
  refine D1.out.mono ?_
  rintro e w1 ⟨rfl, hb, k1⟩
  have D2 := Lib.hid (dwrite_calls hb (HK.out.keepN k1) (HK.out.ne (Nat.le_refl _)) (HR.out.keepN k1) (HLO.out.mono k1.size) (fun a e h => by have h1 := HLO.out a e; have h2 : a.block = w.heap.size := h; omega) h2 (by show 0 ≤ 1000000; omega) (by show 0 < 64; omega))
  have HK1 := Lib.hid k1
  clear D1 hb k1
  go_wp2_with (fail)
  refine D2.out.mono ?_
  rintro e w2 ⟨rfl, hb, k2⟩
  have K2 : Kp no w w2 := HK1.out.trans k2 (fun i hi h => by have h : i = w.heap.size := h; omega)
  have D3 := Lib.hid (encodeHash_sha hb (HK.out.keepN K2) (by rw [wrF_len]; have := HN.out; show 0 + l.length ≤ 60000; omega) (by rw [wrF_nx (K := K) (s := ds0) (p := l) rfl, wrF_len]))
  have HK2 := Lib.hid K2
  clear D2 hb k2 K2
  go_wp2_with (fail)
  refine D3.out.mono ?_
  rintro e w3 ⟨v, rfl, hv⟩
  have HF := Lib.hid (show EncP w 34 (.returned (.tuple #[v, .nilIface])) w3 from ⟨v, rfl, hv.up HK2.out⟩)
  clear hv D3
  go_wp2
  go_ret2
  exact HF.out
/-- How long the ID of a key's message is. -/
def idLen (n : Nat) : Nat := if n ≤ 42 then n + 2 else 34
def IdP (w : World) (n : Nat) (e : Ending) (w' : World) : Prop := ∃ L, e = .returned (.tuple #[.string (strOfNums L), .nilIface]) ∧ L.length = n ∧ Byt L ∧ Kp no w w'
theorem Tryd.und_mh : Tryd.prog.underlying 53 = some (.slice 5) := by kernel_rfl
theorem vint_small {v : Int} (h : v < 128) : vint v = [v] := by rw [vint_eq, vi, if_pos h]
theorem kb_len4 {k : Int} {d : List Int} (h0 : 0 ≤ k) (h1 : k ≤ 3) (hd : d.length ≤ 60) : (kb k d).length = d.length + 4 := by
  have hk : ku k = k := by unfold ku; split <;> omega
  have v1 : vint k = [k] := vint_small (by omega)
  have v2 : vint (d.length : Int) = [(d.length : Int)] := vint_small (by omega)
  rw [kb_eq, hk, v1, v2]; simp
set_option maxHeartbeats 2000000 in
theorem idOfKey_calls {w : World} {gt : Nat} {k : Int} {d K : List Int} (hT : ToyAt w gt k d) (hK : Keys w K) (h0 : 0 ≤ k) (h1 : k ≤ 3) (hd0 : 0 < d.length) (hd : d.length ≤ 60) :
    Calls Tryd.prog 8 #[.iface 28 (.pointer (some ⟨gt, 0, none⟩))] w (IdP w (idLen (d.length + 4))) := by
  have D1 := Lib.hid (marshalPK_calls hT h0 h1 hd0 (by omega))
  have HK := Lib.hid hK
  have hl := kb_len4 h0 h1 hd
  obtain ⟨l, hle⟩ : ∃ l, l = kb k d := ⟨_, rfl⟩
  rw [← hle] at hl D1
  obtain ⟨m, hm⟩ : ∃ m, m = d.length + 4 := ⟨_, rfl⟩
  rw [← hm] at hl ⊢
  have hm1 : 1 ≤ m := by omega
  have hm2 : m ≤ 64 := by omega
  have D1 := Lib.hid (D1.out.mono (R' := fun e w' => ∃ A c, e = .returned (.tuple #[.slice A m c, .nilIface]) ∧ Rd w' A m c l ∧ Lo w'.heap.size A ∧ Kp no w w') fun e w' ⟨A, c, he, M⟩ => ⟨A, c, by rw [he, hl], by have := M.rd; rw [hl] at this; exact this, M.lo, M.kp⟩)
  obtain ⟨q, hq⟩ : ∃ q, q = idLen m := ⟨_, rfl⟩
  rw [← hq]
  have HQ0 := Lib.hid hq
  clear hT hK hle hm hl hd0 hd hq
  go_enter Tryd.func8, Tryd.ntmps8
  go_wp2_with (fail)
  refine D1.out.mono ?_
  rintro e w1 ⟨A1, c1, rfl, hr1, hlo1, hk1⟩
  have HR := Lib.hid hr1
  have HLO := Lib.hid hlo1
  have HK1 := Lib.hid hk1
  clear hr1 hlo1 hk1 D1
  by_cases h42 : m ≤ 42
  · have h42i : (m : Int) ≤ 42 := by omega
    have D2 := Lib.hid (msum_id HR.out HLO.out hm1 hm2)
    have HQ := Lib.hid (show q = m + 2 from HQ0.out.trans (if_pos h42))
    clear h42
    go_wp2_with (fail)
    refine D2.out.mono ?_
    rintro e w2 ⟨v, rfl, g, L, rfl, hl, hb, hN, hg, hk⟩
    have hcv := (hN.rd hl hb (by omega)).strT Tryd.und_mh Tryd.und_ID
    have HF := Lib.hid (show IdP w q (.returned (.tuple #[.string (strOfNums L), .nilIface])) w2 from ⟨L, rfl, by rw [HQ.out]; exact hl, hb, HK1.out.then hk⟩)
    generalize strOfNums L = s at *
    clear hl hb hN hg hk D2
    go_wp2
    go_ret2
    exact HF.out
  · have h42i : ¬ (m : Int) ≤ 42 := by omega
    have D2 := Lib.hid (msum_sha HR.out HLO.out (HK.out.keepN HK1.out) (by omega))
    have HQ := Lib.hid (show q = 34 from HQ0.out.trans (if_neg h42))
    clear h42
    go_wp2_with (fail)
    refine D2.out.mono ?_
    rintro e w2 ⟨v, rfl, g, L, rfl, hl, hb, hN, hg, hk⟩
    have hcv := (hN.rd hl hb (by omega)).strT Tryd.und_mh Tryd.und_ID
    have HF := Lib.hid (show IdP w q (.returned (.tuple #[.string (strOfNums L), .nilIface])) w2 from ⟨L, rfl, by rw [HQ.out]; exact hl, hb, HK1.out.then hk⟩)
    generalize strOfNums L = s at *
    clear hl hb hN hg hk D2
    go_wp2
    go_ret2
    exact HF.out
def PokP (w : World) (n : Nat) (e : Ending) (w' : World) : Prop := ∃ A c, e = .returned (.tuple #[.slice A n c, .bool true]) ∧ Kp no w w'
set_option maxHeartbeats 2000000 in
theorem peerOfKey_calls {w : World} {A : Option Addr} {n c : Nat} {k : Int} {d K : List Int} (hR : Rd w A n c d) (hK : Keys w K) (h0 : 0 ≤ k) (h1 : k ≤ 3) (hn : 0 < n) (hn2 : n ≤ 60) :
    Calls Tryd.prog 4 #[.int .i32 k, .slice A n c] w (PokP w (idLen (n + 4))) := by
  have D1 := Lib.hid (toyOf_calls hR h0 h1 hn (by omega))
  have HK := Lib.hid hK
  have hl := hR.len
  have D2 := Lib.hid (fun (W : World) (gt : Nat) (ht : ToyAt W gt k d) (kk : Kp no w W) => idOfKey_calls ht (hK.keepN kk) h0 h1 (by omega) (by omega))
  rw [hl] at D2
  have hil : idLen (n + 4) ≤ 44 := by unfold idLen; split <;> omega
  generalize idLen (n + 4) = q at *
  clear hR hK hl
  go_enter Tryd.func4, Tryd.ntmps4
  go_wp2_with (fail)
  refine D1.out.mono ?_
  rintro e w1 ⟨k1, gt, rfl, ht⟩
  have D3 := Lib.hid (D2.out w1 gt ht k1)
  have HK1 := Lib.hid k1
  clear ht k1 D1 D2
  go_wp2_with (fail)
  refine D3.out.mono ?_
  rintro e w2 ⟨L, rfl, hl, hb, k2⟩
  obtain ⟨c3, w3, hcv, R3, k3, _⟩ := str_bytes (w := w2) hb (by omega) Tryd.und_ID Tryd.und_bytes
  rw [hl] at hcv
  have HF := Lib.hid (show PokP w q (.returned (.tuple #[.slice (some ⟨w2.heap.size, 0, none⟩) q c3, .bool true])) w3 from ⟨_, c3, rfl, (HK1.out.then k2).then k3⟩)
  clear R3 k3 hb hl k2 D3
  generalize strOfNums L = s at *
  go_wp2
  go_ret2
  exact HF.out
/-- FnPeerEdge: whatever the kind and the byte. -/
theorem fnPeerEdge_calls {w : World} {K : List Int} {kind fill : Int} (k0 : 0 ≤ kind) (k1 : kind < 256) (f0 : 0 ≤ fill) (f1 : fill < 256) (hE : MErrs w) (hK : Keys w K) :
    Calls Tryd.prog 3 #[.int .u8 kind, .int .u8 fill] w (LawOk w) := by
  have HK := Lib.hid hK
  have HE := Lib.hid hE
  clear hK hE
  have hki : 0 ≤ kind % 4 := by omega
  have hki3 : kind % 4 ≤ 3 := by omega
  go_enter Tryd.func3, Tryd.ntmps3
  go_wp2
  go_loopw [5, 6] (fun l i wx => ∃ n : Nat, i = .int .i64 (n : Int) ∧ 1 ≤ n ∧ n ≤ 61 ∧ l = .int .i64 ((if n = 1 then 0 else idLen (n + 3) : Nat) : Int) ∧ Kp no w wx) (fun _ i _ => 61 - (intOf i).toNat)
  case atStart => exact ⟨1, rfl, by omega, by omega, rfl, Kp.refl _ _⟩
  case round =>
    obtain ⟨n, rfl, hn1, hn2, rfl, hk⟩ := hrel
    have HKR := Lib.hid hk
    clear hk
    by_cases hlt : n ≤ 60
    · have hlti : (n : Int) ≤ 60 := by omega
      generalize (if n = 1 then 0 else idLen (n + 3)) = l0
      have ka : Kp no wr (wr.alloc (.cells (nums .u8 [fill]).toArray 5)) := (Kp.refl _ _).alloc _
      have D1 := Lib.hid (repeat_calls n hn1 (by omega) (Rd.lit wr 5 [fill] (Byt.one f0 f1) (by simp)))
      have HKA := Lib.hid ka
      clear ka
      go_wp2_with (fail)
      refine D1.out.mono ?_
      rintro e w2 ⟨g, L, rfl, hl, hb, hN, hg, k2⟩
      have HK2 := Lib.hid ((HKR.out.then HKA.out).then k2)
      have D2 := Lib.hid (peerOfKey_calls (hN.rd hl hb (by omega)) (HK.out.keepN HK2.out) hki hki3 hn1 hlt)
      have hq : idLen (n + 4) ≤ 44 := by unfold idLen; split <;> omega
      have HQ := Lib.hid (show idLen (n + 4) = if n ≤ 38 then n + 6 else 34 from by unfold idLen; split <;> split <;> omega)
      obtain ⟨q, hqq⟩ : ∃ q, q = idLen (n + 4) := ⟨_, rfl⟩
      rw [← hqq] at D2 hq HQ
      have HQQ := Lib.hid hqq
      clear hl hb hN hg k2 D1 hqq
      go_wp2_with (fail)
      refine D2.out.mono ?_
      rintro e w3 ⟨A3, c3, rfl, k3⟩
      have HK3 := Lib.hid (HK2.out.then k3)
      clear k3 D2
      by_cases h38 : n ≤ 38
      · obtain rfl : q = n + 6 := by rw [HQ.out, if_pos h38]
        have h38i : ¬ (42 : Int) < (n : Int) + 4 := by omega
        clear h38
        go_wp2
        go_roundw
        case rel => exact ⟨n + 1, by go_num, by omega, by omega, by rw [if_neg (by omega), show n + 1 + 3 = n + 4 from by omega, ← HQQ.out]; go_num, HK3.out⟩
        case measure => simp [intOf]; omega
      · obtain rfl : q = 34 := by rw [HQ.out, if_neg h38]
        have h38i : (42 : Int) < (n : Int) + 4 := by omega
        clear h38
        go_wp2
        go_roundw
        case rel => exact ⟨n + 1, by go_num, by omega, by omega, by rw [if_neg (by omega), show n + 1 + 3 = n + 4 from by omega, ← HQQ.out]; rfl, HK3.out⟩
        case measure => simp [intOf]; omega
    · obtain rfl : n = 61 := by omega
      have D4 := Lib.hid (peersLive_calls (HE.out.keepN HKR.out))
      rw [show (if 61 = 1 then 0 else idLen (61 + 3)) = 34 from by decide]
      go_wp2_with (first | (go_at_call 6; refine D4.out.mono ?_; rintro e w4 ⟨rfl, k4⟩))
      go_ret
      exact ⟨rfl, HKR.out.then k4⟩
end Go.Proofs.YthdbchahmbcfeaaDoor
