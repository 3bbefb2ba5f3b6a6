/- FnPeerEmpty walked. -/
import Derived.Test.YtkjbjhimaiagaaaGreatDoorPeer
import Derived.Test.YtkjbjhimaiagaaaGreatDoorMade
import Derived.Deep.QuietTactic
namespace Go.Proofs.YtkjbjhimaiagaaaGreatDoor
open Go Go.RowKit
set_option linter.unusedVariables false
set_option linter.unusedSimpArgs false
set_option maxRecDepth 100000

/-- The two errors of the empty ID. -/
structure NErrs (w : World) : Prop where
  a : IsErr w 0
  b : IsErr w 2
theorem NErrs.keepN {w w' : World} (h : NErrs w) (k : Kp no w w') : NErrs w' := ⟨h.a.keepN k, h.b.keepN k⟩
theorem Rd.none (w : World) : Rd w none 0 0 [] := ⟨rfl, Nat.le_refl _, by omega, Byt.nil, fun h => absurd h (by omega)⟩
theorem mh_nil : ¬ IsMH [] := by
  rintro ⟨x, hx⟩
  simp [MH, FU, rv] at hx
theorem pre_Qm (w : World) : Calls Tryz.prog 49 #[.string ⟨#[]⟩, .string ⟨#[81, 109]⟩] w fun e w' => e = .returned (.bool false) ∧ w' = w := by
  go_enter Tryz.func49, Tryz.ntmps49
  go_wp2
  go_ret
  exact ⟨rfl, rfl⟩
theorem prefix_Qm (w : World) : Calls Tryz.prog 39 #[.string ⟨#[]⟩, .string ⟨#[81, 109]⟩] w fun e w' => e = .returned (.bool false) ∧ w' = w := by
  have D := Lib.hid (pre_Qm w)
  go_enter Tryz.func39, Tryz.ntmps39
  go_wp2_with (first | (go_at_call 49; refine D.out.mono ?_; rintro e w3 ⟨rfl, rfl⟩))
  go_ret
  exact ⟨rfl, rfl⟩
theorem pre_one (w : World) : Calls Tryz.prog 49 #[.string ⟨#[]⟩, .string ⟨#[49]⟩] w fun e w' => e = .returned (.bool false) ∧ w' = w := by
  go_enter Tryz.func49, Tryz.ntmps49
  go_wp2
  go_ret
  exact ⟨rfl, rfl⟩
theorem prefix_one (w : World) : Calls Tryz.prog 39 #[.string ⟨#[]⟩, .string ⟨#[49]⟩] w fun e w' => e = .returned (.bool false) ∧ w' = w := by
  have D := Lib.hid (pre_one w)
  go_enter Tryz.func39, Tryz.ntmps39
  go_wp2_with (first | (go_at_call 49; refine D.out.mono ?_; rintro e w3 ⟨rfl, rfl⟩))
  go_ret
  exact ⟨rfl, rfl⟩
theorem size_nil (w : World) : Calls Tryz.prog 35 #[.string ⟨#[]⟩] w fun e w' => e = .returned (.int .i64 0) ∧ Kp no w w' := by
  obtain ⟨c1, w1, hcv, R1, k1, _⟩ := str_bytes (w := w) Byt.nil (by simp) Tryz.und_ID Tryz.und_bytes
  rw [show strOfNums [] = ⟨#[]⟩ from rfl] at hcv
  clear R1
  go_enter Tryz.func35, Tryz.ntmps35
  go_wp2
  go_ret
  exact ⟨rfl, k1⟩
theorem psize_nil (w : World) : Calls Tryz.prog 21 #[.slice none 0 0] w fun e w' => e = .returned (.int .i64 0) ∧ Kp no w w' := by
  have hcv := (Rd.none w).strT Tryz.und_bytes Tryz.und_ID
  rw [show strOfNums [] = ⟨#[]⟩ from rfl] at hcv
  have D := Lib.hid (size_nil w)
  go_enter Tryz.func21, Tryz.ntmps21
  go_wp2_with (first | (go_at_call 35; refine D.out.mono ?_; rintro e w3 ⟨rfl, k3⟩))
  go_ret
  exact ⟨rfl, k3⟩
theorem val_nil {w : World} (hN : NErrs w) : Calls Tryz.prog 36 #[.string ⟨#[]⟩] w fun e w' => ∃ t x, e = .returned (.iface t x) ∧ w' = w := by
  obtain ⟨t, x, hc⟩ := hN.a
  go_enter Tryz.func36, Tryz.ntmps36
  go_wp2
  go_ret
  exact ⟨t, x, rfl, rfl⟩
theorem pvalid_nil {w : World} (hN : NErrs w) : Calls Tryz.prog 22 #[.slice none 0 0] w fun e w' => e = .returned (.bool false) ∧ w' = w := by
  have hcv := (Rd.none w).strT Tryz.und_bytes Tryz.und_ID
  rw [show strOfNums [] = ⟨#[]⟩ from rfl] at hcv
  have D := Lib.hid (val_nil hN)
  go_enter Tryz.func22, Tryz.ntmps22
  go_wp2_with (first | (go_at_call 36; refine D.out.mono ?_; rintro e w3 ⟨t, x, rfl, rfl⟩))
  go_ret
  exact ⟨rfl, rfl⟩
theorem val_some (w : World) (s : ByteArray) (hs : s ≠ ⟨#[]⟩) : Calls Tryz.prog 36 #[.string s] w fun e w' => e = .returned Value.nilIface ∧ w' = w := by
  have hS' : ¬ s.toList = [] := fun h => hs (ByteArray.ext (by rw [Lib.toList_data] at h; exact Array.toList_inj.1 (by simpa using h)))
  have hd : s.toList.isEmpty = false := by simpa [List.isEmpty_iff] using hS'
  clear hS'
  go_enter Tryz.func36, Tryz.ntmps36
  go_wp2
  go_ret
  exact ⟨rfl, rfl⟩
theorem pvalid_some {w : World} {A : Option Addr} {n c : Nat} {l : List Int} (h : Rd w A n c l) (hl : l ≠ []) : Calls Tryz.prog 22 #[.slice A n c] w fun e w' => e = .returned (.bool true) ∧ w' = w := by
  have hcv := h.strT Tryz.und_bytes Tryz.und_ID
  have hne : strOfNums l ≠ ⟨#[]⟩ := fun he => by
    have h1 := congrArg (fun s => s.data.toList) he
    rw [strOfNums_data] at h1
    exact hl (by simpa using h1)
  have D := Lib.hid (val_some w _ hne)
  have hn := h.cap
  have hx := h.max
  clear h hne
  generalize strOfNums l = s at *
  go_enter Tryz.func22, Tryz.ntmps22
  go_wp2_with (first | (go_at_call 36; refine D.out.mono ?_; rintro e w3 ⟨rfl, rfl⟩))
  go_ret
  exact ⟨rfl, rfl⟩
theorem ptext_nil (w : World) : Calls Tryz.prog 13 #[.slice none 0 0] w fun e w' => e = .returned (.string ⟨#[]⟩) ∧ Kp no w w' := by
  have h := PeerText_calls (Rd.none w) (by omega)
  rw [show strOfNums (text58 []) = ⟨#[]⟩ from by rfl] at h
  exact h
theorem errNew {w : World} (s : ByteArray) : Calls Tryz.prog 41 #[.string s] w fun e w' => ∃ t x, e = .returned (.iface t x) ∧ Kp no w w' := by
  go_enter Tryz.func41, Tryz.ntmps41
  go_wp2
  go_ret
  exact ⟨_, _, rfl, (Kp.refl _ _).alloc _⟩
theorem infoCid : (Tryz.prog.info? 54).map (·.size) = some 1 := by kernel_rfl
theorem cidDecode_nil {w : World} (hN : NErrs w) : Calls Tryz.prog 42 #[.string ⟨#[]⟩] w fun e w' => ∃ t x, e = .returned (.tuple #[.agg #[.string ⟨#[]⟩], .iface t x]) ∧ Kp no w w' := by
  have ka : Kp no w (w.alloc (.cells #[.string ⟨#[]⟩] 54)) := (Kp.refl _ _).alloc _
  have B0 := Blk.new w #[.string ⟨#[]⟩] 54
  obtain ⟨t, x, hc⟩ := (hN.keepN ka).b
  go_enter Tryz.func42, Tryz.ntmps42
  go_wp2
  go_region
  all_goals (try go_wp2)
  all_goals (try simp only [Exit.inBlock, Exit.then])
  all_goals
    refine bodyPost_ret (results_cellrow_tmp1 rfl _ _ w.heap.size 54 #[.string ⟨#[]⟩] _ rfl B0.drew Tryz.underlying54 rfl infoCid) rfl ?_
    exact ⟨_, _, rfl, ka.drew⟩
theorem peerDecode_nil {w : World} (hN : NErrs w) : Calls Tryz.prog 25 #[.string ⟨#[]⟩] w fun e w' => ∃ t x, e = .returned (.tuple #[.string ⟨#[]⟩, .iface t x]) ∧ Kp no w w' := by
  have D1 := fun W => Lib.hid (prefix_Qm W)
  have D2 := fun W => Lib.hid (prefix_one W)
  have D3 := Lib.hid (cidDecode_nil hN)
  have D4 := fun W s => Lib.hid (errNew (w := W) s)
  go_enter Tryz.func25, Tryz.ntmps25
  go_wp2_with (first
    | (go_at_call 39; first | (refine (D1 _).out.mono ?_; rintro e w3 ⟨rfl, rfl⟩) | (refine (D2 _).out.mono ?_; rintro e w3 ⟨rfl, rfl⟩))
    | (go_at_call 42; refine D3.out.mono ?_; rintro e w4 ⟨t, x, rfl, k4⟩)
    | (go_at_call 41; refine (D4 _ _).out.mono ?_; rintro e w5 ⟨t5, x5, rfl, k5⟩))
  go_ret2
  exact ⟨t5, x5, rfl, (k4.alloc _).then k5⟩
theorem pdecode_nil {w : World} (hN : NErrs w) : Calls Tryz.prog 9 #[.string ⟨#[]⟩] w fun e w' => e = .returned (.tuple #[.slice none 0 0, .bool false]) ∧ Kp no w w' := by
  have D := Lib.hid (peerDecode_nil hN)
  go_enter Tryz.func9, Tryz.ntmps9
  go_wp2_with (first | (go_at_call 25; refine D.out.mono ?_; rintro e w3 ⟨t, x, rfl, k3⟩))
  go_ret2
  exact ⟨rfl, k3⟩
theorem unText_nil {w : World} {g : Nat} (hN : NErrs w) : Calls Tryz.prog 31 #[.pointer (some ⟨g, 0, none⟩), .slice none 0 0] w fun e w' => ∃ t x, e = .returned (.iface t x) ∧ Kp no w w' := by
  have hcv := (Rd.none w).strT Tryz.und_bytes Tryz.und_string
  rw [show strOfNums [] = ⟨#[]⟩ from rfl] at hcv
  have D := Lib.hid (peerDecode_nil hN)
  go_enter Tryz.func31, Tryz.ntmps31
  go_wp2_with (first | (go_at_call 25; refine D.out.mono ?_; rintro e w3 ⟨t, x, rfl, k3⟩))
  go_ret
  exact ⟨t, x, rfl, k3⟩
theorem cloneNil (w : World) : Calls Tryz.prog 14 #[.slice none 0 0] w fun e w' => e = .returned (.slice none 0 0) ∧ w' = w := by
  have heq := fun W : World => Lib.run_eql_slice_nil (P := Tryz.prog) W 23 5 none 0 0 0 0 Tryz.und_bytes
  go_enter Tryz.func14, Tryz.ntmps14
  go_wp2
  go_ret
  exact ⟨rfl, rfl⟩
theorem ofLetters_nil {w : World} (hN : NErrs w) : Calls Tryz.prog 19 #[.slice none 0 0] w fun e w' => e = .returned (.tuple #[.slice none 0 0, .bool false]) ∧ Kp no w w' := by
  have ka : Kp no w (w.alloc (.cells #[.string ⟨#[]⟩] 41)) := (Kp.refl _ _).alloc _
  have D := Lib.hid (unText_nil (g := w.heap.size) (hN.keepN ka))
  have D0 := fun W => Lib.hid (cloneNil W)
  go_enter Tryz.func19, Tryz.ntmps19
  go_wp2_with (first
    | (go_at_call 14; refine (D0 _).out.mono ?_; rintro e w3 ⟨rfl, rfl⟩)
    | (go_at_call 31; refine D.out.mono ?_; rintro e w4 ⟨t, x, rfl, k4⟩))
  go_ret2
  exact ⟨rfl, ka.then k4⟩
theorem cellrow1 {P : Program} {fn : Func} {p : Tmp} {ty : TypeId} (h : fn.results = #[.cell p ty]) (tmps : Array Value) (w : World) (g : Nat) (t : TypeId) (cs : Array Value) (d : TypeDesc)
    (hp : tmps.getD p undef = .pointer (some ⟨g, 0, none⟩)) (hg : Blk w g cs t)
    (hu : P.underlying ty = some d) (hd : (match d with | .struct _ | .array _ _ => true | _ => false) = true) (hi : (P.info? ty).map (·.size) = some cs.size) :
    (results fn tmps).run P w = .ok (.agg cs) w := results_cell_row h tmps w g t cs (0, 0) d hp hg hu hd hi
theorem toCid_nil {w : World} (hE : MErrs w) : Calls Tryz.prog 32 #[.string ⟨#[]⟩] w fun e w' => e = .returned (.agg #[.string ⟨#[]⟩]) ∧ Kp no w w' := by
  have ka : Kp no w (w.alloc (.cells #[.string ⟨#[]⟩] 54)) := (Kp.refl _ _).alloc _
  have B0 := Blk.new w #[.string ⟨#[]⟩] 54
  obtain ⟨c1, w1, hcv, R1, k1, _⟩ := str_bytes (w := w.alloc (.cells #[.string ⟨#[]⟩] 54)) Byt.nil (by simp) Tryz.und_ID Tryz.und_bytes
  have hsz1 : (w.alloc (.cells #[.string ⟨#[]⟩] 54)).heap.size = w.heap.size + 1 := by simp
  rw [hsz1] at hcv R1
  rw [show strOfNums [] = ⟨#[]⟩ from rfl] at hcv
  have D := Lib.hid (Cast_no R1 ((hE.keepN ka).keepN k1) (by simp) mh_nil)
  clear hsz1 R1
  have B1 := B0.keepN k1
  go_enter Tryz.func32, Tryz.ntmps32
  go_wp2_with (first | (go_at_call 45; refine D.out.mono ?_; rintro e w3 ⟨A3, t, x, rfl, k3⟩; have B3 := B1.keepN k3; have hc3 : w3.cell? ⟨w.heap.size, 0, none⟩ = some (.string ⟨#[]⟩) := B3.cell 0; have hf3 := B3.free 0))
  refine bodyPost_ret (cellrow1 rfl _ _ w.heap.size 54 #[.string ⟨#[]⟩] _ rfl (B3.set 0 (.string ⟨#[]⟩)) Tryz.underlying54 rfl infoCid) rfl ?_
  exact ⟨rfl, (((ka.then k1).then k3)).setCell (p := ⟨w.heap.size, 0, none⟩) (fun h => by have h : w.heap.size < w.heap.size := h; omega) _⟩
theorem undef_nil (w : World) : Calls Tryz.prog 33 #[.agg #[.string ⟨#[]⟩]] w fun e w' => e = .returned (.bool false) ∧ Kp no w w' := by
  have B0 := Blk.new w #[.string ⟨#[]⟩] 54
  have c0 : (w.alloc (.cells #[.string ⟨#[]⟩] 54)).cell? ⟨w.heap.size, 0, none⟩ = some (.string ⟨#[]⟩) := B0.cell 0
  go_enter Tryz.func33, Tryz.ntmps33
  go_wp2
  go_ret
  exact ⟨rfl, (Kp.refl _ _).alloc _⟩
theorem pcid_nil {w : World} (hE : MErrs w) : Calls Tryz.prog 20 #[.slice none 0 0] w fun e w' => e = .returned (.slice none 0 0) ∧ Kp no w w' := by
  have hcv := (Rd.none w).strT Tryz.und_bytes Tryz.und_ID
  rw [show strOfNums [] = ⟨#[]⟩ from rfl] at hcv
  have D1 := Lib.hid (toCid_nil hE)
  have D2 := fun W => Lib.hid (undef_nil W)
  go_enter Tryz.func20, Tryz.ntmps20
  go_wp2_with (first
    | (go_at_call 32; refine D1.out.mono ?_; rintro e w1 ⟨rfl, k1⟩; have B1 := Blk.new w1 #[.string ⟨#[]⟩] 54; have c1 : (w1.alloc (.cells #[.string ⟨#[]⟩] 54)).cell? ⟨w1.heap.size, 0, none⟩ = some (.string ⟨#[]⟩) := B1.cell 0)
    | (go_at_call 33; refine (D2 _).out.mono ?_; rintro e w3 ⟨rfl, k3⟩))
  go_ret
  exact ⟨rfl, (k1.alloc _).then k3⟩

section
variable {P : Program} {ops : Array Oper} {rest : List Oper} {o : Oper} {a : Act} {w : World} {Q : Exit → Act → World → Prop}
/-- A row is loaded whole, behind a guard. -/
theorem load_mid_g (ty : TypeId) (x : Operand) (ho : o.op = .load ty x) (b off : Nat) (hx : a.eval x = .pointer (some ⟨b, off, none⟩)) (cs : List Value) (d : TypeDesc) (hr : w.rangeAt b off cs)
    (hu : P.underlying ty = some d) (hd : d.isRow = true) (hi : (P.info? ty).map (·.size) = some cs.length) (hw : Region.wanted o (yielded ops a.tmps) = true)
    (h : wpList P ops Q rest (a.put o.dst (.agg cs.toArray)) w) : wpList P ops Q (o :: rest) a w := by
  refine wpList_step fun K hK => ?_
  rw [if_pos hw]
  unfold Oper.wp execOp
  simp only [ho, hx, Instr.loadAt, Instr.sureAddr, Sem.run_bind, Sem.run_pure, Result.andThen_ok, run_loadVar_mid w b off ty cs d hr hu hd hi]
  exact hK _ _ h
end
set_option maxHeartbeats 2000000 in
theorem fnPeerEmpty_calls {w : World} (H : List Int) (hH : H.length = 32) (hb : Byt H) (k : Int) (hk : 0 ≤ k ∧ k < 256) (hE : MErrs w) (hN : NErrs w) :
    Calls Tryz.prog 6 #[.agg (nums .u8 H).toArray, .int .u8 k] w (LawOk w) := by
  have BX := Blk.new w (nums .u8 H).toArray 22
  have kb : Kp no w (w.alloc (.cells (nums .u8 H).toArray 22)) := (Kp.refl _ _).alloc _
  have E : ∀ W, Kp no w W → MErrs W := fun W k => hE.keepN k
  have N : ∀ W, Kp no w W → NErrs W := fun W k => hN.keepN k
  have D1 := Lib.hid (fun W (k : Kp no w W) => PeerOf_no (Rd.none W) (hE.keepN k) (by omega) mh_nil)
  have D2 := Lib.hid (fun W (k : Kp no w W) => pdecode_nil (hN.keepN k))
  have D3 := Lib.hid (fun W (k : Kp no w W) => ofLetters_nil (hN.keepN k))
  have D4 := Lib.hid (fun W (k : Kp no w W) => pcid_nil (hE.keepN k))
  have D5 := Lib.hid (fun W => psize_nil W)
  have D6 := Lib.hid (fun W (k : Kp no w W) => pvalid_nil (hN.keepN k))
  have D7 := Lib.hid (fun W => ptext_nil W)
  have D8 := Lib.hid (fun W => PeerMade_calls (w := W) H hH hb k hk.1 hk.2)
  have D9 := Lib.hid (fun W (k : Kp no w W) => peersLive_calls (hE.keepN k))
  have HH := Lib.hid hH
  clear E N hH hb hE hN
  go_enter Tryz.func6, Tryz.ntmps6
  go_wp2_with (fail)
  refine (D1.out _ kb).mono ?_
  rintro e w1 ⟨rfl, k1⟩
  have K1 := kb.then k1
  go_wp2_with (fail)
  refine (D2.out _ K1).mono ?_
  rintro e w2 ⟨rfl, k2⟩
  have K2 := K1.then k2
  go_wp2_with (fail)
  refine (D3.out _ K2).mono ?_
  rintro e w3 ⟨rfl, k3⟩
  have K3 := K2.then k3
  go_wp2_with (fail)
  refine (D4.out _ K3).mono ?_
  rintro e w4 ⟨rfl, k4⟩
  have K4 := K3.then k4
  go_wp2_with (fail)
  refine (D5.out _).mono ?_
  rintro e w5 ⟨rfl, k5⟩
  have K5 := K4.then k5
  go_wp2_with (fail)
  refine (D6.out _ K5).mono ?_
  rintro e w5 ⟨rfl, rfl⟩
  go_wp2_with (fail)
  refine (D7.out _).mono ?_
  rintro e w7 ⟨rfl, k7⟩
  have K7 := K5.then k7
  have BX7 := BX.keepN ((((((k1).then k2).then k3).then k4).then k5).then k7)
  go_wp2_with (refine load_mid_g 22 (.tmp 2) rfl w.heap.size 0 rfl (nums .u8 H) (.array 32 5) (Blk.range BX7) Tryz.underlying22 rfl (by rw [nums_length, HH.out]; exact infoB32) (by rfl) ?_)
  refine (D8.out _).mono ?_
  rintro e w8 ⟨A8, c8, l, hp, rfl, M8⟩
  have K8 := K7.then M8.kp
  have hl : l ≠ [] := fun h => by have := hp.len; rw [h] at this; simp at this
  have D10 := Lib.hid (pvalid_some M8.rd hl)
  clear hp hl
  go_wp2_with (fail)
  refine D10.out.mono ?_
  rintro e w8 ⟨rfl, rfl⟩
  go_wp2_with (fail)
  refine (D9.out _ K8).mono ?_
  rintro e w9 ⟨rfl, k9⟩
  go_wp2_with (fail)
  go_ret
  exact ⟨rfl, K8.then k9⟩
end Go.Proofs.YtkjbjhimaiagaaaGreatDoor
