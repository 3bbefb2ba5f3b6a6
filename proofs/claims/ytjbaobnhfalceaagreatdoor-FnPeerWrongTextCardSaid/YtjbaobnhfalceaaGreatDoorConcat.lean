/- slices.Grow of nothing, slices.Concat; lists of bytes that are read; AppendTag, AppendBytes. -/
import Derived.Test.YtjbaobnhfalceaaGreatDoorAv
namespace Go.Proofs.YtjbaobnhfalceaaGreatDoor
open Go Go.RowKit
set_option linter.unusedVariables false
set_option linter.unusedSimpArgs false
set_option maxRecDepth 100000

theorem Tryz.und_int : Tryz.prog.underlying 3 = some (.int .i64) := by kernel_rfl
theorem Tryz.und_bytess : Tryz.prog.underlying 52 = some (.slice 23) := by kernel_rfl

section
variable {P : Program} {ops : Array Oper} {rest : List Oper} {o : Oper} {a : Act} {Q : Exit → Act → World → Prop}
/-- An append whose run is known, behind 'at_builtin'. -/
theorem append_step {w w1 : World} {v : Value} (hgd : o.guard = none) (s x : Operand) (ts : Array TypeId)
    (ho : o.op = .call { callee := .builtin .append, args := #[s, x], argTypes := ts }) (vs vx : Value) (hs : a.eval s = vs) (hx : a.eval x = vx)
    (hr : (Builtin.append_ ts o.type #[vs, vx]).run P w = .ok v w1) (h : wpList P ops Q rest (a.put o.dst v) w1) : wpList P ops Q (o :: rest) a w := by
  refine wpList_plain hgd fun K hK => ?_
  unfold Oper.wp execOp
  simp only [ho, resolve, invoke, builtin, Sem.run_bind, Sem.run_pure, Result.andThen_ok, List.map_toArray, List.map_cons, List.map_nil, hs, hx, hr]
  exact hK _ _ h

theorem run_grow_nil (w : World) (t ti ty e : TypeId) (ht : P.underlying t = some (.slice e)) {k : IntKind} (hti : P.underlying ti = some (.int k))
    (hinfo : (P.info? e).map (fun i => (i.zero, i.size, i.bytes)) = some (some (.int .u8 0), 1, 1)) (m : Nat) (h0 : 0 < m) (hm : m ≤ 140737488355328) :
    (Builtin.append_ #[t, ti] ty #[.slice none 0 0, .int .i64 m]).run P w = .ok (.slice (some ⟨w.heap.size, 0, none⟩) m (grownCap w m 0 e))
      (w.drew.alloc (.cells (Builtin.zeroCells #[.int .u8 0] m ++ Builtin.zeroCells #[.int .u8 0] (grownCap w m 0 e - m)) e)) := by
  obtain ⟨i, hi, hzz⟩ := Option.map_eq_some_iff.1 hinfo
  simp only [Prod.mk.injEq] at hzz
  obtain ⟨hz0, hz1, hz2⟩ := hzz
  have hw : IntKind.i64.wrap (m : Int) = m := IntWalk.i64_in _ (by omega)
  have hneg : ¬ ((m : Int) < 0) := by omega
  have hbig : ¬ (281474976710656 < (m : Int)) := by omega
  have hn : m ≠ 0 := by omega
  have h63' : ¬ (9223372036854775807 < (m : Int)) := by omega
  have h48' : ¬ (281474976710656 < Builtin.nextslicecap m 0) := by rw [nextslicecap_zero h0]; omega
  simp [Builtin.append_, run_underlying ht, run_underlying hti, sizeOf, typeInfo, zeroValue, hi, hz0, hz1, hz2, asInt, asIntOf, hw, hneg, hbig, hn, h63', h48', Question.forced, newRow, grownCap, Builtin.firstCells, Value.cells]
end

theorem size_zeros (m : Nat) : (Builtin.zeroCells #[.int .u8 0] m).size = m := by simp [Builtin.zeroCells]
/-- Room of one's own. -/
theorem Own.room (W : World) (e : TypeId) (B : Nat) (cur : Array Value) (cap : Nat) (hb : B ≤ W.heap.size) (hs : cur.size = cap) (hm : cap ≤ 9223372036854775807) :
    Own (W.alloc (.cells cur e)) e B (.slice (some ⟨W.heap.size, 0, none⟩) 0 cap) [] :=
  ⟨⟨by simp [nums], .inr ⟨W.heap.size, cap, cur, rfl, hb, heap_alloc_new W _, Nat.zero_le _, by simpa [maxLen] using hm, by omega, by simp [nums]⟩⟩, Byt.nil⟩

theorem Grow_nil {w : World} (m : Nat) (hm : m ≤ 140737488355328) :
    Calls Tryz.prog 26 #[.slice none 0 0, .int .i64 m] w (Made w []) := by
  rcases Nat.eq_zero_or_pos m with h0 | h0
  · subst h0
    go_enter Tryz.func26, Tryz.ntmps26
    go_wp2
    go_ret
    exact Made.of (Own.nil _ _ _) (Kp.refl _ _)
  · have hr := run_grow_nil (P := Tryz.prog) w 23 3 23 5 Tryz.und_bytes Tryz.und_int Tryz.info_byte m h0 hm
    have hge := grownCap_ge w m 0 5
    have hle : grownCap w m 0 5 ≤ 9223372036854775807 := by
      have := grownCap_le_maxLen w m 0 5 (by simp only [maxLen]; omega)
      simpa [maxLen] using this
    have HR := Lib.hid hr
    clear hr
    generalize hgc : grownCap w m 0 5 = cap at *
    clear hgc
    have m0 : (0 : Int) < (m : Int) := by omega
    have m1 : ¬ (m : Int) < 0 := by omega
    have HO : Own (w.drew.alloc (.cells (Builtin.zeroCells #[.int .u8 0] m ++ Builtin.zeroCells #[.int .u8 0] (cap - m)) 5)) 5 w.heap.size (.slice (some ⟨w.heap.size, 0, none⟩) 0 cap) [] :=
      Own.room w.drew _ _ _ cap (Nat.le_refl _) (by rw [Array.size_append, size_zeros, size_zeros]; omega) hle
    go_enter Tryz.func26, Tryz.ntmps26
    go_wp2_with (first | (at_builtin; refine append_step rfl (.tmp 20) (.tmp 21) #[23, 3] rfl (.slice none 0 0) (.int .i64 m) rfl rfl HR.out ?_))
    go_ret
    exact Made.of HO ((Kp.refl no w).drew.alloc _)

/-- A list of bytes that is read. -/
structure RdS (w : World) (A : Option Addr) (n c : Nat) (L : List (List Int)) : Prop where
  len : L.length = n
  cap : n ≤ c
  max : c ≤ 9223372036854775807
  at_ : 0 < n → ∃ g o, A = some ⟨g, o, none⟩ ∧ ∀ j, j < n → ∃ A' c', w.cell? ⟨g, o + j, none⟩ = some (.slice A' (L.getD j []).length c') ∧ Rd w A' (L.getD j []).length c' (L.getD j [])
theorem RdS.nil (w : World) (A : Option Addr) (c : Nat) (hc : c ≤ 9223372036854775807) : RdS w A 0 c [] := ⟨rfl, Nat.zero_le _, hc, fun h => absurd h (by omega)⟩
theorem RdS.keepN {w w' : World} {A : Option Addr} {n c : Nat} {L : List (List Int)} (h : RdS w A n c L) (k : Kp no w w') : RdS w' A n c L :=
  ⟨h.len, h.cap, h.max, fun hp => by
    obtain ⟨g, o, rfl, hc⟩ := h.at_ hp
    refine ⟨g, o, rfl, fun j hj => ?_⟩
    obtain ⟨A', c', h1, h2⟩ := hc j hj
    exact ⟨A', c', k.cellN h1, h2.keepN k⟩⟩
theorem take_flat (L : List (List Int)) (k : Nat) (hk : k < L.length) : (L.take (k + 1)).flatten = (L.take k).flatten ++ L.getD k [] := by
  rw [List.take_succ_eq_append_getElem hk, List.flatten_append]
  simp [List.getD_eq_getElem?_getD, List.getElem?_eq_getElem hk]
/-- How long the first k of them are, together. -/
def tot (L : List (List Int)) (k : Nat) : Nat := (L.take k).flatten.length
theorem tot_succ (L : List (List Int)) (k : Nat) (hk : k < L.length) : tot L (k + 1) = tot L k + (L.getD k []).length := by
  unfold tot; rw [take_flat L k hk, List.length_append]
theorem tot_le (L : List (List Int)) (k : Nat) : tot L k ≤ L.flatten.length := by
  unfold tot
  have : L.flatten = (L.take k).flatten ++ (L.drop k).flatten := by rw [← List.flatten_append, List.take_append_drop]
  rw [this, List.length_append]; omega
theorem tot_all (L : List (List Int)) : tot L L.length = L.flatten.length := by unfold tot; rw [List.take_length]
theorem flat_byt {w : World} {A : Option Addr} {n c : Nat} {L : List (List Int)} (h : RdS w A n c L) (j : Nat) (hj : j < n) : Byt (L.getD j []) := by
  obtain ⟨g, o, _, hc⟩ := h.at_ (by omega)
  obtain ⟨_, _, _, h2⟩ := hc j hj
  exact h2.byt

set_option maxHeartbeats 1000000 in
theorem Concat_calls {w : World} {A : Option Addr} {n c : Nat} {L : List (List Int)} (h : RdS w A n c L) (hs : L.flatten.length ≤ 1099511627776) :
    Calls Tryz.prog 18 #[.slice A n c] w (Made w L.flatten) := by
  have hl := h.len
  have hcap := h.cap
  have hmax := h.max
  have hf : ∀ k, tot L k ≤ 1099511627776 := fun k => Nat.le_trans (tot_le L k) hs
  have hfull : L.take n = L := by rw [← hl]; exact List.take_length
  have HT := Lib.hid (tot_all L)
  have HS := Lib.hid (tot_succ L)
  have HL := Lib.hid hl
  have HFULL := Lib.hid hfull
  have HF := Lib.hid hf
  clear hl hfull hf hs
  go_enter Tryz.func18, Tryz.ntmps18
  go_wp2
  go_loop [3, 11] (fun s i => ∃ k : Nat, k ≤ n ∧ i = .int .i64 k ∧ s = .int .i64 (tot L k)) (fun _ i => n - (intOf i).toNat)
  case atStart => exact ⟨0, Nat.zero_le _, rfl, rfl⟩
  case round =>
    obtain ⟨k, hk, rfl, rfl⟩ := hrel
    have hb0 := HF.out k
    by_cases hlt : k < n
    · obtain ⟨g, o, rfl, hc⟩ := h.at_ (by omega)
      obtain ⟨A', c', h1, h2⟩ := hc k hlt
      have ht := Lib.hid (HS.out k (by rw [HL.out]; exact hlt))
      have hb := HF.out (k + 1)
      rw [ht.out] at hb
      clear hc h2
      generalize (L.getD k []).length = m at *
      go_wp2
      go_round
      case rel => exact ⟨k + 1, by omega, by go_num, by rw [ht.out]; go_num⟩
      case measure => simp [intOf]; omega
    · obtain rfl : k = n := by omega
      have D1 := Lib.hid (Grow_nil (w := w) (tot L k) (by omega))
      go_wp2_with (first | (go_at_call 26; refine D1.out.mono ?_; rintro e w1 ⟨A1, c1, rfl, hO, _, hk1⟩))
      clear D1
      go_loopw [6, 27] (fun v i wr => ∃ j : Nat, j ≤ k ∧ i = .int .i64 j ∧ Own wr 5 w.heap.size v (L.take j).flatten ∧ Kp no w wr) (fun _ i _ => k - (intOf i).toNat)
      case atStart => exact ⟨0, Nat.zero_le _, rfl, hO, hk1⟩
      case round =>
        obtain ⟨j, hj, rfl, hO, hkr⟩ := hrel
        by_cases hlt2 : j < k
        · have hr := h.keepN hkr
          obtain ⟨g, o, rfl, hc⟩ := hr.at_ (by omega)
          obtain ⟨A', c', h1, h2⟩ := hc j hlt2
          have ht := Lib.hid (take_flat L j (by rw [HL.out]; exact hlt2))
          have hb := HF.out (j + 1)
          rw [HS.out j (by rw [HL.out]; exact hlt2)] at hb
          unfold tot at hb
          have hB := hkr.size
          clear hc hr h
          generalize L.getD j [] = y at *
          have hyl := h2.cap
          go_wp2_with (first | (at_builtin; refine own_append w.heap.size rfl (.tmp 31) (.tmp 32) 23 5 rfl Tryz.und_bytes Tryz.info_byte u6 (L.take j).flatten y A' y.length c' rfl rfl hO h2 hB (by omega) ?_; intro v2 w2 hO2 hk2 _ _))
          go_roundw
          case rel => exact ⟨j + 1, by omega, by go_num, by rw [ht.out]; exact hO2, hkr.own hO (Nat.le_refl _) hk2⟩
          case measure => simp [intOf]; omega
        · obtain rfl : j = k := by omega
          rw [HFULL.out] at hO
          go_wp2
          go_ret
          exact Made.of hO hkr
end Go.Proofs.YtjbaobnhfalceaaGreatDoor
