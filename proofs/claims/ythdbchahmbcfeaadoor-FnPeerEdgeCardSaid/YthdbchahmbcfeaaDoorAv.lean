/- AppendVarint: a number of seven bits a byte is put behind bytes of one's own. -/
import Derived.Test.YthdbchahmbcfeaaDoorBytes
import Derived.Test.YthdbchahmbcfeaaDoorNum
namespace Go.Proofs.YthdbchahmbcfeaaDoor
open Go Go.RowKit
set_option linter.unusedVariables false
set_option linter.unusedSimpArgs false
set_option maxRecDepth 100000

/-- A number in groups of seven bits. -/
def vi : Nat → Int → List Int
  | 0, v => [v]
  | k + 1, v => if v < 128 then [v] else (v % 128 + 128) :: vi k (v / 128)
def vint (v : Int) : List Int := vi 9 v
theorem vi_len : ∀ (k : Nat) (v : Int), 1 ≤ (vi k v).length ∧ (vi k v).length ≤ k + 1
  | 0, v => by simp [vi]
  | k + 1, v => by
    unfold vi
    split
    · simp
    · have := vi_len k (v / 128); simp; omega
theorem vint_len (v : Int) : 1 ≤ (vint v).length ∧ (vint v).length ≤ 10 := vi_len 9 v
theorem vi_byt : ∀ (k : Nat) (v : Int), 0 ≤ v → v < 2 * 128 ^ (k + 1) → Byt (vi k v)
  | 0, v, h0, h1 => by simp [vi]; exact Byt.one h0 (by simp at h1; omega)
  | k + 1, v, h0, h1 => by
    unfold vi
    split
    · exact Byt.one h0 (by omega)
    · intro x hx
      rcases List.mem_cons.1 hx with rfl | hx
      · omega
      · refine vi_byt k (v / 128) (by omega) ?_ x hx
        rw [Int.pow_succ] at h1
        omega
theorem vint_byt (v : Int) (h0 : 0 ≤ v) (h1 : v < 18446744073709551616) : Byt (vint v) := vi_byt 9 v h0 (by omega)
/-- What is read of it: the number, and all of its bytes. -/
theorem rv_vi : ∀ (k : Nat) (v : Int) (r : List Int), 0 ≤ v → v < 2 * 128 ^ k → rv (k + 1) (vi k v ++ r) = some (v, ((vi k v).length : Int))
  | 0, v, r, h0, h1 => by
    simp at h1
    have a : v < 128 := by omega
    have b : ¬ 2 ≤ v := by omega
    simp [vi, rv, a, b]
  | k + 1, v, r, h0, h1 => by
    unfold vi
    split
    · simp [rv, *]
    · rw [Int.pow_succ] at h1
      have ih := rv_vi k (v / 128) r (by omega) (by omega)
      have hc : ¬ (v % 128 + 128 < 128) := by omega
      simp only [List.cons_append, rv, if_neg hc, Nat.add_eq_zero_iff, Nat.succ_ne_zero, and_false, if_false, ih, Option.map_some]
      simp
      omega
theorem rv_vint (v : Int) (r : List Int) (h0 : 0 ≤ v) (h1 : v < 18446744073709551616) : rv 10 (vint v ++ r) = some (v, ((vint v).length : Int)) := rv_vi 9 v r h0 (by omega)

theorem u64_grp (x : Int) (h0 : 0 ≤ x) (h1 : x < 18446744073709551616) : IntKind.u8.wrap (bits .or .u64 (bits .and .u64 x 127) 128) = x % 128 + 128 := by
  rw [u64_and x 127 h0 h1 (by omega) (by omega)]
  have e : x.toNat &&& (127 : Int).toNat = x.toNat % 128 := Nat.and_two_pow_sub_one_eq_mod x.toNat 7
  rw [e, u64_or _ 128 (by omega) (by omega) (by omega) (by omega), Int.toNat_natCast, Nat.or_comm]
  have e2 : (128 : Int).toNat ||| x.toNat % 128 = 128 + x.toNat % 128 := nat_join 7 128 _ (by decide) (Nat.mod_lt _ (by decide))
  rw [e2, IntKind.wrap_u8]
  omega

/-- An append's outcome. -/
structure GrownAt (w w' : World) (B : Nat) (u : Value) (A : Option Addr) (c : Nat) (l : List Int) : Prop where
  own : Own w' 5 B (.slice A l.length c) l
  rd : Rd w' A l.length c l
  kp : Kp (Of u) w w'
  went : Went w u (.slice A l.length c)
def Grown1 (w : World) (B : Nat) (u : Value) (l : List Int) (e : Ending) (w' : World) : Prop :=
  ∃ A c, e = .returned (.slice A l.length c) ∧ GrownAt w w' B u A c l
theorem Grown1.of {w w' : World} {B : Nat} {u v : Value} {l : List Int} (h : Own w' 5 B v l) (hk : Kp (Of u) w w') (hw : Went w u v) : Grown1 w B u l (.returned v) w' := by
  obtain ⟨A, c, rfl, hr, _⟩ := h.rd
  exact ⟨A, c, rfl, h, hr, hk, hw⟩
theorem Own.nonnil {w : World} {e : TypeId} {B : Nat} {v : Value} {l : List Int} (h : Own w e B v l) (hl : l ≠ []) : v ≠ .slice none 0 0 := by
  intro hv
  obtain ⟨A, c, he, hr, _⟩ := h.rd
  rw [hv] at he
  injection he with _ h1 _
  exact hl (List.eq_nil_of_length_eq_zero h1.symm)
theorem grown_lit {w w1 : World} {o : Obj} {B : Nat} {u v1 : Value} {l : List Int} (hO : Own w1 5 B v1 l) (hk : Kp (Of u) (w.alloc o) w1) (hw : Went (w.alloc o) u v1) : Grown1 w B u l (.returned v1) w1 :=
  Grown1.of hO (((Kp.refl (Of u) w).alloc o).trans hk (fun i _ h => h)) (hw.imp_right (fun ⟨b, h1, h2⟩ => ⟨b, h1, by simp at h2; omega⟩))

theorem AV_1 {w : World} {B : Nat} {u : Value} {l : List Int} (h : Own w 5 B u l) (hB : B ≤ w.heap.size) (hl : l.length ≤ 1099511627776) (v : Int) (h0 : 0 ≤ v) (h1 : v < 128) :
    Calls Tryd.prog 36 #[u, .int .u64 v] w (Grown1 w B u (l ++ [v])) := by
  have ew : IntKind.u8.wrap (v) = v := IntWalk.u8_in _ (by omega)
  have hb : Byt [v] := Byt.one (by omega) (by omega)
  have HR := Rd.lit w 5 [v] hb (by simp)
  have hk : Kp no w (w.alloc (.cells (nums .u8 [v]).toArray 5)) := (Kp.refl _ _).alloc _
  have HO := h.keepN hk
  go_enter Tryd.func36, Tryd.ntmps36
  go_wp2_with (first | (at_builtin; refine own_append B rfl (.tmp 56) (.tmp 59) 22 5 rfl Tryd.und_bytes Tryd.info_byte u l [v] (some ⟨w.heap.size, 0, none⟩) 1 1 rfl rfl HO HR (by simp; omega) (by simp; omega) ?_; intro v1 w1 hO1 hk1 hw1 hnn))
  go_ret
  exact grown_lit hO1 hk1 hw1

theorem AV_2 {w : World} {B : Nat} {u : Value} {l : List Int} (h : Own w 5 B u l) (hB : B ≤ w.heap.size) (hl : l.length ≤ 1099511627776) (v : Int) (h0 : 128 ≤ v) (h1 : v < 16384) :
    Calls Tryd.prog 36 #[u, .int .u64 v] w (Grown1 w B u (l ++ [v % 128 + 128, v / 128])) := by
  have e0 := u64_grp (v) (by omega) (by omega)
  have ew : IntKind.u8.wrap (v / 128) = v / 128 := IntWalk.u8_in _ (by omega)
  have hb : Byt [v % 128 + 128, v / 128] := Byt.app (Byt.one (by omega) (by omega)) (Byt.one (by omega) (by omega))
  have HR := Rd.lit w 5 [v % 128 + 128, v / 128] hb (by simp)
  have hk : Kp no w (w.alloc (.cells (nums .u8 [v % 128 + 128, v / 128]).toArray 5)) := (Kp.refl _ _).alloc _
  have HO := h.keepN hk
  go_enter Tryd.func36, Tryd.ntmps36
  go_wp2_with (first | (at_builtin; refine own_append B rfl (.tmp 64) (.tmp 73) 22 5 rfl Tryd.und_bytes Tryd.info_byte u l [v % 128 + 128, v / 128] (some ⟨w.heap.size, 0, none⟩) 2 2 rfl rfl HO HR (by simp; omega) (by simp; omega) ?_; intro v1 w1 hO1 hk1 hw1 hnn))
  go_ret
  exact grown_lit hO1 hk1 hw1

theorem AV_3 {w : World} {B : Nat} {u : Value} {l : List Int} (h : Own w 5 B u l) (hB : B ≤ w.heap.size) (hl : l.length ≤ 1099511627776) (v : Int) (h0 : 16384 ≤ v) (h1 : v < 2097152) :
    Calls Tryd.prog 36 #[u, .int .u64 v] w (Grown1 w B u (l ++ [v % 128 + 128, v / 128 % 128 + 128, v / 16384])) := by
  have e0 := u64_grp (v) (by omega) (by omega)
  have e1 := u64_grp (v / 128) (by omega) (by omega)
  have ew : IntKind.u8.wrap (v / 16384) = v / 16384 := IntWalk.u8_in _ (by omega)
  have hb : Byt [v % 128 + 128, v / 128 % 128 + 128, v / 16384] := Byt.app (Byt.one (by omega) (by omega)) (Byt.app (Byt.one (by omega) (by omega)) (Byt.one (by omega) (by omega)))
  have HR := Rd.lit w 5 [v % 128 + 128, v / 128 % 128 + 128, v / 16384] hb (by simp)
  have hk : Kp no w (w.alloc (.cells (nums .u8 [v % 128 + 128, v / 128 % 128 + 128, v / 16384]).toArray 5)) := (Kp.refl _ _).alloc _
  have HO := h.keepN hk
  go_enter Tryd.func36, Tryd.ntmps36
  go_wp2_with (first | (at_builtin; refine own_append B rfl (.tmp 78) (.tmp 92) 22 5 rfl Tryd.und_bytes Tryd.info_byte u l [v % 128 + 128, v / 128 % 128 + 128, v / 16384] (some ⟨w.heap.size, 0, none⟩) 3 3 rfl rfl HO HR (by simp; omega) (by simp; omega) ?_; intro v1 w1 hO1 hk1 hw1 hnn))
  go_ret
  exact grown_lit hO1 hk1 hw1

theorem AV_4 {w : World} {B : Nat} {u : Value} {l : List Int} (h : Own w 5 B u l) (hB : B ≤ w.heap.size) (hl : l.length ≤ 1099511627776) (v : Int) (h0 : 2097152 ≤ v) (h1 : v < 268435456) :
    Calls Tryd.prog 36 #[u, .int .u64 v] w (Grown1 w B u (l ++ [v % 128 + 128, v / 128 % 128 + 128, v / 16384 % 128 + 128, v / 2097152])) := by
  have e0 := u64_grp (v) (by omega) (by omega)
  have e1 := u64_grp (v / 128) (by omega) (by omega)
  have e2 := u64_grp (v / 16384) (by omega) (by omega)
  have ew : IntKind.u8.wrap (v / 2097152) = v / 2097152 := IntWalk.u8_in _ (by omega)
  have hb : Byt [v % 128 + 128, v / 128 % 128 + 128, v / 16384 % 128 + 128, v / 2097152] := Byt.app (Byt.one (by omega) (by omega)) (Byt.app (Byt.one (by omega) (by omega)) (Byt.app (Byt.one (by omega) (by omega)) (Byt.one (by omega) (by omega))))
  have HR := Rd.lit w 5 [v % 128 + 128, v / 128 % 128 + 128, v / 16384 % 128 + 128, v / 2097152] hb (by simp)
  have hk : Kp no w (w.alloc (.cells (nums .u8 [v % 128 + 128, v / 128 % 128 + 128, v / 16384 % 128 + 128, v / 2097152]).toArray 5)) := (Kp.refl _ _).alloc _
  have HO := h.keepN hk
  go_enter Tryd.func36, Tryd.ntmps36
  go_wp2_with (first | (at_builtin; refine own_append B rfl (.tmp 97) (.tmp 116) 22 5 rfl Tryd.und_bytes Tryd.info_byte u l [v % 128 + 128, v / 128 % 128 + 128, v / 16384 % 128 + 128, v / 2097152] (some ⟨w.heap.size, 0, none⟩) 4 4 rfl rfl HO HR (by simp; omega) (by simp; omega) ?_; intro v1 w1 hO1 hk1 hw1 hnn))
  go_ret
  exact grown_lit hO1 hk1 hw1

theorem AV_5 {w : World} {B : Nat} {u : Value} {l : List Int} (h : Own w 5 B u l) (hB : B ≤ w.heap.size) (hl : l.length ≤ 1099511627776) (v : Int) (h0 : 268435456 ≤ v) (h1 : v < 34359738368) :
    Calls Tryd.prog 36 #[u, .int .u64 v] w (Grown1 w B u (l ++ [v % 128 + 128, v / 128 % 128 + 128, v / 16384 % 128 + 128, v / 2097152 % 128 + 128, v / 268435456])) := by
  have e0 := u64_grp (v) (by omega) (by omega)
  have e1 := u64_grp (v / 128) (by omega) (by omega)
  have e2 := u64_grp (v / 16384) (by omega) (by omega)
  have e3 := u64_grp (v / 2097152) (by omega) (by omega)
  have ew : IntKind.u8.wrap (v / 268435456) = v / 268435456 := IntWalk.u8_in _ (by omega)
  have hb : Byt [v % 128 + 128, v / 128 % 128 + 128, v / 16384 % 128 + 128, v / 2097152 % 128 + 128, v / 268435456] := Byt.app (Byt.one (by omega) (by omega)) (Byt.app (Byt.one (by omega) (by omega)) (Byt.app (Byt.one (by omega) (by omega)) (Byt.app (Byt.one (by omega) (by omega)) (Byt.one (by omega) (by omega)))))
  have HR := Rd.lit w 5 [v % 128 + 128, v / 128 % 128 + 128, v / 16384 % 128 + 128, v / 2097152 % 128 + 128, v / 268435456] hb (by simp)
  have hk : Kp no w (w.alloc (.cells (nums .u8 [v % 128 + 128, v / 128 % 128 + 128, v / 16384 % 128 + 128, v / 2097152 % 128 + 128, v / 268435456]).toArray 5)) := (Kp.refl _ _).alloc _
  have HO := h.keepN hk
  go_enter Tryd.func36, Tryd.ntmps36
  go_wp2_with (first | (at_builtin; refine own_append B rfl (.tmp 121) (.tmp 145) 22 5 rfl Tryd.und_bytes Tryd.info_byte u l [v % 128 + 128, v / 128 % 128 + 128, v / 16384 % 128 + 128, v / 2097152 % 128 + 128, v / 268435456] (some ⟨w.heap.size, 0, none⟩) 5 5 rfl rfl HO HR (by simp; omega) (by simp; omega) ?_; intro v1 w1 hO1 hk1 hw1 hnn))
  go_ret
  exact grown_lit hO1 hk1 hw1

theorem AV_6 {w : World} {B : Nat} {u : Value} {l : List Int} (h : Own w 5 B u l) (hB : B ≤ w.heap.size) (hl : l.length ≤ 1099511627776) (v : Int) (h0 : 34359738368 ≤ v) (h1 : v < 4398046511104) :
    Calls Tryd.prog 36 #[u, .int .u64 v] w (Grown1 w B u (l ++ [v % 128 + 128, v / 128 % 128 + 128, v / 16384 % 128 + 128, v / 2097152 % 128 + 128, v / 268435456 % 128 + 128, v / 34359738368])) := by
  have e0 := u64_grp (v) (by omega) (by omega)
  have e1 := u64_grp (v / 128) (by omega) (by omega)
  have e2 := u64_grp (v / 16384) (by omega) (by omega)
  have e3 := u64_grp (v / 2097152) (by omega) (by omega)
  have e4 := u64_grp (v / 268435456) (by omega) (by omega)
  have ew : IntKind.u8.wrap (v / 34359738368) = v / 34359738368 := IntWalk.u8_in _ (by omega)
  have hb : Byt [v % 128 + 128, v / 128 % 128 + 128, v / 16384 % 128 + 128, v / 2097152 % 128 + 128, v / 268435456 % 128 + 128, v / 34359738368] := Byt.app (Byt.one (by omega) (by omega)) (Byt.app (Byt.one (by omega) (by omega)) (Byt.app (Byt.one (by omega) (by omega)) (Byt.app (Byt.one (by omega) (by omega)) (Byt.app (Byt.one (by omega) (by omega)) (Byt.one (by omega) (by omega))))))
  have HR := Rd.lit w 5 [v % 128 + 128, v / 128 % 128 + 128, v / 16384 % 128 + 128, v / 2097152 % 128 + 128, v / 268435456 % 128 + 128, v / 34359738368] hb (by simp)
  have hk : Kp no w (w.alloc (.cells (nums .u8 [v % 128 + 128, v / 128 % 128 + 128, v / 16384 % 128 + 128, v / 2097152 % 128 + 128, v / 268435456 % 128 + 128, v / 34359738368]).toArray 5)) := (Kp.refl _ _).alloc _
  have HO := h.keepN hk
  go_enter Tryd.func36, Tryd.ntmps36
  go_wp2_with (first | (at_builtin; refine own_append B rfl (.tmp 150) (.tmp 179) 22 5 rfl Tryd.und_bytes Tryd.info_byte u l [v % 128 + 128, v / 128 % 128 + 128, v / 16384 % 128 + 128, v / 2097152 % 128 + 128, v / 268435456 % 128 + 128, v / 34359738368] (some ⟨w.heap.size, 0, none⟩) 6 6 rfl rfl HO HR (by simp; omega) (by simp; omega) ?_; intro v1 w1 hO1 hk1 hw1 hnn))
  go_ret
  exact grown_lit hO1 hk1 hw1

theorem AV_7 {w : World} {B : Nat} {u : Value} {l : List Int} (h : Own w 5 B u l) (hB : B ≤ w.heap.size) (hl : l.length ≤ 1099511627776) (v : Int) (h0 : 4398046511104 ≤ v) (h1 : v < 562949953421312) :
    Calls Tryd.prog 36 #[u, .int .u64 v] w (Grown1 w B u (l ++ [v % 128 + 128, v / 128 % 128 + 128, v / 16384 % 128 + 128, v / 2097152 % 128 + 128, v / 268435456 % 128 + 128, v / 34359738368 % 128 + 128, v / 4398046511104])) := by
  have e0 := u64_grp (v) (by omega) (by omega)
  have e1 := u64_grp (v / 128) (by omega) (by omega)
  have e2 := u64_grp (v / 16384) (by omega) (by omega)
  have e3 := u64_grp (v / 2097152) (by omega) (by omega)
  have e4 := u64_grp (v / 268435456) (by omega) (by omega)
  have e5 := u64_grp (v / 34359738368) (by omega) (by omega)
  have ew : IntKind.u8.wrap (v / 4398046511104) = v / 4398046511104 := IntWalk.u8_in _ (by omega)
  have hb : Byt [v % 128 + 128, v / 128 % 128 + 128, v / 16384 % 128 + 128, v / 2097152 % 128 + 128, v / 268435456 % 128 + 128, v / 34359738368 % 128 + 128, v / 4398046511104] := Byt.app (Byt.one (by omega) (by omega)) (Byt.app (Byt.one (by omega) (by omega)) (Byt.app (Byt.one (by omega) (by omega)) (Byt.app (Byt.one (by omega) (by omega)) (Byt.app (Byt.one (by omega) (by omega)) (Byt.app (Byt.one (by omega) (by omega)) (Byt.one (by omega) (by omega)))))))
  have HR := Rd.lit w 5 [v % 128 + 128, v / 128 % 128 + 128, v / 16384 % 128 + 128, v / 2097152 % 128 + 128, v / 268435456 % 128 + 128, v / 34359738368 % 128 + 128, v / 4398046511104] hb (by simp)
  have hk : Kp no w (w.alloc (.cells (nums .u8 [v % 128 + 128, v / 128 % 128 + 128, v / 16384 % 128 + 128, v / 2097152 % 128 + 128, v / 268435456 % 128 + 128, v / 34359738368 % 128 + 128, v / 4398046511104]).toArray 5)) := (Kp.refl _ _).alloc _
  have HO := h.keepN hk
  go_enter Tryd.func36, Tryd.ntmps36
  go_wp2_with (first | (at_builtin; refine own_append B rfl (.tmp 184) (.tmp 218) 22 5 rfl Tryd.und_bytes Tryd.info_byte u l [v % 128 + 128, v / 128 % 128 + 128, v / 16384 % 128 + 128, v / 2097152 % 128 + 128, v / 268435456 % 128 + 128, v / 34359738368 % 128 + 128, v / 4398046511104] (some ⟨w.heap.size, 0, none⟩) 7 7 rfl rfl HO HR (by simp; omega) (by simp; omega) ?_; intro v1 w1 hO1 hk1 hw1 hnn))
  go_ret
  exact grown_lit hO1 hk1 hw1

theorem AV_8 {w : World} {B : Nat} {u : Value} {l : List Int} (h : Own w 5 B u l) (hB : B ≤ w.heap.size) (hl : l.length ≤ 1099511627776) (v : Int) (h0 : 562949953421312 ≤ v) (h1 : v < 72057594037927936) :
    Calls Tryd.prog 36 #[u, .int .u64 v] w (Grown1 w B u (l ++ [v % 128 + 128, v / 128 % 128 + 128, v / 16384 % 128 + 128, v / 2097152 % 128 + 128, v / 268435456 % 128 + 128, v / 34359738368 % 128 + 128, v / 4398046511104 % 128 + 128, v / 562949953421312])) := by
  have e0 := u64_grp (v) (by omega) (by omega)
  have e1 := u64_grp (v / 128) (by omega) (by omega)
  have e2 := u64_grp (v / 16384) (by omega) (by omega)
  have e3 := u64_grp (v / 2097152) (by omega) (by omega)
  have e4 := u64_grp (v / 268435456) (by omega) (by omega)
  have e5 := u64_grp (v / 34359738368) (by omega) (by omega)
  have e6 := u64_grp (v / 4398046511104) (by omega) (by omega)
  have ew : IntKind.u8.wrap (v / 562949953421312) = v / 562949953421312 := IntWalk.u8_in _ (by omega)
  have hb : Byt [v % 128 + 128, v / 128 % 128 + 128, v / 16384 % 128 + 128, v / 2097152 % 128 + 128, v / 268435456 % 128 + 128, v / 34359738368 % 128 + 128, v / 4398046511104 % 128 + 128, v / 562949953421312] := Byt.app (Byt.one (by omega) (by omega)) (Byt.app (Byt.one (by omega) (by omega)) (Byt.app (Byt.one (by omega) (by omega)) (Byt.app (Byt.one (by omega) (by omega)) (Byt.app (Byt.one (by omega) (by omega)) (Byt.app (Byt.one (by omega) (by omega)) (Byt.app (Byt.one (by omega) (by omega)) (Byt.one (by omega) (by omega))))))))
  have HR := Rd.lit w 5 [v % 128 + 128, v / 128 % 128 + 128, v / 16384 % 128 + 128, v / 2097152 % 128 + 128, v / 268435456 % 128 + 128, v / 34359738368 % 128 + 128, v / 4398046511104 % 128 + 128, v / 562949953421312] hb (by simp)
  have hk : Kp no w (w.alloc (.cells (nums .u8 [v % 128 + 128, v / 128 % 128 + 128, v / 16384 % 128 + 128, v / 2097152 % 128 + 128, v / 268435456 % 128 + 128, v / 34359738368 % 128 + 128, v / 4398046511104 % 128 + 128, v / 562949953421312]).toArray 5)) := (Kp.refl _ _).alloc _
  have HO := h.keepN hk
  go_enter Tryd.func36, Tryd.ntmps36
  go_wp2_with (first | (at_builtin; refine own_append B rfl (.tmp 223) (.tmp 262) 22 5 rfl Tryd.und_bytes Tryd.info_byte u l [v % 128 + 128, v / 128 % 128 + 128, v / 16384 % 128 + 128, v / 2097152 % 128 + 128, v / 268435456 % 128 + 128, v / 34359738368 % 128 + 128, v / 4398046511104 % 128 + 128, v / 562949953421312] (some ⟨w.heap.size, 0, none⟩) 8 8 rfl rfl HO HR (by simp; omega) (by simp; omega) ?_; intro v1 w1 hO1 hk1 hw1 hnn))
  go_ret
  exact grown_lit hO1 hk1 hw1

theorem AV_9 {w : World} {B : Nat} {u : Value} {l : List Int} (h : Own w 5 B u l) (hB : B ≤ w.heap.size) (hl : l.length ≤ 1099511627776) (v : Int) (h0 : 72057594037927936 ≤ v) (h1 : v < 9223372036854775808) :
    Calls Tryd.prog 36 #[u, .int .u64 v] w (Grown1 w B u (l ++ [v % 128 + 128, v / 128 % 128 + 128, v / 16384 % 128 + 128, v / 2097152 % 128 + 128, v / 268435456 % 128 + 128, v / 34359738368 % 128 + 128, v / 4398046511104 % 128 + 128, v / 562949953421312 % 128 + 128, v / 72057594037927936])) := by
  have e0 := u64_grp (v) (by omega) (by omega)
  have e1 := u64_grp (v / 128) (by omega) (by omega)
  have e2 := u64_grp (v / 16384) (by omega) (by omega)
  have e3 := u64_grp (v / 2097152) (by omega) (by omega)
  have e4 := u64_grp (v / 268435456) (by omega) (by omega)
  have e5 := u64_grp (v / 34359738368) (by omega) (by omega)
  have e6 := u64_grp (v / 4398046511104) (by omega) (by omega)
  have e7 := u64_grp (v / 562949953421312) (by omega) (by omega)
  have ew : IntKind.u8.wrap (v / 72057594037927936) = v / 72057594037927936 := IntWalk.u8_in _ (by omega)
  have hb : Byt [v % 128 + 128, v / 128 % 128 + 128, v / 16384 % 128 + 128, v / 2097152 % 128 + 128, v / 268435456 % 128 + 128, v / 34359738368 % 128 + 128, v / 4398046511104 % 128 + 128, v / 562949953421312 % 128 + 128, v / 72057594037927936] := Byt.app (Byt.one (by omega) (by omega)) (Byt.app (Byt.one (by omega) (by omega)) (Byt.app (Byt.one (by omega) (by omega)) (Byt.app (Byt.one (by omega) (by omega)) (Byt.app (Byt.one (by omega) (by omega)) (Byt.app (Byt.one (by omega) (by omega)) (Byt.app (Byt.one (by omega) (by omega)) (Byt.app (Byt.one (by omega) (by omega)) (Byt.one (by omega) (by omega)))))))))
  have HR := Rd.lit w 5 [v % 128 + 128, v / 128 % 128 + 128, v / 16384 % 128 + 128, v / 2097152 % 128 + 128, v / 268435456 % 128 + 128, v / 34359738368 % 128 + 128, v / 4398046511104 % 128 + 128, v / 562949953421312 % 128 + 128, v / 72057594037927936] hb (by simp)
  have hk : Kp no w (w.alloc (.cells (nums .u8 [v % 128 + 128, v / 128 % 128 + 128, v / 16384 % 128 + 128, v / 2097152 % 128 + 128, v / 268435456 % 128 + 128, v / 34359738368 % 128 + 128, v / 4398046511104 % 128 + 128, v / 562949953421312 % 128 + 128, v / 72057594037927936]).toArray 5)) := (Kp.refl _ _).alloc _
  have HO := h.keepN hk
  go_enter Tryd.func36, Tryd.ntmps36
  go_wp2_with (first | (at_builtin; refine own_append B rfl (.tmp 267) (.tmp 311) 22 5 rfl Tryd.und_bytes Tryd.info_byte u l [v % 128 + 128, v / 128 % 128 + 128, v / 16384 % 128 + 128, v / 2097152 % 128 + 128, v / 268435456 % 128 + 128, v / 34359738368 % 128 + 128, v / 4398046511104 % 128 + 128, v / 562949953421312 % 128 + 128, v / 72057594037927936] (some ⟨w.heap.size, 0, none⟩) 9 9 rfl rfl HO HR (by simp; omega) (by simp; omega) ?_; intro v1 w1 hO1 hk1 hw1 hnn))
  go_ret
  exact grown_lit hO1 hk1 hw1

theorem AV_10 {w : World} {B : Nat} {u : Value} {l : List Int} (h : Own w 5 B u l) (hB : B ≤ w.heap.size) (hl : l.length ≤ 1099511627776) (v : Int) (h0 : 9223372036854775808 ≤ v) (h1 : v < 18446744073709551616) :
    Calls Tryd.prog 36 #[u, .int .u64 v] w (Grown1 w B u (l ++ [v % 128 + 128, v / 128 % 128 + 128, v / 16384 % 128 + 128, v / 2097152 % 128 + 128, v / 268435456 % 128 + 128, v / 34359738368 % 128 + 128, v / 4398046511104 % 128 + 128, v / 562949953421312 % 128 + 128, v / 72057594037927936 % 128 + 128, 1])) := by
  have e0 := u64_grp (v) (by omega) (by omega)
  have e1 := u64_grp (v / 128) (by omega) (by omega)
  have e2 := u64_grp (v / 16384) (by omega) (by omega)
  have e3 := u64_grp (v / 2097152) (by omega) (by omega)
  have e4 := u64_grp (v / 268435456) (by omega) (by omega)
  have e5 := u64_grp (v / 34359738368) (by omega) (by omega)
  have e6 := u64_grp (v / 4398046511104) (by omega) (by omega)
  have e7 := u64_grp (v / 562949953421312) (by omega) (by omega)
  have e8 := u64_grp (v / 72057594037927936) (by omega) (by omega)
  have hb : Byt [v % 128 + 128, v / 128 % 128 + 128, v / 16384 % 128 + 128, v / 2097152 % 128 + 128, v / 268435456 % 128 + 128, v / 34359738368 % 128 + 128, v / 4398046511104 % 128 + 128, v / 562949953421312 % 128 + 128, v / 72057594037927936 % 128 + 128, 1] := Byt.app (Byt.one (by omega) (by omega)) (Byt.app (Byt.one (by omega) (by omega)) (Byt.app (Byt.one (by omega) (by omega)) (Byt.app (Byt.one (by omega) (by omega)) (Byt.app (Byt.one (by omega) (by omega)) (Byt.app (Byt.one (by omega) (by omega)) (Byt.app (Byt.one (by omega) (by omega)) (Byt.app (Byt.one (by omega) (by omega)) (Byt.app (Byt.one (by omega) (by omega)) (Byt.one (by omega) (by omega))))))))))
  have HR := Rd.lit w 5 [v % 128 + 128, v / 128 % 128 + 128, v / 16384 % 128 + 128, v / 2097152 % 128 + 128, v / 268435456 % 128 + 128, v / 34359738368 % 128 + 128, v / 4398046511104 % 128 + 128, v / 562949953421312 % 128 + 128, v / 72057594037927936 % 128 + 128, 1] hb (by simp)
  have hk : Kp no w (w.alloc (.cells (nums .u8 [v % 128 + 128, v / 128 % 128 + 128, v / 16384 % 128 + 128, v / 2097152 % 128 + 128, v / 268435456 % 128 + 128, v / 34359738368 % 128 + 128, v / 4398046511104 % 128 + 128, v / 562949953421312 % 128 + 128, v / 72057594037927936 % 128 + 128, 1]).toArray 5)) := (Kp.refl _ _).alloc _
  have HO := h.keepN hk
  go_enter Tryd.func36, Tryd.ntmps36
  go_wp2_with (first | (at_builtin; refine own_append B rfl (.tmp 5) (.tmp 51) 22 5 rfl Tryd.und_bytes Tryd.info_byte u l [v % 128 + 128, v / 128 % 128 + 128, v / 16384 % 128 + 128, v / 2097152 % 128 + 128, v / 268435456 % 128 + 128, v / 34359738368 % 128 + 128, v / 4398046511104 % 128 + 128, v / 562949953421312 % 128 + 128, v / 72057594037927936 % 128 + 128, 1] (some ⟨w.heap.size, 0, none⟩) 10 10 rfl rfl HO HR (by simp; omega) (by simp; omega) ?_; intro v1 w1 hO1 hk1 hw1 hnn))
  go_ret
  exact grown_lit hO1 hk1 hw1

theorem AV_calls {w : World} {B : Nat} {u : Value} {l : List Int} (h : Own w 5 B u l) (hB : B ≤ w.heap.size) (hl : l.length ≤ 1099511627776) (v : Int) (h0 : 0 ≤ v) (h1 : v < 18446744073709551616) :
    Calls Tryd.prog 36 #[u, .int .u64 v] w (Grown1 w B u (l ++ vint v)) := by
  have q2 : v / 128 / 128 = v / 16384 := by omega
  have q3 : v / 16384 / 128 = v / 2097152 := by omega
  have q4 : v / 2097152 / 128 = v / 268435456 := by omega
  have q5 : v / 268435456 / 128 = v / 34359738368 := by omega
  have q6 : v / 34359738368 / 128 = v / 4398046511104 := by omega
  have q7 : v / 4398046511104 / 128 = v / 562949953421312 := by omega
  have q8 : v / 562949953421312 / 128 = v / 72057594037927936 := by omega
  have q9 : v / 72057594037927936 / 128 = v / 9223372036854775808 := by omega
  by_cases c1 : v < 128
  · have e : vint v = [v] := by
      have d : v < 128 := by omega
      simp [vint, vi, d, c1]
    rw [e]; exact AV_1 h hB hl v (by omega) (by omega)
  by_cases c2 : v < 16384
  · have e : vint v = [v % 128 + 128, v / 128] := by
      have d : ¬ v < 128 ∧ v / 128 < 128 := by omega
      simp [vint, vi, d, c2]
    rw [e]; exact AV_2 h hB hl v (by omega) (by omega)
  by_cases c3 : v < 2097152
  · have e : vint v = [v % 128 + 128, v / 128 % 128 + 128, v / 16384] := by
      have d : ¬ v < 128 ∧ ¬ v / 128 < 128 ∧ v / 16384 < 128 := by omega
      simp [vint, vi, d, c3, q2]
    rw [e]; exact AV_3 h hB hl v (by omega) (by omega)
  by_cases c4 : v < 268435456
  · have e : vint v = [v % 128 + 128, v / 128 % 128 + 128, v / 16384 % 128 + 128, v / 2097152] := by
      have d : ¬ v < 128 ∧ ¬ v / 128 < 128 ∧ ¬ v / 16384 < 128 ∧ v / 2097152 < 128 := by omega
      simp [vint, vi, d, c4, q2, q3]
    rw [e]; exact AV_4 h hB hl v (by omega) (by omega)
  by_cases c5 : v < 34359738368
  · have e : vint v = [v % 128 + 128, v / 128 % 128 + 128, v / 16384 % 128 + 128, v / 2097152 % 128 + 128, v / 268435456] := by
      have d : ¬ v < 128 ∧ ¬ v / 128 < 128 ∧ ¬ v / 16384 < 128 ∧ ¬ v / 2097152 < 128 ∧ v / 268435456 < 128 := by omega
      simp [vint, vi, d, c5, q2, q3, q4]
    rw [e]; exact AV_5 h hB hl v (by omega) (by omega)
  by_cases c6 : v < 4398046511104
  · have e : vint v = [v % 128 + 128, v / 128 % 128 + 128, v / 16384 % 128 + 128, v / 2097152 % 128 + 128, v / 268435456 % 128 + 128, v / 34359738368] := by
      have d : ¬ v < 128 ∧ ¬ v / 128 < 128 ∧ ¬ v / 16384 < 128 ∧ ¬ v / 2097152 < 128 ∧ ¬ v / 268435456 < 128 ∧ v / 34359738368 < 128 := by omega
      simp [vint, vi, d, c6, q2, q3, q4, q5]
    rw [e]; exact AV_6 h hB hl v (by omega) (by omega)
  by_cases c7 : v < 562949953421312
  · have e : vint v = [v % 128 + 128, v / 128 % 128 + 128, v / 16384 % 128 + 128, v / 2097152 % 128 + 128, v / 268435456 % 128 + 128, v / 34359738368 % 128 + 128, v / 4398046511104] := by
      have d : ¬ v < 128 ∧ ¬ v / 128 < 128 ∧ ¬ v / 16384 < 128 ∧ ¬ v / 2097152 < 128 ∧ ¬ v / 268435456 < 128 ∧ ¬ v / 34359738368 < 128 ∧ v / 4398046511104 < 128 := by omega
      simp [vint, vi, d, c7, q2, q3, q4, q5, q6]
    rw [e]; exact AV_7 h hB hl v (by omega) (by omega)
  by_cases c8 : v < 72057594037927936
  · have e : vint v = [v % 128 + 128, v / 128 % 128 + 128, v / 16384 % 128 + 128, v / 2097152 % 128 + 128, v / 268435456 % 128 + 128, v / 34359738368 % 128 + 128, v / 4398046511104 % 128 + 128, v / 562949953421312] := by
      have d : ¬ v < 128 ∧ ¬ v / 128 < 128 ∧ ¬ v / 16384 < 128 ∧ ¬ v / 2097152 < 128 ∧ ¬ v / 268435456 < 128 ∧ ¬ v / 34359738368 < 128 ∧ ¬ v / 4398046511104 < 128 ∧ v / 562949953421312 < 128 := by omega
      simp [vint, vi, d, c8, q2, q3, q4, q5, q6, q7]
    rw [e]; exact AV_8 h hB hl v (by omega) (by omega)
  by_cases c9 : v < 9223372036854775808
  · have e : vint v = [v % 128 + 128, v / 128 % 128 + 128, v / 16384 % 128 + 128, v / 2097152 % 128 + 128, v / 268435456 % 128 + 128, v / 34359738368 % 128 + 128, v / 4398046511104 % 128 + 128, v / 562949953421312 % 128 + 128, v / 72057594037927936] := by
      have d : ¬ v < 128 ∧ ¬ v / 128 < 128 ∧ ¬ v / 16384 < 128 ∧ ¬ v / 2097152 < 128 ∧ ¬ v / 268435456 < 128 ∧ ¬ v / 34359738368 < 128 ∧ ¬ v / 4398046511104 < 128 ∧ ¬ v / 562949953421312 < 128 ∧ v / 72057594037927936 < 128 := by omega
      simp [vint, vi, d, c9, q2, q3, q4, q5, q6, q7, q8]
    rw [e]; exact AV_9 h hB hl v (by omega) (by omega)
  · have e : vint v = [v % 128 + 128, v / 128 % 128 + 128, v / 16384 % 128 + 128, v / 2097152 % 128 + 128, v / 268435456 % 128 + 128, v / 34359738368 % 128 + 128, v / 4398046511104 % 128 + 128, v / 562949953421312 % 128 + 128, v / 72057594037927936 % 128 + 128, 1] := by
      have d : ¬ v < 128 ∧ ¬ v / 128 < 128 ∧ ¬ v / 16384 < 128 ∧ ¬ v / 2097152 < 128 ∧ ¬ v / 268435456 < 128 ∧ ¬ v / 34359738368 < 128 ∧ ¬ v / 4398046511104 < 128 ∧ ¬ v / 562949953421312 < 128 ∧ ¬ v / 72057594037927936 < 128 ∧ v / 9223372036854775808 = 1 := by omega
      simp [vint, vi, d, q2, q3, q4, q5, q6, q7, q8, q9]
    rw [e]; exact AV_10 h hB hl v (by omega) (by omega)
theorem vint_eq (v : Int) : vint v = vi 9 v := rfl
attribute [irreducible] vint
end Go.Proofs.YthdbchahmbcfeaaDoor
