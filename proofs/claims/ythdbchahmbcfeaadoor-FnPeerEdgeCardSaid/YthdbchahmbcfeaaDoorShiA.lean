/- bits.RotateLeft32. Words of 32 bits; calls in a region that only reads. sha256.blockGeneric of Go's library, over whatever keys. -/
import Derived.Test.YthdbchahmbcfeaaDoorShP2
import Derived.Test.YthdbchahmbcfeaaDoorQTail
import Derived.Test.YthdbchahmbcfeaaDoorBytes
import Derived.Deep.MidRow
import Derived.Laws.BitsAllLaws
import Derived.Test.YthdbchahmbcfeaaDoorShaA
import Derived.Handy
import Derived.Test.YthdbchahmbcfeaaDoorNRow
import Derived.Deep.Cut
import Derived.Deep.CutRange
import Derived.Deep.CutBlock
import Derived.Deep.QuietTactic
import Derived.BigQuiet
import Derived.BigRegion
namespace Go.Proofs.YthdbchahmbcfeaaDoor
open Go Go.RowKit
set_option linter.unusedVariables false
set_option linter.unusedSimpArgs false
set_option maxRecDepth 100000

theorem rot_calls {w : World} (x k : Int) (h0 : -31 ≤ k) (h1 : k ≤ -1) :
    Calls Tryd.prog 105 #[.int .u32 x, .int .i64 k] w fun e w' => e = .returned (.int .u32 (rotl x (k + 32).toNat)) ∧ ∃ m, w' = w.drewN m := by
  obtain ⟨s, hs⟩ : ∃ s : Nat, (s : Int) = k + 32 := ⟨(k + 32).toNat, by omega⟩
  have hs1 : 1 ≤ s := by omega
  have hs2 : s ≤ 31 := by omega
  have ha : bits .and .u64 (IntKind.u64.wrap k) 31 = (s : Int) := by
    have hw : IntKind.u64.wrap k = k + 18446744073709551616 := by simp [IntKind.wrap, IntKind.bits, IntKind.signed]; omega
    have := u64_and (k + 18446744073709551616) 31 (by omega) (by omega) (by omega) (by omega)
    rw [hw, this, show (31 : Int).toNat = 2 ^ 5 - 1 from rfl, Nat.and_two_pow_sub_one_eq_mod]; omega
  obtain ⟨q, hq⟩ : ∃ q : Nat, (32 : Int) - (s : Int) = (q : Int) := ⟨32 - s, by omega⟩
  have HQ := Lib.hid (show 32 - s = q from by omega)
  have HS := Lib.hid (show (k + 32).toNat = s from by omega)
  rw [HS.out]
  clear hs
  go_enter Tryd.func105, Tryd.ntmps105
  go_wp2
  go_ret
  exact ⟨by unfold rotl; rw [HQ.out]; rfl, 0, rfl⟩
theorem rot_same {w : World} (x k : Int) (h0 : -31 ≤ k) (h1 : k ≤ -1) :
    Calls Tryd.prog 105 #[.int .u32 x, .int .i64 k] w fun e w' => e = .returned (.int .u32 (rotl x (k + 32).toNat)) ∧ w' = w := by
  obtain ⟨s, hs⟩ : ∃ s : Nat, (s : Int) = k + 32 := ⟨(k + 32).toNat, by omega⟩
  have hs1 : 1 ≤ s := by omega
  have hs2 : s ≤ 31 := by omega
  have ha : bits .and .u64 (IntKind.u64.wrap k) 31 = (s : Int) := by
    have hw : IntKind.u64.wrap k = k + 18446744073709551616 := by simp [IntKind.wrap, IntKind.bits, IntKind.signed]; omega
    have := u64_and (k + 18446744073709551616) 31 (by omega) (by omega) (by omega) (by omega)
    rw [hw, this, show (31 : Int).toNat = 2 ^ 5 - 1 from rfl, Nat.and_two_pow_sub_one_eq_mod]; omega
  obtain ⟨q, hq⟩ : ∃ q : Nat, (32 : Int) - (s : Int) = (q : Int) := ⟨32 - s, by omega⟩
  have HQ := Lib.hid (show 32 - s = q from by omega)
  have HS := Lib.hid (show (k + 32).toNat = s from by omega)
  rw [HS.out]
  clear hs
  go_enter Tryd.func105, Tryd.ntmps105
  go_wp2
  go_ret
  exact ⟨by unfold rotl; rw [HQ.out]; rfl, rfl⟩
end Go.Proofs.YthdbchahmbcfeaaDoor
namespace Go.Proofs.YthdbchahmbcfeaaDoor
open Go Go.RowKit
set_option linter.unusedVariables false

def W32k (L : List Int) : Prop := ∀ i : Nat, 0 ≤ L.getD i 0 ∧ L.getD i 0 < 4294967296
theorem quietN {P : Program} {f : FuncId} {args : Array Value} {w : World} {n : Nat} {v : Value}
    (h : Calls P f args (w.drewN n) fun e w' => e = .returned v ∧ ∃ m, w' = (w.drewN n).drewN m) : Calls P f args (w.drewN n) fun e w'' => e = .returned v ∧ ∃ m, w'' = w.drewN m :=
  h.mono fun _ _ ⟨he, m, hm⟩ => ⟨he, n + m, by rw [hm, World.drewN_drewN]⟩
theorem quietA {P : Program} {f : FuncId} {args : Array Value} {w : World} {q n : Nat} {v : Value}
    (h : Calls P f args (w.drewN (q + n)) fun e w' => e = .returned v ∧ ∃ m, w' = (w.drewN (q + n)).drewN m) : Calls P f args (w.drewN (q + n)) fun e w'' => e = .returned v ∧ ∃ m, w'' = w.drewN (q + m) :=
  h.mono fun _ _ ⟨he, m, hm⟩ => ⟨he, n + m, by rw [hm, World.drewN_drewN, Nat.add_assoc]⟩
theorem quietB {P : Program} {f : FuncId} {args : Array Value} {w : World} {q r n : Nat} {v : Value}
    (h : Calls P f args (w.drewN (q + (r + n))) fun e w' => e = .returned v ∧ ∃ m, w' = (w.drewN (q + (r + n))).drewN m) : Calls P f args (w.drewN (q + (r + n))) fun e w'' => e = .returned v ∧ ∃ m, w'' = w.drewN (q + (r + m)) :=
  h.mono fun _ _ ⟨he, m, hm⟩ => ⟨he, n + m, by rw [hm, World.drewN_drewN, Nat.add_assoc, Nat.add_assoc]⟩
end Go.Proofs.YthdbchahmbcfeaaDoor
namespace Go.Proofs.YthdbchahmbcfeaaDoor
open Go Go.RowKit
set_option linter.unusedVariables false
set_option linter.unusedSimpArgs false
set_option maxRecDepth 100000

/-- The keys, as the library's table holds them. -/
structure Keys (w : World) (K : List Int) : Prop where
  len : K.length = 64
  rng : W32k K
  at_ : ∀ i : Nat, i < 64 → w.cell? ⟨11, i, none⟩ = some (.int .u32 (K.getD i 0))
theorem Keys.keep {S : Nat → Prop} {w w' : World} {K : List Int} (h : Keys w K) (k : Kp S w w') (hn : ¬ S 11) : Keys w' K := ⟨h.len, h.rng, fun i hi => k.cell (h.at_ i hi) hn⟩
theorem Keys.keepN {w w' : World} {K : List Int} (h : Keys w K) (k : Kp no w w') : Keys w' K := h.keep k (fun h => h)

/-- At the head of a block: the words so far, what is left to read. -/
structure OutR (w1 : World) (gw : Nat) (K H0 l : List Int) (m q : Nat) (H : List Int) (A : Option Addr) (n c : Nat) (wr : World) : Prop where
  h : H.length = 8
  eq : iblks K H (l.drop (64 * q)) (m - q) = iblks K H0 l m
  hn : n = 64 * (m - q)
  rd : Rd wr A n c (l.drop (64 * q))
  lo : Lo gw A
  w : ∃ L, L.length = 64 ∧ Nw .u32 wr gw 171 L
  kp : Kp (· = gw) w1 wr
/-- Within a block. -/
structure InR (wo : World) (gw : Nat) (K H b : List Int) (i : Nat) (V : List Int) (wr : World) : Prop where
  v : V = irnds K H b i
  w : ∃ L, Words b i L ∧ Nw .u32 wr gw 171 L
  kp : Kp (· = gw) wo wr

theorem word4_small {x0 x1 x2 x3 : Int} (h0 : 0 ≤ x0 ∧ x0 < 256) (h1 : 0 ≤ x1 ∧ x1 < 256) (h2 : 0 ≤ x2 ∧ x2 < 256) : bits .or .u32 (bits .or .u32 (bits .or .u32 (x0 * 16777216) (x1 * 65536)) (x2 * 256)) x3 = word4 x0 x1 x2 x3 := by
  unfold word4
  rw [Int.emod_eq_of_lt (by omega) (by omega), Int.emod_eq_of_lt (by omega) (by omega), Int.emod_eq_of_lt (by omega) (by omega)]
/-- The eight words of a digest are laid anew. -/
theorem list8 {H : List Int} (h : H.length = 8) : H = [H.getD 0 0, H.getD 1 0, H.getD 2 0, H.getD 3 0, H.getD 4 0, H.getD 5 0, H.getD 6 0, H.getD 7 0] := by
  match H, h with
  | [a, b, c, d, e, f, g, i], _ => rfl
theorem Blk.setH {w : World} {g : Nat} {T : TypeId} {H : List Int} {rest : List Value} (hb : Blk w g (nums .u32 H ++ rest).toArray T) (i : Nat) (hi : i < H.length) (v : Int) : Blk (w.setCell ⟨g, i, none⟩ (.int .u32 v)) g (nums .u32 (H.set i v) ++ rest).toArray T := by
  have := Blk.set hb i (.int .u32 v)
  rw [show (nums .u32 (H.set i v) ++ rest).toArray = (nums .u32 H ++ rest).toArray.setIfInBounds i (.int .u32 v) from by
    apply Array.toList_inj.1
    rw [Array.toList_setIfInBounds, List.toList_toArray, List.toList_toArray, List.set_append_left _ _ (by rw [nums_length]; exact hi)]
    simp [nums, List.map_set]]
  exact this
/-- A store within a block, and what it keeps. -/
structure Put (w0 : World) (g : Nat) (T : TypeId) (H : List Int) (rest : List Value) (w : World) : Prop where
  blk : Blk w g (nums .u32 H ++ rest).toArray T
  kp : Kp (· = g) w0 w
theorem Put.set {w0 w : World} {g : Nat} {T : TypeId} {H : List Int} {rest : List Value} (h : Put w0 g T H rest w) (i : Nat) (hi : i < H.length) (v : Int) : Put w0 g T (H.set i v) rest (w.setCell ⟨g, i, none⟩ (.int .u32 v)) :=
  ⟨h.blk.setH i hi v, h.kp.setCell (p := ⟨g, i, none⟩) (fun _ => rfl) _⟩
theorem set_eight {H : List Int} (h : H.length = 8) (x0 x1 x2 x3 x4 x5 x6 x7 : Int) : (((((((H.set 0 x0).set 1 x1).set 2 x2).set 3 x3).set 4 x4).set 5 x5).set 6 x6).set 7 x7 = [x0, x1, x2, x3, x4, x5, x6, x7] := by
  match H, h with
  | [a, b, c, d, e, f, g, i], _ => rfl
theorem set8 {w0 w : World} {g : Nat} {T : TypeId} {H : List Int} {rest : List Value} (hl : H.length = 8) (h : Put w0 g T H rest w) (x0 x1 x2 x3 x4 x5 x6 x7 : Int) :
    Put w0 g T [x0, x1, x2, x3, x4, x5, x6, x7] rest ((((((((w.setCell ⟨g, 0, none⟩ (.int .u32 x0)).setCell ⟨g, 1, none⟩ (.int .u32 x1)).setCell ⟨g, 2, none⟩ (.int .u32 x2)).setCell ⟨g, 3, none⟩ (.int .u32 x3)).setCell ⟨g, 4, none⟩ (.int .u32 x4)).setCell ⟨g, 5, none⟩ (.int .u32 x5)).setCell ⟨g, 6, none⟩ (.int .u32 x6)).setCell ⟨g, 7, none⟩ (.int .u32 x7)) := by
  have h7 := (((((((h.set 0 (by omega) x0).set 1 (by simp; omega) x1).set 2 (by simp; omega) x2).set 3 (by simp; omega) x3).set 4 (by simp; omega) x4).set 5 (by simp; omega) x5).set 6 (by simp; omega) x6).set 7 (by simp; omega) x7
  rw [set_eight hl] at h7
  exact h7

def firstLoop : Code → Option Code
  | .loop c => some c
  | .seq a b => match firstLoop a with
    | some c => some c
    | none => firstLoop b
  | .block _ c => firstLoop c
  | .scope c => firstLoop c
  | .cond _ a b => match firstLoop a with
    | some c => some c
    | none => firstLoop b
  | _ => none
/-- The rounds of a block, out of the function's text. -/
noncomputable def innerBody : Code := (((Tryd.f46.body.bind firstLoop).bind firstLoop).getD .skip)
set_option maxHeartbeats 16000000 in
theorem inner_loop {wo : World} {gw gp op n c : Nat} {K H1 b D : List Int} {h0 h1 h2 h3 h4 h5 h6 h7 : Int} {c0 c2 c3 c5 c6 c7 c8 c9 c10 c11 c12 c21 c22 c23 c24 c25 c26 c27 c28 c29 c30 c31 c32 c33 c34 c35 c36 c37 c38 c39 c40 c41 c42 c43 c44 c45 c46 c47 c48 c49 c50 c51 c52 c53 c54 c55 c56 c57 c58 c59 c60 c61 c62 c63 c64 c65 c66 c67 c68 c69 c70 c71 c72 c73 c74 c75 c76 c77 c78 c79 c81 c82 c83 c84 c85 c86 c87 c88 c89 c90 c91 c92 c93 c94 c95 c96 c97 c98 c99 c100 c101 c102 c103 c104 c105 c106 c107 c108 c109 c110 c111 c112 c113 c114 c115 c116 c117 c118 c119 c120 c121 c122 c123 c124 c125 c126 c127 c128 c129 c130 c131 c132 c133 c134 c135 c136 c137 c138 c139 c140 c141 c142 c143 c144 c145 c146 c147 c148 c149 c150 c151 c152 c153 c154 c155 c156 c157 c158 c159 c160 c161 c162 c163 c164 c165 c166 c167 c168 c169 c170 c171 c172 c173 c174 c175 c176 c177 c178 c179 c180 c181 c182 c183 c184 c185 c186 c187 c188 c189 c190 c191 c192 c193 c194 c195 c196 c197 c198 c199 c200 c201 c202 c203 c204 c205 c206 c207 c208 c209 c210 c211 c212 c213 c214 c215 c216 c217 c218 c219 c220 c221 c222 c223 c224 c225 c226 c227 c228 c229 c230 c231 c232 c233 c234 c235 c236 c237 c238 c239 c240 c241 c242 c243 c244 c245 c246 c247 c248 c249 c250 c251 c252 c253 c254 c255 c256 c257 c258 c259 c260 c261 c262 c263 c264 c265 c266 c267 c268 c269 c270 c271 c272 c273 c274 c275 c276 c277 c278 c279 c280 c281 c282 : Value} {K' : Act → World → Prop} {Q' : Exit → Act → World → Prop}
    (hqm : 64 ≤ n) (hnm : n ≤ 9223372036854775807) (hcap : n ≤ c) (hgw : gw < wo.heap.size)
    (HE0 : Hid (Value.int .u32 h0 = Value.int .u32 (H1.getD 0 0))) (HE1 : Hid (Value.int .u32 h1 = Value.int .u32 (H1.getD 1 0))) (HE2 : Hid (Value.int .u32 h2 = Value.int .u32 (H1.getD 2 0))) (HE3 : Hid (Value.int .u32 h3 = Value.int .u32 (H1.getD 3 0)))
    (HE4 : Hid (Value.int .u32 h4 = Value.int .u32 (H1.getD 4 0))) (HE5 : Hid (Value.int .u32 h5 = Value.int .u32 (H1.getD 5 0))) (HE6 : Hid (Value.int .u32 h6 = Value.int .u32 (H1.getD 6 0))) (HE7 : Hid (Value.int .u32 h7 = Value.int .u32 (H1.getD 7 0)))
    (HI0 : Hid (InR wo gw K H1 b 0 H1 wo)) (HB : Hid (Byt D)) (HBG : Hid (∀ k : Nat, k < 64 → b.getD k 0 = D.getD k 0))
    (HCO : Hid (∀ (wx : World), Kp (· = gw) wo wx → ∀ j : Nat, j < n → wx.cell? ⟨gp, op + j, none⟩ = some (.int .u8 (D.getD j 0))))
    (HKO : Hid (∀ (wx : World), Kp (· = gw) wo wx → ∀ i : Nat, i < 64 → wx.cell? ⟨11, i, none⟩ = some (.int .u32 (K.getD i 0))))
    (hexit : ∀ (V : List Int) (wr : World), Hid (InR wo gw K H1 b 64 V wr) → ∀ u21 u22 u23 u24 u25 u26 u27 u28 u80 u81 u82 u83 u84 u85 u86 u87 u88 u89 u90 u91 u92 u93 u94 u95 u96 u97 u98 u99 u100 u101 u102 u103 u104 u105 u106 u107 u108 u109 u110 u111 u112 u113 u114 u115 u116 u117 u118 u119 u120 u121 u122 u123 u124 u125 u126 u127 u128 u129 u130 u131 u132 u133 u134 u135 u136 u137 u138 u139 u140 u141 u142 u143 u144 u145 u146 u147 u148 u149 u150 u151 u152 u153 u154 u155 u156 u157 u158 u159 u160 u161 u162 u163 u164 u165 u166 u167 u168 u169 u170 u171 u172 u173 u174 u175 u176 u177 u178 u179 u180 u181 u182 u183 u184 u185 u186 u187 u188 u189 u190 u191 u192 u193 u194 u195 u196 u197 u198 u199 u200 u201 u202 u203 u204 u205 u206 u207 u208 u209 u210 u211 u212 u213 u214 u215 u216 : Value, K' ⟨#[c0, .slice (some ⟨gp, op, none⟩) n c, c2, c3, .pointer (some ⟨gw, 0, none⟩), c5, c6, c7, c8, c9, c10, c11, c12, .int .u32 (V.getD 0 0), .int .u32 (V.getD 1 0), .int .u32 (V.getD 2 0), .int .u32 (V.getD 3 0), .int .u32 (V.getD 4 0), .int .u32 (V.getD 5 0), .int .u32 (V.getD 6 0), .int .u32 (V.getD 7 0), u21, u22, u23, u24, u25, u26, u27, u28, c29, c30, c31, c32, c33, c34, c35, c36, c37, c38, c39, c40, c41, c42, c43, c44, c45, c46, c47, c48, c49, c50, c51, c52, c53, c54, c55, c56, c57, c58, c59, c60, c61, c62, c63, c64, c65, c66, c67, c68, c69, c70, c71, c72, c73, c74, c75, c76, c77, c78, c79, u80, u81, u82, u83, u84, u85, u86, u87, u88, u89, u90, u91, u92, u93, u94, u95, u96, u97, u98, u99, u100, u101, u102, u103, u104, u105, u106, u107, u108, u109, u110, u111, u112, u113, u114, u115, u116, u117, u118, u119, u120, u121, u122, u123, u124, u125, u126, u127, u128, u129, u130, u131, u132, u133, u134, u135, u136, u137, u138, u139, u140, u141, u142, u143, u144, u145, u146, u147, u148, u149, u150, u151, u152, u153, u154, u155, u156, u157, u158, u159, u160, u161, u162, u163, u164, u165, u166, u167, u168, u169, u170, u171, u172, u173, u174, u175, u176, u177, u178, u179, u180, u181, u182, u183, u184, u185, u186, u187, u188, u189, u190, u191, u192, u193, u194, u195, u196, u197, u198, u199, u200, u201, u202, u203, u204, u205, u206, u207, u208, u209, u210, u211, u212, u213, u214, u215, u216, c217, c218, c219, c220, c221, c222, c223, c224, c225, c226, c227, c228, c229, c230, c231, c232, c233, c234, c235, c236, c237, c238, c239, c240, c241, c242, c243, c244, c245, c246, c247, c248, c249, c250, c251, c252, c253, c254, c255, c256, c257, c258, c259, c260, c261, c262, c263, c264, c265, c266, c267, c268, c269, c270, c271, c272, c273, c274, c275, c276, c277, c278, c279, c280, c281, c282], []⟩ wr) :
    Code.wp Tryd.prog (Code.loop innerBody) (Exit.inBlock 2 (Exit.then K' (Exit.inBlock 1 Q'))) ⟨#[c0, .slice (some ⟨gp, op, none⟩) n c, c2, c3, .pointer (some ⟨gw, 0, none⟩), c5, c6, c7, c8, c9, c10, c11, c12, .int .u32 h0, .int .u32 h1, .int .u32 h2, .int .u32 h3, .int .u32 h4, .int .u32 h5, .int .u32 h6, .int .u32 h7, c21, c22, c23, c24, c25, c26, c27, c28, c29, c30, c31, c32, c33, c34, c35, c36, c37, c38, c39, c40, c41, c42, c43, c44, c45, c46, c47, c48, c49, c50, c51, c52, c53, c54, c55, c56, c57, c58, c59, c60, c61, c62, c63, c64, c65, c66, c67, c68, c69, c70, c71, c72, c73, c74, c75, c76, c77, c78, c79, .int .i64 0, c81, c82, c83, c84, c85, c86, c87, c88, c89, c90, c91, c92, c93, c94, c95, c96, c97, c98, c99, c100, c101, c102, c103, c104, c105, c106, c107, c108, c109, c110, c111, c112, c113, c114, c115, c116, c117, c118, c119, c120, c121, c122, c123, c124, c125, c126, c127, c128, c129, c130, c131, c132, c133, c134, c135, c136, c137, c138, c139, c140, c141, c142, c143, c144, c145, c146, c147, c148, c149, c150, c151, c152, c153, c154, c155, c156, c157, c158, c159, c160, c161, c162, c163, c164, c165, c166, c167, c168, c169, c170, c171, c172, c173, c174, c175, c176, c177, c178, c179, c180, c181, c182, c183, c184, c185, c186, c187, c188, c189, c190, c191, c192, c193, c194, c195, c196, c197, c198, c199, c200, c201, c202, c203, c204, c205, c206, c207, c208, c209, c210, c211, c212, c213, c214, c215, c216, c217, c218, c219, c220, c221, c222, c223, c224, c225, c226, c227, c228, c229, c230, c231, c232, c233, c234, c235, c236, c237, c238, c239, c240, c241, c242, c243, c244, c245, c246, c247, c248, c249, c250, c251, c252, c253, c254, c255, c256, c257, c258, c259, c260, c261, c262, c263, c264, c265, c266, c267, c268, c269, c270, c271, c272, c273, c274, c275, c276, c277, c278, c279, c280, c281, c282], []⟩ wo := by
  have HX := Lib.hid hexit
  clear hexit
  conv => arg 2; arg 1; whnf
  conv => arg 4; dsimp only
  go_loopw [13, 14, 15, 16, 17, 18, 19, 20, 80] (fun u0 u1 u2 u3 u4 u5 u6 u7 iv wr => ∃ (i : Nat) (V : List Int), i ≤ 64 ∧ iv = .int .i64 i ∧ u0 = .int .u32 (V.getD 0 0) ∧ u1 = .int .u32 (V.getD 1 0) ∧ u2 = .int .u32 (V.getD 2 0) ∧ u3 = .int .u32 (V.getD 3 0) ∧ u4 = .int .u32 (V.getD 4 0) ∧ u5 = .int .u32 (V.getD 5 0) ∧ u6 = .int .u32 (V.getD 6 0) ∧ u7 = .int .u32 (V.getD 7 0) ∧ Hid (InR wo gw K H1 b i V wr)) (fun _ _ _ _ _ _ _ _ iv _ => 64 - (intOf iv).toNat)
  case atStart => exact ⟨0, H1, by omega, rfl, HE0.out, HE1.out, HE2.out, HE3.out, HE4.out, HE5.out, HE6.out, HE7.out, HI0⟩
  case round =>
    obtain ⟨i, V, hi, rfl, rfl, rfl, rfl, rfl, rfl, rfl, rfl, rfl, HI⟩ := hrel
    by_cases hlt : i < 64
    · obtain ⟨L, hW, hN⟩ := HI.out.w
      have kI := HI.out.kp
      have HW := Lib.hid hW
      have HVE := Lib.hid HI.out.v
      have HRN := Lib.hid (fun k x => show irnd V k x = [(inOne (V.getD 4 0) (V.getD 5 0) (V.getD 6 0) (V.getD 7 0) k x + inTwo (V.getD 0 0) (V.getD 1 0) (V.getD 2 0)) % 4294967296, V.getD 0 0, V.getD 1 0, V.getD 2 0, (V.getD 3 0 + inOne (V.getD 4 0) (V.getD 5 0) (V.getD 6 0) (V.getD 7 0) k x) % 4294967296, V.getD 4 0, V.getD 5 0, V.getD 6 0] from rfl)
      have HVS := Lib.hid (show irnds K H1 b (i + 1) = irnd V (K.getD i 0) (iwn b i) from by rw [HVE.out]; rfl)
      generalize V.getD 0 0 = y0 at *
      generalize V.getD 1 0 = y1 at *
      generalize V.getD 2 0 = y2 at *
      generalize V.getD 3 0 = y3 at *
      generalize V.getD 4 0 = y4 at *
      generalize V.getD 5 0 = y5 at *
      generalize V.getD 6 0 = y6 at *
      generalize V.getD 7 0 = y7 at *
      clear hW
      go_upto_if 84 with (fail)
      rw [show decide ((i : Int) < 64) = true from decide_eq_true (by omega)]
      go_cut [84] from 85 to 156 (fun tv wx => ∃ L', Hid (Words b (i + 1) L') ∧ Nw .u32 wx gw 171 L' ∧ Kp (· = gw) wo wx)
      case first =>
        have HL := Lib.hid HW.out.1
        by_cases h16 : i < 16
        · have d0 := HCO.out wr kI (i * 4) (by omega)
          have d1 := HCO.out wr kI (i * 4 + 1) (by omega)
          have d2 := HCO.out wr kI (i * 4 + 2) (by omega)
          have d3 := HCO.out wr kI (i * 4 + 3) (by omega)
          have z0 := HB.out.getD (i * 4)
          have z1 := HB.out.getD (i * 4 + 1)
          have z2 := HB.out.getD (i * 4 + 2)
          have z3 := HB.out.getD (i * 4 + 3)
          have HV := Lib.hid (show iwn b i = word4 (D.getD (i * 4) 0) (D.getD (i * 4 + 1) 0) (D.getD (i * 4 + 2) 0) (D.getD (i * 4 + 3) 0) from by
            rw [iwn_lo b h16, Nat.mul_comm 4 i, HBG.out _ (by omega), HBG.out _ (by omega), HBG.out _ (by omega), HBG.out _ (by omega)])
          generalize D.getD (i * 4) 0 = x0 at *
          generalize D.getD (i * 4 + 1) 0 = x1 at *
          generalize D.getD (i * 4 + 2) 0 = x2 at *
          generalize D.getD (i * 4 + 3) 0 = x3 at *
          have cw := hN.cell i (by rw [HL.out]; exact hlt)
          have fw := hN.free i
          generalize L.getD i 0 = zz at *
          go_wp2
          refine wp_region_quiet_tail 31 (by kernel_rfl) (by kernel_rfl) ?_
          simp only [List.take_succ_cons, List.take_zero, List.drop_succ_cons, List.drop_zero]
          repeat (go_big_quiet_step (fail))
          refine wpQuiet_nil ?_
          rintro _ ⟨nq9, rfl⟩
          go_wp2
          go_meet
          case rel => exact ⟨L.set i (iwn b i), Lib.hid (HW.out.set hlt), (Nw.keepN hN (Kp.byDraws _ nq9)).setTo i (by rw [HV.out]; first | rfl | exact word4_small z0 z1 z2) rfl, (kI.then (Kp.byDraws _ nq9)).setCell (p := ⟨gw, i, none⟩) (fun _ => rfl) _⟩
        · obtain ⟨j, rfl⟩ : ∃ j, i = j + 16 := ⟨i - 16, by omega⟩
          have e0 := hN.cell (j + 14) (by rw [HL.out]; omega)
          have e1 := hN.cell (j + 1) (by rw [HL.out]; omega)
          have e2 := hN.cell (j + 9) (by rw [HL.out]; omega)
          have e3 := hN.cell j (by rw [HL.out]; omega)
          rw [HW.out.2 (j + 14) (by omega)] at e0
          rw [HW.out.2 (j + 1) (by omega)] at e1
          rw [HW.out.2 (j + 9) (by omega)] at e2
          rw [HW.out.2 j (by omega)] at e3
          have HV := Lib.hid (show iwn b (j + 16) = inW (iwn b (j + 14)) (iwn b (j + 9)) (iwn b (j + 1)) (iwn b j) from by
            rw [iwn_hi b (by omega), show j + 16 - 2 = j + 14 from by omega, show j + 16 - 7 = j + 9 from by omega, show j + 16 - 15 = j + 1 from by omega, show j + 16 - 16 = j from by omega])
          have cw := hN.cell (j + 16) (by rw [HL.out]; exact hlt)
          have fw := hN.free (j + 16)
          generalize L.getD (j + 16) 0 = zz at *
          obtain ⟨x2, hx2⟩ : ∃ x, x = iwn b (j + 14) := ⟨_, rfl⟩
          obtain ⟨x7, hx7⟩ : ∃ x, x = iwn b (j + 9) := ⟨_, rfl⟩
          obtain ⟨x15, hx15⟩ : ∃ x, x = iwn b (j + 1) := ⟨_, rfl⟩
          obtain ⟨x16, hx16⟩ : ∃ x, x = iwn b j := ⟨_, rfl⟩
          rw [← hx2] at e0 HV
          rw [← hx15] at e1 HV
          rw [← hx7] at e2 HV
          rw [← hx16] at e3 HV
          clear hx2 hx7 hx15 hx16
          have hj48 : j < 48 := by omega
          clear h16
          have hdec : decide (((j + 16 : Nat) : Int) < 16) = false := decide_eq_false (by omega)
          rw [hdec]
          clear hdec
          rw [show ((j + 16 : Nat) : Int) = (j : Int) + 16 from by omega]
          go_wp2_with (go_at_call 105; refine (rot_same _ _ (by omega) (by omega)).mono ?_; rintro e wz ⟨rfl, hz⟩; obtain rfl := hz.symm)
          refine wp_region_quiet_tail 15 (by kernel_rfl) (by kernel_rfl) ?_
          simp only [List.take_succ_cons, List.take_zero, List.drop_succ_cons, List.drop_zero]
          repeat (go_big_quiet_step (fail))
          refine wpQuiet_nil ?_
          rintro _ ⟨nq9, rfl⟩
          go_wp2
          rw [show (j : Int) + 16 = ((j + 16 : Nat) : Int) from by omega]
          go_meet
          case rel => exact ⟨L.set (j + 16) (iwn b (j + 16)), Lib.hid (HW.out.set hlt), (Nw.keepN hN (Kp.byDraws _ nq9)).setTo (j + 16) (by rw [HV.out]; unfold inW ig1 ig0 xo; omega) rfl, (kI.then (Kp.byDraws _ nq9)).setCell (p := ⟨gw, j + 16, none⟩) (fun _ => rfl) _⟩
      case rest =>
        obtain ⟨L', HW', hN', kI'⟩ := hcut
        obtain ⟨wd, rfl⟩ : ∃ x : World, x = wc := ⟨_, rfl⟩
        have ck := HKO.out wd kI' i hlt
        have cl := hN'.cell i (by rw [HW'.out.1]; exact hlt)
        rw [HW'.out.2 i (by omega)] at cl
        clear HW HI hN kI
        generalize K.getD i 0 = xk at *
        generalize iwn b i = xw at *
        go_upto_region 15 with (fail)
        go_cut [27, 81] from 157 to 183 (fun v _ wx => v = .int .u32 (inOne y4 y5 y6 y7 xk xw) ∧ ∃ nq, wx = wd.drewN nq)
        case first =>
          go_quiet ((go_at_call 105; exact Calls.quiet_of_same (rot_same _ _ (by omega) (by omega))))
          go_wp2
          go_meet
          case rel => exact ⟨rfl, nq, rfl⟩
        case rest =>
          obtain ⟨rfl, nq, rfl⟩ := hcut
          have HVT := Lib.hid (HVS.out.trans (HRN.out xk xw))
          clear HVS HRN
          generalize inOne y4 y5 y6 y7 xk xw = t1 at *
          go_wp2_with (go_at_call 105; refine (rot_same _ _ (by omega) (by omega)).mono ?_; rintro e wz ⟨rfl, hz⟩; obtain rfl := hz.symm)
          go_roundw
          case rel =>
            exact ⟨i + 1, [(t1 + inTwo y0 y1 y2) % 4294967296, y0, y1, y2, (y3 + t1) % 4294967296, y4, y5, y6], by omega, by go_num, congrArg (Value.int .u32) (by simp only [List.getD_cons_zero]; unfold inTwo xo an; omega), rfl, rfl, rfl, rfl, rfl, rfl, rfl, Lib.hid ⟨HVT.out.symm, ⟨L', HW'.out, hN'.keepN (Kp.byDraws _ _)⟩, kI'.then (Kp.byDraws _ _)⟩⟩
          case measure => simp [intOf]; omega
    · obtain rfl : i = 64 := by omega
      go_wp2
      exact HX.out V wr HI _ _ _ _ _ _ _ _ _ _ _ _ _ _ _ _ _ _ _ _ _ _ _ _ _ _ _ _ _ _ _ _ _ _ _ _ _ _ _ _ _ _ _ _ _ _ _ _ _ _ _ _ _ _ _ _ _ _ _ _ _ _ _ _ _ _ _ _ _ _ _ _ _ _ _ _ _ _ _ _ _ _ _ _ _ _ _ _ _ _ _ _ _ _ _ _ _ _ _ _ _ _ _ _ _ _ _ _ _ _ _ _ _ _ _ _ _ _ _ _ _ _ _ _ _ _ _ _ _ _ _ _ _ _ _ _ _ _ _ _ _ _ _ _ _
set_option maxHeartbeats 16000000 in
theorem blockG_calls {w : World} {g c m : Nat} {A : Option Addr} {l H K : List Int} {rest : List Value} (hH : H.length = 8) 
    (hD : Blk w g (nums .u32 H ++ rest).toArray 124) (hK : Keys w K) (hg : 11 ≠ g) (hp : Rd w A (64 * m) c l) (hlo : Lo w.heap.size A) (hm : m ≤ 1000000) :
    Calls Tryd.prog 46 #[.pointer (some ⟨g, 0, none⟩), .slice A (64 * m) c] w
      fun e w' => e = .returned (.tuple #[]) ∧ Blk w' g (nums .u32 (iblks K H l m) ++ rest).toArray 124 ∧ Kp (· = g) w w' := by
  have hgl := hD.lt
  have ka : Kp no w (w.alloc (.cells (nums .u32 (List.replicate 64 0)).toArray 171)) := (Kp.refl _ _).alloc _
  have BW : Nw .u32 (w.alloc (.cells (nums .u32 (List.replicate 64 0)).toArray 171)) w.heap.size 171 (List.replicate 64 0) := Blk.new w _ _
  have hD1 := hD.keepN ka
  have cellH : ∀ (W : World) (H : List Int), H.length = 8 → Blk W g (nums .u32 H ++ rest).toArray 124 → ∀ i : Nat, i < 8 → W.cell? ⟨g, i, none⟩ = some (.int .u32 (H.getD i 0)) := fun W H hH h i hi => by
    rw [h.cell i, List.getElem?_toArray, List.getElem?_append_left (by rw [nums_length]; omega)]
    simp [nums, List.getD_eq_getElem?_getD, List.getElem?_eq_getElem (show i < H.length by omega)]
  have c0 := cellH _ H hH hD1 0 (by omega)
  have c1 := cellH _ H hH hD1 1 (by omega)
  have c2 := cellH _ H hH hD1 2 (by omega)
  have c3 := cellH _ H hH hD1 3 (by omega)
  have c4 := cellH _ H hH hD1 4 (by omega)
  have c5 := cellH _ H hH hD1 5 (by omega)
  have c6 := cellH _ H hH hD1 6 (by omega)
  have c7 := cellH _ H hH hD1 7 (by omega)
  have HHL := Lib.hid hH
  have HRP := Lib.hid hp
  have hpl := hp.cap
  have hpm := hp.max
  have HKY := Lib.hid hK
  have HLO := Lib.hid hlo
  clear hp hK hH hlo hD1
  have CH := Lib.hid cellH
  clear cellH
  go_enter Tryd.func46, Tryd.ntmps46
  go_upto_region 1 with (fail)
  show Code.wp _ _ _ _ (w.alloc (.cells (nums .u32 (List.replicate 64 0)).toArray 171))
  generalize w.alloc (.cells (nums .u32 (List.replicate 64 0)).toArray 171) = W1 at *
  go_cut [5, 6, 7, 8, 9, 10, 11, 12] from 29 to 68 (fun v0 v1 v2 v3 v4 v5 v6 v7 wx => v0 = .int .u32 (H.getD 0 0) ∧ v1 = .int .u32 (H.getD 1 0) ∧ v2 = .int .u32 (H.getD 2 0) ∧ v3 = .int .u32 (H.getD 3 0) ∧ v4 = .int .u32 (H.getD 4 0) ∧ v5 = .int .u32 (H.getD 5 0) ∧ v6 = .int .u32 (H.getD 6 0) ∧ v7 = .int .u32 (H.getD 7 0) ∧ ∃ nq, wx = W1.drewN nq)
  case first =>
    go_quiet (fail)
    go_wp2
    go_meet
    case rel => exact ⟨rfl, rfl, rfl, rfl, rfl, rfl, rfl, rfl, nq, rfl⟩
  case rest =>
  obtain ⟨rfl, rfl, rfl, rfl, rfl, rfl, rfl, rfl, nq, rfl⟩ := hcut
  have HO : OutR W1 w.heap.size K H l m 0 H A (64 * m) c (W1.drewN nq) := ⟨HHL.out, by simp, by simp, by rw [Nat.mul_zero, List.drop_zero]; exact (HRP.out.keepN ka).keepN (Kp.byDraws _ _), HLO.out, ⟨_, List.length_replicate, BW.keepN (Kp.byDraws _ _)⟩, (Kp.refl _ _).drewN nq⟩
  have HO' := Lib.hid HO
  obtain ⟨n, hn⟩ : ∃ n, n = 64 * m := ⟨_, rfl⟩
  rw [← hn] at hpl HO' ⊢
  have HN := Lib.hid hn
  clear hn HO BW c0 c1 c2 c3 c4 c5 c6 c7
  go_wp2
  go_loopw [5, 6, 7, 8, 9, 10, 11, 12, 1] (fun v0 v1 v2 v3 v4 v5 v6 v7 pv wr => ∃ (q n c : Nat) (H1 : List Int) (A1 : Option Addr), pv = .slice A1 n c ∧ v0 = .int .u32 (H1.getD 0 0) ∧ v1 = .int .u32 (H1.getD 1 0) ∧ v2 = .int .u32 (H1.getD 2 0) ∧ v3 = .int .u32 (H1.getD 3 0) ∧ v4 = .int .u32 (H1.getD 4 0) ∧ v5 = .int .u32 (H1.getD 5 0) ∧ v6 = .int .u32 (H1.getD 6 0) ∧ v7 = .int .u32 (H1.getD 7 0) ∧ n ≤ 9223372036854775807 ∧ Hid (OutR W1 w.heap.size K H l m q H1 A1 n c wr)) (fun _ _ _ _ _ _ _ _ pv _ => match pv with | .slice _ n _ => n | _ => 0)
  case atStart => exact ⟨0, n, c, H, A, rfl, rfl, rfl, rfl, rfl, rfl, rfl, rfl, rfl, by omega, HO'⟩
  case round =>
    obtain ⟨q, n, c, H1, A1, rfl, rfl, rfl, rfl, rfl, rfl, rfl, rfl, rfl, hnm, HO⟩ := hrel
    obtain ⟨h0, eh0⟩ : ∃ h, h = H1.getD 0 0 := ⟨_, rfl⟩
    rw [← eh0]
    have HE0 := Lib.hid (congrArg (Value.int .u32) eh0)
    have HW0 := Lib.hid eh0
    clear eh0
    obtain ⟨h1, eh1⟩ : ∃ h, h = H1.getD 1 0 := ⟨_, rfl⟩
    rw [← eh1]
    have HE1 := Lib.hid (congrArg (Value.int .u32) eh1)
    have HW1 := Lib.hid eh1
    clear eh1
    obtain ⟨h2, eh2⟩ : ∃ h, h = H1.getD 2 0 := ⟨_, rfl⟩
    rw [← eh2]
    have HE2 := Lib.hid (congrArg (Value.int .u32) eh2)
    have HW2 := Lib.hid eh2
    clear eh2
    obtain ⟨h3, eh3⟩ : ∃ h, h = H1.getD 3 0 := ⟨_, rfl⟩
    rw [← eh3]
    have HE3 := Lib.hid (congrArg (Value.int .u32) eh3)
    have HW3 := Lib.hid eh3
    clear eh3
    obtain ⟨h4, eh4⟩ : ∃ h, h = H1.getD 4 0 := ⟨_, rfl⟩
    rw [← eh4]
    have HE4 := Lib.hid (congrArg (Value.int .u32) eh4)
    have HW4 := Lib.hid eh4
    clear eh4
    obtain ⟨h5, eh5⟩ : ∃ h, h = H1.getD 5 0 := ⟨_, rfl⟩
    rw [← eh5]
    have HE5 := Lib.hid (congrArg (Value.int .u32) eh5)
    have HW5 := Lib.hid eh5
    clear eh5
    obtain ⟨h6, eh6⟩ : ∃ h, h = H1.getD 6 0 := ⟨_, rfl⟩
    rw [← eh6]
    have HE6 := Lib.hid (congrArg (Value.int .u32) eh6)
    have HW6 := Lib.hid eh6
    clear eh6
    obtain ⟨h7, eh7⟩ : ∃ h, h = H1.getD 7 0 := ⟨_, rfl⟩
    rw [← eh7]
    have HE7 := Lib.hid (congrArg (Value.int .u32) eh7)
    have HW7 := Lib.hid eh7
    clear eh7
    by_cases hqm : 64 ≤ n
    · have hR := HO.out.rd
      have hcap := hR.cap
      obtain ⟨gp, op, rfl, hc⟩ := hR.at_ (by omega)
      have HC := Lib.hid hc
      have HB := Lib.hid hR.byt
      obtain ⟨b, hb⟩ : ∃ b, b = (l.drop (64 * q)).take 64 := ⟨_, rfl⟩
      have hgp : gp < w.heap.size := HO.out.lo ⟨gp, op, none⟩ rfl
      have HBG := Lib.hid (fun k (hk : k < 64) => show b.getD k 0 = (l.drop (64 * q)).getD k 0 from by
        rw [hb, List.getD_eq_getElem?_getD, List.getElem?_take, if_pos hk, ← List.getD_eq_getElem?_getD])
      have HBB := Lib.hid hb
      clear hc hR hb
      obtain ⟨wo, rfl⟩ : ∃ x : World, x = wr := ⟨_, rfl⟩
      have HI0 : Hid (InR wo w.heap.size K H1 b 0 H1 wo) := Lib.hid (by
        obtain ⟨L, hL, hN⟩ := HO.out.w
        exact ⟨rfl, ⟨L, Words.zero hL, hN⟩, Kp.refl _ _⟩)
      have hKl : ∀ i : Nat, i < 64 → wo.cell? ⟨11, i, none⟩ = some (.int .u32 (K.getD i 0)) := fun i hi => HO.out.kp.cell (ka.cellN (HKY.out.at_ i hi)) (by
        show ¬ 11 = w.heap.size
        have := World.block_lt_of_cell? _ _ (HKY.out.at_ i hi)
        intro h; rw [← h] at this; exact absurd this (Nat.lt_irrefl _))
      have HKL := Lib.hid hKl
      have HCO := Lib.hid (fun (wx : World) (k : Kp (· = w.heap.size) wo wx) j (hj : j < n) => k.cell (HC.out j hj) (by show ¬ gp = w.heap.size; omega))
      have HKO := Lib.hid (fun (wx : World) (k : Kp (· = w.heap.size) wo wx) i (hi : i < 64) => k.cell (HKL.out i hi) (by
        show ¬ 11 = w.heap.size
        have := World.block_lt_of_cell? _ _ (HKY.out.at_ i hi)
        intro h; rw [← h] at this; exact absurd this (Nat.lt_irrefl _)))
      have HGP := Lib.hid hgp
      have hgw : w.heap.size < wo.heap.size := by obtain ⟨L, _, hN⟩ := HO.out.w; exact hN.lt
      clear hKl hgp
      generalize w.heap.size = gw at *
      go_wp2
      rw [show decide ((64 : Int) ≤ (n : Int)) = true from decide_eq_true (by omega)]
      refine inner_loop hqm hnm hcap hgw HE0 HE1 HE2 HE3 HE4 HE5 HE6 HE7 HI0 HB HBG HCO HKO ?_
      intro V wr HI u21 u22 u23 u24 u25 u26 u27 u28 u80 u81 u82 u83 u84 u85 u86 u87 u88 u89 u90 u91 u92 u93 u94 u95 u96 u97 u98 u99 u100 u101 u102 u103 u104 u105 u106 u107 u108 u109 u110 u111 u112 u113 u114 u115 u116 u117 u118 u119 u120 u121 u122 u123 u124 u125 u126 u127 u128 u129 u130 u131 u132 u133 u134 u135 u136 u137 u138 u139 u140 u141 u142 u143 u144 u145 u146 u147 u148 u149 u150 u151 u152 u153 u154 u155 u156 u157 u158 u159 u160 u161 u162 u163 u164 u165 u166 u167 u168 u169 u170 u171 u172 u173 u174 u175 u176 u177 u178 u179 u180 u181 u182 u183 u184 u185 u186 u187 u188 u189 u190 u191 u192 u193 u194 u195 u196 u197 u198 u199 u200 u201 u202 u203 u204 u205 u206 u207 u208 u209 u210 u211 u212 u213 u214 u215 u216
      have hV8 : V.length = 8 := by rw [HI.out.v]; exact irnds_length HO.out.h 64
      have hH8 := HO.out.h
      have HA := Lib.hid (fun (j : Nat) (hj : j < 8) => show (iblk K H1 b).getD j 0 = (H1.getD j 0 + V.getD j 0) % 4294967296 from by rw [HI.out.v]; exact addW_get hH8 (irnds_length hH8 64) hj)
      have hi64 : (64 : Int) ≤ (n : Int) := by omega
      have R1 : Rd wr (some ⟨gp, op, none⟩) n c (l.drop (64 * q)) := HO.out.rd.keep HI.out.kp (fun a e => by cases e; show ¬ gp = gw; have := HGP.out; omega)
      obtain ⟨A2, R2, ho2, hl2, hs2⟩ := R1.cutFrom Tryd.und_bytes Tryd.size_byte .i64 64 (by omega) (by omega)
      rw [show (64 : Int).toNat = 64 from rfl] at R2 hs2
      have HR2 := Lib.hid R2
      have HL2 := Lib.hid (hl2 gw HO.out.lo)
      clear R1 R2 ho2 hl2 hV8 hH8
      go_wp2
      go_roundw
      case rel =>
        have hgd : ∀ j : Nat, V[j]?.getD 0 = V.getD j 0 := fun j => (List.getD_eq_getElem?_getD).symm
        rw [hgd, hgd, hgd, hgd, hgd, hgd, hgd, hgd]
        refine ⟨q + 1, n - 64, c - 64, iblk K H1 b, A2, rfl, ?_, ?_, ?_, ?_, ?_, ?_, ?_, ?_, by omega, Lib.hid ⟨iblk_length b HO.out.h, ?_, ?_, ?_, HL2.out, ?_, HO.out.kp.trans HI.out.kp (fun _ _ h => h)⟩⟩
        · rw [HA.out 0 (by omega), ← HW0.out]
        · rw [HA.out 1 (by omega), ← HW1.out]
        · rw [HA.out 2 (by omega), ← HW2.out]
        · rw [HA.out 3 (by omega), ← HW3.out]
        · rw [HA.out 4 (by omega), ← HW4.out]
        · rw [HA.out 5 (by omega), ← HW5.out]
        · rw [HA.out 6 (by omega), ← HW6.out]
        · rw [HA.out 7 (by omega), ← HW7.out]
        · have h1 := HO.out.eq
          have h2 := HO.out.hn
          rw [← h1, show m - q = (m - (q + 1)) + 1 from by omega]
          show iblks K (iblk K H1 b) _ _ = iblks K (iblk K H1 ((l.drop (64 * q)).take 64)) ((l.drop (64 * q)).drop 64) (m - (q + 1))
          rw [List.drop_drop, ← HBB.out, show 64 * (q + 1) = 64 * q + 64 from by omega]
        · have h2 := HO.out.hn
          omega
        · have := HR2.out
          rw [List.drop_drop, show 64 * q + 64 = 64 * (q + 1) from by omega] at this
          exact this
        · obtain ⟨L, hL, hN⟩ := HI.out.w
          exact ⟨L, hL.1, hN⟩
      case measure => simp; omega
    · have hnn := HO.out.hn
      have hmq : m - q = 0 := by omega
      have hEQ := Lib.hid (show H1 = iblks K H l m from by have := HO.out.eq; rw [hmq] at this; exact this)
      have D1 := Blk.keep (hD.keepN ka) HO.out.kp (by show ¬ g = w.heap.size; omega)
      have KP := Lib.hid ((show Kp (· = g) w W1 from ka.mono (fun _ _ h => h.elim)).trans HO.out.kp (fun i hi h => absurd hi (by have h : i = w.heap.size := h; omega)))
      have hH8 := HO.out.h
      have s0 := CH.out wr H HHL.out D1 0 (by omega)
      have s1 := CH.out wr H HHL.out D1 1 (by omega)
      have s2 := CH.out wr H HHL.out D1 2 (by omega)
      have s3 := CH.out wr H HHL.out D1 3 (by omega)
      have s4 := CH.out wr H HHL.out D1 4 (by omega)
      have s5 := CH.out wr H HHL.out D1 5 (by omega)
      have s6 := CH.out wr H HHL.out D1 6 (by omega)
      have s7 := CH.out wr H HHL.out D1 7 (by omega)
      generalize H.getD 0 0 = z0 at *
      generalize H.getD 1 0 = z1 at *
      generalize H.getD 2 0 = z2 at *
      generalize H.getD 3 0 = z3 at *
      generalize H.getD 4 0 = z4 at *
      generalize H.getD 5 0 = z5 at *
      generalize H.getD 6 0 = z6 at *
      generalize H.getD 7 0 = z7 at *
      have f0 := D1.free 0
      have f1 := D1.free 1
      have f2 := D1.free 2
      have f3 := D1.free 3
      have f4 := D1.free 4
      have f5 := D1.free 5
      have f6 := D1.free 6
      have f7 := D1.free 7
      have HX := Lib.hid (set8 HHL.out ⟨D1, KP.out⟩ h0 h1 h2 h3 h4 h5 h6 h7)
      have HH := Lib.hid (show [h0, h1, h2, h3, h4, h5, h6, h7] = H1 from by rw [HW0.out, HW1.out, HW2.out, HW3.out, HW4.out, HW5.out, HW6.out, HW7.out]; exact (list8 hH8).symm)
      clear hD D1 hH8 hmq hnn CH HE0 HE1 HE2 HE3 HE4 HE5 HE6 HE7 HW0 HW1 HW2 HW3 HW4 HW5 HW6 HW7 HO HO' HKY HRP HLO ka
      go_upto_region 35 with (fail)
      generalize wr = W9 at *
      go_region
      go_end0
      have hx := HX.out
      rw [HH.out, hEQ.out] at hx
      exact ⟨rfl, hx.blk.drew, hx.kp.drew⟩
end Go.Proofs.YthdbchahmbcfeaaDoor
