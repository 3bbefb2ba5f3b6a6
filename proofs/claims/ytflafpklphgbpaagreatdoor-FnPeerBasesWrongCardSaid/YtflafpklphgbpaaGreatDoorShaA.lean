/- SHA2-256 of the reference: rows of words, its keys. -/
import Derived.Test.YtflafpklphgbpaaGreatDoorQTail
import Derived.Test.YtflafpklphgbpaaGreatDoorShaP
import Derived.Test.YtflafpklphgbpaaGreatDoorPlA
import Derived.Deep.Cut
import Derived.Deep.CutRange
import Derived.Deep.CutBlock
import Derived.Deep.MidRow
namespace Go.Proofs.YtflafpklphgbpaaGreatDoor
open Go Go.RowKit
set_option linter.unusedVariables false
set_option linter.unusedSimpArgs false
set_option maxRecDepth 100000

theorem shaTurn_calls {w : World} (x n : Int) (h0 : 0 ≤ n) (h1 : n ≤ 32) :
    Calls Tryz.prog 30 #[.int .u32 x, .int .i64 n] w fun e w' => e = .returned (.int .u32 (turn x n)) ∧ ∃ m, w' = w.drewN m := by
  go_enter Tryz.func30, Tryz.ntmps30
  go_wp2
  go_quiet (fail)
  go_wp2
  go_ret
  exact ⟨rfl, nq, rfl⟩

theorem quiet_add {P : Program} {f : FuncId} {args : Array Value} {w : World} {q n : Nat} {v : Value}
    (h : Calls P f args (w.drewN (q + n)) fun e w' => e = .returned v ∧ ∃ m, w' = (w.drewN (q + n)).drewN m) : Calls P f args (w.drewN (q + n)) fun e w'' => e = .returned v ∧ ∃ m, w'' = w.drewN (q + m) :=
  h.mono fun _ _ ⟨he, m, hm⟩ => ⟨he, n + m, by rw [hm, World.drewN_drewN, Nat.add_assoc]⟩

theorem quiet_add2 {P : Program} {f : FuncId} {args : Array Value} {w : World} {q r n : Nat} {v : Value}
    (h : Calls P f args (w.drewN (q + (r + n))) fun e w' => e = .returned v ∧ ∃ m, w' = (w.drewN (q + (r + n))).drewN m) : Calls P f args (w.drewN (q + (r + n))) fun e w'' => e = .returned v ∧ ∃ m, w'' = w.drewN (q + (r + m)) :=
  h.mono fun _ _ ⟨he, m, hm⟩ => ⟨he, n + m, by rw [hm, World.drewN_drewN, Nat.add_assoc, Nat.add_assoc]⟩

/-- A row of words. -/
def Wd (w : World) (g : Nat) (t : TypeId) (L : List Int) : Prop := Blk w g (nums .u32 L).toArray t
theorem Wd.cell {w : World} {g : Nat} {t : TypeId} {L : List Int} (h : Wd w g t L) (i : Nat) (hi : i < L.length) : w.cell? ⟨g, i, none⟩ = some (.int .u32 (L.getD i 0)) := by
  rw [Blk.cell h i]; simp [nums, List.getD_eq_getElem?_getD, List.getElem?_eq_getElem hi]
theorem Wd.free {w : World} {g : Nat} {t : TypeId} {L : List Int} (h : Wd w g t L) (i : Nat) : w.frozen? ⟨g, i, none⟩ = false := Blk.free h i
theorem Wd.set {w : World} {g : Nat} {t : TypeId} {L : List Int} (h : Wd w g t L) (i : Nat) (v : Int) : Wd (w.setCell ⟨g, i, none⟩ (.int .u32 v)) g t (L.set i v) := by
  have := Blk.set h i (.int .u32 v)
  unfold Wd
  rw [show (nums .u32 (L.set i v)).toArray = (nums .u32 L).toArray.setIfInBounds i (.int .u32 v) from by apply Array.toList_inj.1; simp [nums, List.map_set]]
  exact this
theorem Wd.setTo {w : World} {g : Nat} {t : TypeId} {L M : List Int} (h : Wd w g t L) (i : Nat) {v u : Int} (e : v = u) (hM : L.set i u = M) : Wd (w.setCell ⟨g, i, none⟩ (.int .u32 v)) g t M := by
  subst e; subst hM; exact h.set i v
theorem Wd.keep {S : Nat → Prop} {w w' : World} {g : Nat} {t : TypeId} {L : List Int} (h : Wd w g t L) (k : Kp S w w') (hn : ¬ S g) : Wd w' g t L := Blk.keep h k hn
theorem Wd.keepN {w w' : World} {g : Nat} {t : TypeId} {L : List Int} (h : Wd w g t L) (k : Kp no w w') : Wd w' g t L := Blk.keepN h k

theorem Wd.far {w : World} {g : Nat} {t : TypeId} {L : List Int} (h : Wd w g t L) {p : Addr} (hp : g ≠ p.block) (u : Value) : Wd (w.setCell p u) g t L := Blk.far h hp u
theorem Kp.byDraws (w : World) (n : Nat) : Kp no w (w.drewN n) := (Kp.refl _ _).drewN n

/-! ### Rows stored whole -/
theorem Kp.setCells {S : Nat → Prop} {a : World} {g : Nat} (hp : g < a.heap.size → S g) : ∀ (vs : List Value) (o : Nat) {w : World}, Kp S a w → Kp S a (w.setCells g o vs)
  | [], _, _, h => h
  | v :: r, o, w, h => Kp.setCells hp r (o + 1) (h.setCell (p := ⟨g, o, none⟩) hp v)
theorem Blk.storeAt {g : Nat} {t : TypeId} : ∀ (vs p q : List Value) {w : World}, q.length = vs.length → Blk w g (p ++ q).toArray t → Blk (w.setCells g p.length vs) g (p ++ vs).toArray t
  | [], p, q, w, hq, h => by
    obtain rfl : q = [] := List.eq_nil_of_length_eq_zero hq
    exact h
  | v :: r, p, q, w, hq, h => by
    cases q with
    | nil => cases hq
    | cons x q =>
      have h1 := h.set p.length v
      rw [show (p ++ x :: q).toArray.setIfInBounds p.length v = ((p ++ [v]) ++ q).toArray from by apply Array.toList_inj.1; simp] at h1
      have h2 := Blk.storeAt r (p ++ [v]) q (by simpa using hq) h1
      rw [show (p ++ [v]).length = p.length + 1 from by simp, List.append_assoc] at h2
      exact h2
theorem Blk.store {w : World} {g : Nat} {t : TypeId} {cs : Array Value} (h : Blk w g cs t) (vs : List Value) (hl : cs.size = vs.length) : Blk (w.setCells g 0 vs) g vs.toArray t := by
  have := Blk.storeAt (w := w) (g := g) (t := t) vs [] cs.toList (by simpa using hl) (by simpa using h)
  simpa using this
theorem Blk.farAll {g b : Nat} {t : TypeId} {cs : Array Value} (hb : g ≠ b) : ∀ (vs : List Value) (o : Nat) {w : World}, Blk w g cs t → Blk (w.setCells b o vs) g cs t
  | [], _, _, h => h
  | v :: r, o, w, h => Blk.farAll hb r (o + 1) (h.far (p := ⟨b, o, none⟩) hb v)
theorem Blk.there {w : World} {g : Nat} {t : TypeId} {cs : Array Value} (h : Blk w g cs t) (n : Nat) (hn : n ≤ cs.size) : w.there g 0 n := fun j hj => by
  rw [Nat.zero_add]
  exact ⟨by rw [h.cell j, Array.getElem?_eq_getElem (by omega)]; rfl, h.free j⟩
theorem Blk.range {w : World} {g : Nat} {t : TypeId} {vs : List Value} (h : Blk w g vs.toArray t) : w.rangeAt g 0 vs := fun j v hv => by
  rw [Nat.zero_add, h.cell j]; simpa using hv
theorem size_setCells (g : Nat) : ∀ (vs : List Value) (o : Nat) (w : World), (w.setCells g o vs).heap.size = w.heap.size
  | [], _, _ => rfl
  | v :: r, o, w => by rw [World.setCells, size_setCells g r]; simp [World.setCell]
/-- A row is stored whole, the world behind it a letter. -/
theorem wpList_store_row {P : Program} {ops : Array Oper} {rest : List Oper} {op : Oper} {a : Act} {w : World} {Q : Exit → Act → World → Prop} (hgd : op.guard = none) (ty : TypeId) (x y : Operand) (ho : op.op = .store ty x y)
    (g : Nat) (cells : List Value) (hx : a.eval x = .pointer (some ⟨g, 0, none⟩)) (hy : a.eval y = .agg cells.toArray) {cs : Array Value} {t : TypeId} (hb : Blk w g cs t) (hsz : cs.size = cells.length)
    (hi : (P.info? ty).map (·.size) = some cells.length) (h1 : cells.toArray.all (·.oneCell') = true)
    (h : ∀ w', Blk w' g cells.toArray t → Kp (· = g) w w' → w'.heap.size = w.heap.size → wpList P ops Q rest (a.put op.dst undef) w') : wpList P ops Q (op :: rest) a w :=
  wpList_store_mid hgd ty x y ho g 0 cells.toArray hx hy (by simpa using hb.there cells.length (by omega)) (by simpa using hi) h1
    (by simpa using h _ (by simpa using hb.store cells hsz) (Kp.setCells (S := (· = g)) (fun _ => rfl) _ _ (Kp.refl _ _)) (size_setCells _ _ _ _))
/-- .. and it fits at that store alone. -/
theorem wpList_store_at {P : Program} {ops : Array Oper} {rest : List Oper} {a : Act} {w : World} {Q : Exit → Act → World → Prop} {d : Option Tmp} {ty0 : TypeId} {ps : String} {af : Array Edge} (ty : TypeId) (x y : Operand)
    (g : Nat) (cells : List Value) (hx : a.eval x = .pointer (some ⟨g, 0, none⟩)) (hy : a.eval y = .agg cells.toArray) {cs : Array Value} {t : TypeId} (hb : Blk w g cs t) (hsz : cs.size = cells.length)
    (hi : (P.info? ty).map (·.size) = some cells.length) (h1 : cells.toArray.all (·.oneCell') = true)
    (h : ∀ w', Blk w' g cells.toArray t → Kp (· = g) w w' → w'.heap.size = w.heap.size → wpList P ops Q rest (a.put d undef) w') :
    wpList P ops Q ({ dst := d, op := .store ty x y, type := ty0, pos := ps, after := af, guard := none } :: rest) a w :=
  wpList_store_row rfl ty x y rfl g cells hx hy hb hsz hi h1 h
theorem Blk.undraw {w : World} {n g : Nat} {cs : Array Value} {t : TypeId} (h : Blk w g cs t) : Blk (w.drewN n) g cs t := h
theorem nums_one (k : IntKind) (L : List Int) : (nums k L).toArray.all (·.oneCell') = true := all_oneCell_toArray fun v hv => by
  obtain ⟨x, _, rfl⟩ := List.mem_map.1 hv
  rfl
theorem infoW8 : (Tryz.prog.info? 47).map (·.size) = some 8 := by kernel_rfl
theorem infoW64 : (Tryz.prog.info? 64).map (·.size) = some 64 := by kernel_rfl
theorem infoB32 : (Tryz.prog.info? 22).map (·.size) = some 32 := by kernel_rfl
theorem results_cellrow_tmp0 {P : Program} {fn : Func} {p : Tmp} {ty : TypeId} (h : fn.results = #[.cell p ty]) (tmps : Array Value) (w : World) (g : Nat) (t : TypeId) (cs : Array Value) (d : TypeDesc)
    (hp : tmps.getD p undef = .pointer (some ⟨g, 0, none⟩)) (hg : Blk w g cs t)
    (hu : P.underlying ty = some d) (hd : (match d with | .struct _ | .array _ _ => true | _ => false) = true) (hi : (P.info? ty).map (·.size) = some cs.size) :
    (results fn tmps).run P w = .ok (.agg cs) w := by
  have hp' : tmps[p]?.getD undef = .pointer (some ⟨g, 0, none⟩) := by simpa using hp
  have hg' : w.heap[g]? = some (.cells cs t (0, 0)) := hg
  simp only [results, h]
  simp [Sem.run_bind, Result.andThen, hp', asAddr, run_loadVar_row w g t ty cs (0, 0) d hg' hu hd hi]

set_option maxHeartbeats 4000000 in
theorem shaKeys_calls {w : World} :
    Calls Tryz.prog 31 #[] w fun e w' => e = .returned (.agg (nums .u32 shaK).toArray) ∧ Kp no w w' := by
  have B0 := Blk.new w (nums .u32 (List.replicate 64 0)).toArray 64
  have B1 := B0.store (nums .u32 shaK) (by decide)
  have k1 : Kp no w ((w.alloc (.cells (nums .u32 (List.replicate 64 0)).toArray 64)).setCells w.heap.size 0 (nums .u32 shaK)) := Kp.setCells (fun h => by omega) _ _ ((Kp.refl _ _).alloc _)
  go_enter Tryz.func31, Tryz.ntmps31
  go_wp2_with (refine wpList_store_mid rfl 64 (.tmp 0) (.tmp 1) rfl w.heap.size 0 (nums .u32 shaK).toArray rfl rfl (B0.there 64 (by decide)) infoW64 (nums_one _ _) ?_)
  (try simp only [Exit.inBlock, Exit.then]); refine bodyPost_ret (results_cellrow_tmp0 rfl _ _ w.heap.size 64 (nums .u32 shaK).toArray _ rfl B1 Tryz.underlying64 rfl infoW64) rfl ?_
  exact ⟨rfl, k1⟩
end Go.Proofs.YtflafpklphgbpaaGreatDoor
