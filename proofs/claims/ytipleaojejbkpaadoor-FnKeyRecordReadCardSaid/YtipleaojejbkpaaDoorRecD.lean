/- A record's value; what it tells; rows of bytes that are made. -/
import Derived.Test.YtipleaojejbkpaaDoorRecC
import Derived.Test.YtipleaojejbkpaaDoorEnvC
import Derived.Test.YtipleaojejbkpaaDoorConcat
import Derived.Deep.RegionLaw
namespace Go.Proofs.YtipleaojejbkpaaDoor
open Go Go.RowKit
set_option linter.unusedVariables false
set_option linter.unusedSimpArgs false
set_option maxRecDepth 100000

theorem Tryd.info_bytes : (Tryd.prog.info? 24).map (fun i => (i.zero, i.size, i.bytes)) = some (some (.slice none 0 0), 1, 24) := by kernel_rfl
theorem infoRD : (Tryd.prog.info? 47).map (·.size) = some 3 := by kernel_rfl

/-- A record's data, as a value. -/
structure RV where
  A : Option Addr
  c : Nat
  d : List Int
  seq : Int
  B : Option Addr
  e : Nat
  L : List (List Int)
@[reducible] def RV.cells (x : RV) : Array Value := #[.slice x.A x.d.length x.c, .int .u64 x.seq, .slice x.B x.L.length x.e]
structure RV.At (w : World) (x : RV) : Prop where
  r : Rd w x.A x.d.length x.c x.d
  s : RdS w x.B x.L.length x.e x.L
theorem RV.At.keepN {w w' : World} {x : RV} (h : x.At w) (k : Kp no w w') : x.At w' := ⟨h.r.keepN k, h.s.keepN k⟩
def RV.zero : RV := ⟨none, 0, [], 0, none, 0, []⟩
theorem RV.zero_at (w : World) : RV.zero.At w := ⟨Rd.nil _, RdS.nil _ _ _ (by decide)⟩
/-- The value tells what the message says. -/
structure RTold (s : RS) (x : RV) : Prop where
  p : x.d = s.peer
  q : x.seq = s.seq
  a : x.L = s.addrs
def RRes (l : List Int) (x : RV) (ok : Bool) : Prop := match whole rstep l RS.zero with
  | .ok s => ok = true ∧ RTold s x
  | .bad => ok = false
  | .opn => True
def ROf (w : World) (l : List Int) (e : Ending) (w' : World) : Prop :=
  Kp no w w' ∧ ∃ (x : RV) (ok : Bool), e = .returned (.tuple #[.agg x.cells, .bool ok]) ∧ x.At w' ∧ x.d.length ≤ 1099511627776 ∧ x.L.length ≤ l.length ∧ RRes l x ok
theorem RRes.ofBad {l : List Int} {st : RS} {e : Ending} (h : FinG (whole rstep l RS.zero) st e) (he : Bad e) (x : RV) : RRes l x false := by
  unfold RRes
  generalize whole rstep l RS.zero = r at h ⊢
  cases r with
  | ok s => exact (bad_not_nil he h.1).elim
  | bad => rfl
  | opn => trivial
theorem RRes.ofOk {l : List Int} {st : RS} {x : RV} (h : FinG (whole rstep l RS.zero) st (.returned .nilIface)) (ht : RTold st x) : RRes l x true := by
  unfold RRes
  generalize whole rstep l RS.zero = r at h ⊢
  cases r with
  | ok s => obtain ⟨_, rfl⟩ := h; exact ⟨rfl, ht⟩
  | bad => exact (bad_not_nil h rfl).elim
  | opn => trivial

/-- A row of bytes that are made, one by one. -/
def SsAt (w : World) (S : Nat → Prop) : List Value → List (List Int) → Prop
  | [], [] => True
  | u :: us, l :: ls => SlAt w S u l ∧ SsAt w S us ls
  | _, _ => False
theorem SsAt.keep {w w' : World} {S R : Nat → Prop} (k : Kp R w w') (hr : ∀ i, R i → i < w.heap.size → S i) : ∀ {us : List Value} {ls : List (List Int)}, SsAt w S us ls → SsAt w' S us ls
  | [], [], _ => trivial
  | _ :: _, _ :: _, h => ⟨h.1.keep k hr, SsAt.keep k hr h.2⟩
  | [], _ :: _, h => h.elim
  | _ :: _, [], h => h.elim
theorem SsAt.mono {w : World} {S S' : Nat → Prop} (hr : ∀ i, i < w.heap.size → S' i → S i) : ∀ {us : List Value} {ls : List (List Int)}, SsAt w S us ls → SsAt w S' us ls
  | [], [], _ => trivial
  | _ :: _, _ :: _, h => ⟨h.1.mono hr, SsAt.mono hr h.2⟩
  | [], _ :: _, h => h.elim
  | _ :: _, [], h => h.elim
theorem SsAt.snoc {w : World} {S : Nat → Prop} {u : Value} {l : List Int} (hu : SlAt w S u l) : ∀ {us : List Value} {ls : List (List Int)}, SsAt w S us ls → SsAt w S (us ++ [u]) (ls ++ [l])
  | [], [], _ => ⟨hu, trivial⟩
  | _ :: _, _ :: _, h => ⟨h.1, SsAt.snoc hu h.2⟩
  | [], _ :: _, h => h.elim
  | _ :: _, [], h => h.elim
theorem SsAt.len {w : World} {S : Nat → Prop} : ∀ {us : List Value} {ls : List (List Int)}, SsAt w S us ls → us.length = ls.length
  | [], [], _ => rfl
  | _ :: _, _ :: _, h => congrArg (· + 1) (SsAt.len h.2)
  | [], _ :: _, h => h.elim
  | _ :: _, [], h => h.elim
theorem SsAt.get {w : World} {S : Nat → Prop} : ∀ {us : List Value} {ls : List (List Int)}, SsAt w S us ls → ∀ j (hj : j < us.length), SlAt w S us[j] (ls.getD j [])
  | [], [], _ => fun j hj => absurd hj (by simp)
  | _ :: _, _ :: _, h => fun j hj => by
    cases j with
    | zero => exact h.1
    | succ j => exact SsAt.get h.2 j (by simpa using hj)
  | [], _ :: _, h => h.elim
  | _ :: _, [], h => h.elim
theorem SsAt.rds {w : World} {S : Nat → Prop} {B : Nat} {T : TypeId} {v : Value} {us : List Value} {L : List (List Int)} (h : SsAt w S us L) (hV : VOwn w T B v us) : ∃ A c, v = .slice A L.length c ∧ RdS w A L.length c L := by
  obtain ⟨A, c, hv, h1, h2, h3⟩ := hV.form
  have hl := h.len
  refine ⟨A, c, by rw [← hl]; exact hv, rfl, by omega, h2, fun hp => ?_⟩
  obtain ⟨g, rfl, hc⟩ := h3 (by omega)
  refine ⟨g, 0, rfl, fun j hj => ?_⟩
  obtain ⟨A', c', h4, h5, _⟩ := h.get j (by omega)
  exact ⟨A', c', by rw [Nat.zero_add, hc j (by omega), h4], h5⟩
/-- The two blocks, and the row. -/
def So (g r : Nat) (v : Value) (i : Nat) : Prop := i = g ∨ i = r ∨ v.ownBlock = some i
/-- One more: its bytes are new since 'w'; the row went on from 'W'. -/
theorem SsAt.more {w W w1 w2 : World} {g r : Nat} {v v1 u : Value} {us : List Value} {L : List (List Int)} {a : List Int} (h : SsAt w (So g r v) us L) (k : Kp no w W)
    (hsl : SlAt W no u a) (hf : Fresh w.heap.size u) (hg : g < w.heap.size) (hr : r < w.heap.size) (hbase : ∀ i, v.ownBlock = some i → i < w.heap.size)
    (k1 : Kp (Of v) W w1) (hw : Went W v v1) (k2 : Kp (· = g) w1 w2) : SsAt w2 (So g r v1) (us ++ [u]) (L ++ [a]) := by
  have hs := k.size
  have hm : ∀ i, i < W.heap.size → (So g r v i ∨ So g r v1 i) → So g r v i := by
    intro i hi h
    rcases h with h | h | h | h
    · exact h
    · exact .inl h
    · exact .inr (.inl h)
    · refine .inr (.inr ?_)
      rcases hw with hw | ⟨b, hw, hbb⟩
      · rw [← hw]; exact h
      · rw [hw] at h; injection h with h; omega
  have hkr : ∀ i, Of v i → i < W.heap.size → (So g r v i ∨ So g r v1 i) := fun i hi _ => .inl (.inr (.inr hi))
  have hsub : ∀ i, i < w1.heap.size → So g r v1 i → (So g r v i ∨ So g r v1 i) := fun i _ h => .inr h
  have hgk : ∀ i, i = g → i < w1.heap.size → So g r v1 i := fun i hi _ => .inl hi
  have hnew : ∀ i, w.heap.size ≤ i → i < W.heap.size → ¬ (So g r v i ∨ So g r v1 i) := by
    intro i hi hi2 h
    rcases hm i hi2 h with h | h | h
    · omega
    · omega
    · have := hbase i h; omega
  refine SsAt.snoc ?_ (((((h.keep k (fun _ h _ => h.elim)).mono hm).keep k1 hkr).mono hsub).keep k2 hgk)
  have hp : SlAt W (fun i => So g r v i ∨ So g r v1 i) u a := by
    obtain ⟨A, c, rfl, hR, hO, hL, hn⟩ := hsl
    exact ⟨A, c, rfl, hR, fun x hx => hnew _ (hf x _ _ (by rw [hx])) (hL x hx), hL, hn⟩
  exact ((hp.keep k1 hkr).mono hsub).keep k2 hgk
theorem SlAt.went {w W w1 w2 : World} {g r : Nat} {v v1 u : Value} {a : List Int} (h : SlAt w (So g r v) u a) (k : Kp no w W) (k1 : Kp (Of v) W w1) (hw : Went W v v1) (k2 : Kp (· = g) w1 w2) : SlAt w2 (So g r v1) u a := by
  have hm : ∀ i, i < W.heap.size → (So g r v i ∨ So g r v1 i) → So g r v i := by
    intro i hi h
    rcases h with h | h | h | h
    · exact h
    · exact .inl h
    · exact .inr (.inl h)
    · refine .inr (.inr ?_)
      rcases hw with hw | ⟨b, hw, hbb⟩
      · rw [← hw]; exact h
      · rw [hw] at h; injection h with h; omega
  exact ((((h.keepN k).mono hm).keep k1 (fun i hi _ => .inl (.inr (.inr hi)))).mono (fun i _ h => .inr h)).keep k2 (fun i hi _ => .inl hi)
/-- Bytes that were made, as an element. -/
theorem MadeAt.sl {w w' : World} {A : Option Addr} {c : Nat} {l : List Int} (h : MadeAt w w' A c l) (hn : l.length ≤ 1099511627776) : SlAt w' no (.slice A l.length c) l := ⟨A, c, rfl, h.rd, fun _ _ h => h.elim, h.lo, hn⟩
theorem MadeAt.fresh {w w' : World} {A : Option Addr} {c : Nat} {l : List Int} (h : MadeAt w w' A c l) : Fresh w.heap.size (.slice A l.length c) := fun a n c' he => by
  injection he with he
  exact (h.own.base a.block (by rw [he]; rfl)).1

theorem kp3 {g : Nat} {w3 w : World} (h : Kp (· = g) w3 w) (v0 v1 v2 : Value) : Kp (· = g) w3 (((w.setCell ⟨g, 0, none⟩ v0).setCell ⟨g, 1, none⟩ v1).setCell ⟨g, 2, none⟩ v2) :=
  ((h.setCell (p := ⟨g, 0, none⟩) (fun _ => rfl) _).setCell (p := ⟨g, 1, none⟩) (fun _ => rfl) _).setCell (p := ⟨g, 2, none⟩) (fun _ => rfl) _
theorem kp3n {S : Nat → Prop} {w3 w : World} (h : Kp S w3 w) {g : Nat} (hg : w3.heap.size ≤ g) (v0 v1 v2 : Value) : Kp S w3 (((w.setCell ⟨g, 0, none⟩ v0).setCell ⟨g, 1, none⟩ v1).setCell ⟨g, 2, none⟩ v2) :=
  ((h.setCell (p := ⟨g, 0, none⟩) (fun q => by have q : g < w3.heap.size := q; omega) _).setCell (p := ⟨g, 1, none⟩) (fun q => by have q : g < w3.heap.size := q; omega) _).setCell (p := ⟨g, 2, none⟩) (fun q => by have q : g < w3.heap.size := q; omega) _
/-- What stands behind the copy of the ID. -/
structure RCut (w3 : World) (d : List Int) (q : Int) (e : Value) (wx : World) (gE : Nat) (A4 : Option Addr) (c4 : Nat) : Prop where
  e : e = .pointer (some ⟨gE, 0, none⟩)
  ge : w3.heap.size ≤ gE
  blk : Blk wx gE #[.slice A4 d.length c4, .int .u64 q, .slice none 0 0] 47
  kp : Kp no w3 wx
  r4 : Rd wx A4 d.length c4 d
  o4 : Out (fun i => i < w3.heap.size ∨ i = gE) A4
  l4 : Lo wx.heap.size A4
theorem RCut.late {w3 w6 : World} {d : List Int} {q : Int} {A4 : Option Addr} {c4 : Nat} (k6 : Kp no w3 w6) (R4 : Rd w6 A4 d.length c4 d) (n4 : ∀ a, A4 = some a → w3.heap.size ≤ a.block ∧ a.block < w6.heap.size) :
    ∃ gE A4' c4', RCut w3 d q (.pointer (some ⟨w6.heap.size, 0, none⟩)) (w6.alloc (.cells #[.slice A4 d.length c4, .int .u64 q, .slice none 0 0] 47)) gE A4' c4' := by
  have kE : Kp no w6 (w6.alloc (.cells #[.slice A4 d.length c4, .int .u64 q, .slice none 0 0] 47)) := (Kp.refl _ _).alloc _
  refine ⟨w6.heap.size, A4, c4, rfl, k6.size, Blk.new _ _ _, k6.then kE, R4.keepN kE, ?_, ?_⟩
  · intro a ha hq; have := n4 a ha; have hq : a.block < w3.heap.size ∨ a.block = w6.heap.size := hq; omega
  · intro a ha; have := n4 a ha; have := kE.size; omega
theorem RCut.early {w3 w6 : World} {d : List Int} {q : Int} {G : Nat} {A4 : Option Addr} {c4 : Nat} (hG : w3.heap.size ≤ G) (bz6 : Blk w6 G #[.slice none 0 0, .int .u64 0, .slice none 0 0] 47) (k6 : Kp no w3 w6) (R4 : Rd w6 A4 d.length c4 d)
    (n4 : ∀ a, A4 = some a → w3.heap.size ≤ a.block ∧ a.block ≠ G ∧ a.block < w6.heap.size) :
    ∃ gE A4' c4', RCut w3 d q (.pointer (some ⟨G, 0, none⟩)) (((w6.setCell ⟨G, 0, none⟩ (.slice A4 d.length c4)).setCell ⟨G, 1, none⟩ (.int .u64 q)).setCell ⟨G, 2, none⟩ (.slice none 0 0)) gE A4' c4' := by
  have kE := kp3 (Kp.refl (· = G) w6) (.slice A4 d.length c4) (.int .u64 q) (.slice none 0 0)
  refine ⟨G, A4, c4, rfl, hG, (((bz6.set 0 (.slice A4 d.length c4)).set 1 (.int .u64 q)).set 2 (.slice none 0 0)), k6.trans kE (fun i hi h => by omega), R4.keep kE (fun a ha h => (n4 a ha).2.1 h), ?_, ?_⟩
  · intro a ha hq; have := n4 a ha; have hq : a.block < w3.heap.size ∨ a.block = G := hq; omega
  · intro a ha; have := n4 a ha; have := kE.size; omega
section
variable {P : Program} {ops : Array Oper} {o : Oper} {a : Act} {K : Act → World → Prop} {Q : Exit → Act → World → Prop} {E : Prop}
/-- 'append(v, u)' as a step of a region that draws. -/
theorem step_one_append {W : World} (B : Nat) (hgd : o.guard = none) (s x : Operand) (t e : TypeId)
    (ho : o.op = .call { callee := .builtin .append, args := #[s, x], argTypes := #[t, t] })
    (ht : P.underlying t = some (.slice e)) (z : Value) (by_ : Nat) (hinfo : (P.info? e).map (fun i => (i.zero, i.size, i.bytes)) = some (some z, 1, by_)) (hz : z.cells.size = 1) (hby : by_ ≤ 24)
    (v : Value) (us : List Value) (u : Value) (b0 : Nat) (hs : a.eval s = v) (hx : a.eval x = .slice (some ⟨b0, 0, none⟩) 1 1) (hc : W.cell? ⟨b0, 0, none⟩ = some u) (h1 : u.oneCell' = true)
    (HO : VOwn W e B v us) (hB : B ≤ W.heap.size) (hl : us.length ≤ 1099511627776)
    (h : ∀ A1 c1 w1, VOwn w1 e B (.slice A1 (us.length + 1) c1) (us ++ [u]) → Kp (Of v) W w1 → Went W v (.slice A1 (us.length + 1) c1) → K (a.put o.dst (.slice A1 (us.length + 1) c1)) w1) :
    if Region.wanted o (yielded ops a.tmps) = true then Oper.wp P o a W K Q else E := by
  have hw : Region.wanted o (yielded ops a.tmps) = true := by simp [Region.wanted, hgd]
  rw [if_pos hw]
  obtain ⟨i0, hi, hzz⟩ := Option.map_eq_some_iff.1 hinfo
  simp only [Prod.mk.injEq] at hzz
  obtain ⟨hz0, hz1, hz2⟩ := hzz
  have hcells : ∀ j u', [u][j]? = some u' → W.cell? ((⟨b0, 0, none⟩ : Addr).add j) = some u' := by
    intro j u' hu
    cases j with
    | zero =>
      have ha : (⟨b0, 0, none⟩ : Addr).add 0 = ⟨b0, 0, none⟩ := by unfold Addr.add; split <;> simp_all
      rw [ha, hc]; simpa using hu
    | succ j => simp at hu
  obtain ⟨v1, w1, hr, h2, h3, h4, h5⟩ := run_append_own_at (P := P) W B t o.type e i0 z 1 by_ ht hi hz0 hz1 hz2 hz (by omega) v us.length us HO.row ⟨b0, 0, none⟩ 1 1 [u] rfl hcells
    (by intro u' hu; simp only [List.mem_cons, List.not_mem_nil, or_false] at hu; rw [hu]; exact h1) (by simp only [maxLen]; omega)
    (Nat.le_trans (Nat.mul_le_mul_left _ hby) (by omega)) hB
  unfold Oper.wp execOp
  simp only [ho, resolve, invoke, builtin, Sem.run_bind, Sem.run_pure, Result.andThen_ok, List.map_toArray, List.map_cons, List.map_nil, hs, hx, hr]
  obtain ⟨A1, c1, rfl⟩ : ∃ A1 c1, v1 = .slice A1 (us.length + 1) c1 := by
    rcases h2.2 with ⟨rfl, h0⟩ | ⟨g, cap, cur, rfl, _⟩
    · omega
    · exact ⟨_, _, rfl⟩
  exact h A1 c1 w1 ⟨by simpa using h2⟩ ((Kp.refl _ _).grown h3 fun k hk _ => hk) (h5.imp_right fun h => ⟨_, h, Nat.le_refl _⟩)
end
theorem take_next (L : List (List Int)) (k : Nat) (hk : k < L.length) : L.take (k + 1) = L.take k ++ [L.getD k []] := by
  rw [List.take_succ_eq_append_getElem hk]
  simp [List.getD_eq_getElem?_getD, List.getElem?_eq_getElem hk]
end Go.Proofs.YtipleaojejbkpaaDoor
