/- A record's value; what it tells; rows of bytes that are made. RecordOf walked. -/
import Derived.Test.YtipleaojejbkpaaDoorRcA
import Derived.Test.YtipleaojejbkpaaDoorEnvC
import Derived.Test.YtipleaojejbkpaaDoorConcat
import Derived.Deep.RegionLaw
namespace Go.Proofs.YtipleaojejbkpaaDoor
open Go Go.RowKit
set_option linter.unusedVariables false
set_option linter.unusedSimpArgs false
set_option maxRecDepth 100000

theorem Tryd.info_bytes : (Tryd.prog.info? 24).map (fun i => (i.zero, i.size, i.bytes)) = some (some (.slice none 0 0), 1, 24) := by kernel_rfl
theorem infoRD : (Tryd.prog.info? 47).map (·.size) = some 3 := by kernel_rfl

/-- A record's data, as a value. -/
structure RV where
  A : Option Addr
  c : Nat
  d : List Int
  seq : Int
  B : Option Addr
  e : Nat
  L : List (List Int)
@[reducible] def RV.cells (x : RV) : Array Value := #[.slice x.A x.d.length x.c, .int .u64 x.seq, .slice x.B x.L.length x.e]
structure RV.At (w : World) (x : RV) : Prop where
  r : Rd w x.A x.d.length x.c x.d
  s : RdS w x.B x.L.length x.e x.L
theorem RV.At.keepN {w w' : World} {x : RV} (h : x.At w) (k : Kp no w w') : x.At w' := ⟨h.r.keepN k, h.s.keepN k⟩
def RV.zero : RV := ⟨none, 0, [], 0, none, 0, []⟩
theorem RV.zero_at (w : World) : RV.zero.At w := ⟨Rd.nil _, RdS.nil _ _ _ (by decide)⟩
/-- The value tells what the message says. -/
structure RTold (s : RS) (x : RV) : Prop where
  p : x.d = s.peer
  q : x.seq = s.seq
  a : x.L = s.addrs
def RRes (l : List Int) (x : RV) (ok : Bool) : Prop := match whole rstep l RS.zero with
  | .ok s => ok = true ∧ RTold s x
  | .bad => ok = false
  | .opn => True
def ROf (w : World) (l : List Int) (e : Ending) (w' : World) : Prop :=
  Kp no w w' ∧ ∃ (x : RV) (ok : Bool), e = .returned (.tuple #[.agg x.cells, .bool ok]) ∧ x.At w' ∧ x.d.length ≤ 1099511627776 ∧ x.L.length ≤ l.length ∧ RRes l x ok
theorem RRes.ofBad {l : List Int} {st : RS} {e : Ending} (h : FinG (whole rstep l RS.zero) st e) (he : Bad e) (x : RV) : RRes l x false := by
  unfold RRes
  generalize whole rstep l RS.zero = r at h ⊢
  cases r with
  | ok s => exact (bad_not_nil he h.1).elim
  | bad => rfl
  | opn => trivial
theorem RRes.ofOk {l : List Int} {st : RS} {x : RV} (h : FinG (whole rstep l RS.zero) st (.returned .nilIface)) (ht : RTold st x) : RRes l x true := by
  unfold RRes
  generalize whole rstep l RS.zero = r at h ⊢
  cases r with
  | ok s => obtain ⟨_, rfl⟩ := h; exact ⟨rfl, ht⟩
  | bad => exact (bad_not_nil h rfl).elim
  | opn => trivial

/-- A row of bytes that are made, one by one. -/
def SsAt (w : World) (S : Nat → Prop) : List Value → List (List Int) → Prop
  | [], [] => True
  | u :: us, l :: ls => SlAt w S u l ∧ SsAt w S us ls
  | _, _ => False
theorem SsAt.keep {w w' : World} {S R : Nat → Prop} (k : Kp R w w') (hr : ∀ i, R i → i < w.heap.size → S i) : ∀ {us : List Value} {ls : List (List Int)}, SsAt w S us ls → SsAt w' S us ls
  | [], [], _ => trivial
  | _ :: _, _ :: _, h => ⟨h.1.keep k hr, SsAt.keep k hr h.2⟩
  | [], _ :: _, h => h.elim
  | _ :: _, [], h => h.elim
theorem SsAt.mono {w : World} {S S' : Nat → Prop} (hr : ∀ i, i < w.heap.size → S' i → S i) : ∀ {us : List Value} {ls : List (List Int)}, SsAt w S us ls → SsAt w S' us ls
  | [], [], _ => trivial
  | _ :: _, _ :: _, h => ⟨h.1.mono hr, SsAt.mono hr h.2⟩
  | [], _ :: _, h => h.elim
  | _ :: _, [], h => h.elim
theorem SsAt.snoc {w : World} {S : Nat → Prop} {u : Value} {l : List Int} (hu : SlAt w S u l) : ∀ {us : List Value} {ls : List (List Int)}, SsAt w S us ls → SsAt w S (us ++ [u]) (ls ++ [l])
  | [], [], _ => ⟨hu, trivial⟩
  | _ :: _, _ :: _, h => ⟨h.1, SsAt.snoc hu h.2⟩
  | [], _ :: _, h => h.elim
  | _ :: _, [], h => h.elim
theorem SsAt.len {w : World} {S : Nat → Prop} : ∀ {us : List Value} {ls : List (List Int)}, SsAt w S us ls → us.length = ls.length
  | [], [], _ => rfl
  | _ :: _, _ :: _, h => congrArg (· + 1) (SsAt.len h.2)
  | [], _ :: _, h => h.elim
  | _ :: _, [], h => h.elim
theorem SsAt.get {w : World} {S : Nat → Prop} : ∀ {us : List Value} {ls : List (List Int)}, SsAt w S us ls → ∀ j (hj : j < us.length), SlAt w S us[j] (ls.getD j [])
  | [], [], _ => fun j hj => absurd hj (by simp)
  | _ :: _, _ :: _, h => fun j hj => by
    cases j with
    | zero => exact h.1
    | succ j => exact SsAt.get h.2 j (by simpa using hj)
  | [], _ :: _, h => h.elim
  | _ :: _, [], h => h.elim
theorem SsAt.rds {w : World} {S : Nat → Prop} {B : Nat} {T : TypeId} {v : Value} {us : List Value} {L : List (List Int)} (h : SsAt w S us L) (hV : VOwn w T B v us) : ∃ A c, v = .slice A L.length c ∧ RdS w A L.length c L := by
  obtain ⟨A, c, hv, h1, h2, h3⟩ := hV.form
  have hl := h.len
  refine ⟨A, c, by rw [← hl]; exact hv, rfl, by omega, h2, fun hp => ?_⟩
  obtain ⟨g, rfl, hc⟩ := h3 (by omega)
  refine ⟨g, 0, rfl, fun j hj => ?_⟩
  obtain ⟨A', c', h4, h5, _⟩ := h.get j (by omega)
  exact ⟨A', c', by rw [Nat.zero_add, hc j (by omega), h4], h5⟩
/-- The two blocks, and the row. -/
def So (g r : Nat) (v : Value) (i : Nat) : Prop := i = g ∨ i = r ∨ v.ownBlock = some i
/-- One more: its bytes are new since 'w'; the row went on from 'W'. -/
theorem SsAt.more {w W w1 w2 : World} {g r : Nat} {v v1 u : Value} {us : List Value} {L : List (List Int)} {a : List Int} (h : SsAt w (So g r v) us L) (k : Kp no w W)
    (hsl : SlAt W no u a) (hf : Fresh w.heap.size u) (hg : g < w.heap.size) (hr : r < w.heap.size) (hbase : ∀ i, v.ownBlock = some i → i < w.heap.size)
    (k1 : Kp (Of v) W w1) (hw : Went W v v1) (k2 : Kp (· = g) w1 w2) : SsAt w2 (So g r v1) (us ++ [u]) (L ++ [a]) := by
  have hs := k.size
  have hm : ∀ i, i < W.heap.size → (So g r v i ∨ So g r v1 i) → So g r v i := by
    intro i hi h
    rcases h with h | h | h | h
    · exact h
    · exact .inl h
    · exact .inr (.inl h)
    · refine .inr (.inr ?_)
      rcases hw with hw | ⟨b, hw, hbb⟩
      · rw [← hw]; exact h
      · rw [hw] at h; injection h with h; omega
  have hkr : ∀ i, Of v i → i < W.heap.size → (So g r v i ∨ So g r v1 i) := fun i hi _ => .inl (.inr (.inr hi))
  have hsub : ∀ i, i < w1.heap.size → So g r v1 i → (So g r v i ∨ So g r v1 i) := fun i _ h => .inr h
  have hgk : ∀ i, i = g → i < w1.heap.size → So g r v1 i := fun i hi _ => .inl hi
  have hnew : ∀ i, w.heap.size ≤ i → i < W.heap.size → ¬ (So g r v i ∨ So g r v1 i) := by
    intro i hi hi2 h
    rcases hm i hi2 h with h | h | h
    · omega
    · omega
    · have := hbase i h; omega
  refine SsAt.snoc ?_ (((((h.keep k (fun _ h _ => h.elim)).mono hm).keep k1 hkr).mono hsub).keep k2 hgk)
  have hp : SlAt W (fun i => So g r v i ∨ So g r v1 i) u a := by
    obtain ⟨A, c, rfl, hR, hO, hL, hn⟩ := hsl
    exact ⟨A, c, rfl, hR, fun x hx => hnew _ (hf x _ _ (by rw [hx])) (hL x hx), hL, hn⟩
  exact ((hp.keep k1 hkr).mono hsub).keep k2 hgk
theorem SlAt.went {w W w1 w2 : World} {g r : Nat} {v v1 u : Value} {a : List Int} (h : SlAt w (So g r v) u a) (k : Kp no w W) (k1 : Kp (Of v) W w1) (hw : Went W v v1) (k2 : Kp (· = g) w1 w2) : SlAt w2 (So g r v1) u a := by
  have hm : ∀ i, i < W.heap.size → (So g r v i ∨ So g r v1 i) → So g r v i := by
    intro i hi h
    rcases h with h | h | h | h
    · exact h
    · exact .inl h
    · exact .inr (.inl h)
    · refine .inr (.inr ?_)
      rcases hw with hw | ⟨b, hw, hbb⟩
      · rw [← hw]; exact h
      · rw [hw] at h; injection h with h; omega
  exact ((((h.keepN k).mono hm).keep k1 (fun i hi _ => .inl (.inr (.inr hi)))).mono (fun i _ h => .inr h)).keep k2 (fun i hi _ => .inl hi)
/-- Bytes that were made, as an element. -/
theorem MadeAt.sl {w w' : World} {A : Option Addr} {c : Nat} {l : List Int} (h : MadeAt w w' A c l) (hn : l.length ≤ 1099511627776) : SlAt w' no (.slice A l.length c) l := ⟨A, c, rfl, h.rd, fun _ _ h => h.elim, h.lo, hn⟩
theorem MadeAt.fresh {w w' : World} {A : Option Addr} {c : Nat} {l : List Int} (h : MadeAt w w' A c l) : Fresh w.heap.size (.slice A l.length c) := fun a n c' he => by
  injection he with he
  exact (h.own.base a.block (by rw [he]; rfl)).1

theorem kp3 {g : Nat} {w3 w : World} (h : Kp (· = g) w3 w) (v0 v1 v2 : Value) : Kp (· = g) w3 (((w.setCell ⟨g, 0, none⟩ v0).setCell ⟨g, 1, none⟩ v1).setCell ⟨g, 2, none⟩ v2) :=
  ((h.setCell (p := ⟨g, 0, none⟩) (fun _ => rfl) _).setCell (p := ⟨g, 1, none⟩) (fun _ => rfl) _).setCell (p := ⟨g, 2, none⟩) (fun _ => rfl) _
theorem kp3n {S : Nat → Prop} {w3 w : World} (h : Kp S w3 w) {g : Nat} (hg : w3.heap.size ≤ g) (v0 v1 v2 : Value) : Kp S w3 (((w.setCell ⟨g, 0, none⟩ v0).setCell ⟨g, 1, none⟩ v1).setCell ⟨g, 2, none⟩ v2) :=
  ((h.setCell (p := ⟨g, 0, none⟩) (fun q => by have q : g < w3.heap.size := q; omega) _).setCell (p := ⟨g, 1, none⟩) (fun q => by have q : g < w3.heap.size := q; omega) _).setCell (p := ⟨g, 2, none⟩) (fun q => by have q : g < w3.heap.size := q; omega) _
/-- What stands behind the copy of the ID. -/
structure RCut (w3 : World) (d : List Int) (q : Int) (e : Value) (wx : World) (gE : Nat) (A4 : Option Addr) (c4 : Nat) : Prop where
  e : e = .pointer (some ⟨gE, 0, none⟩)
  ge : w3.heap.size ≤ gE
  blk : Blk wx gE #[.slice A4 d.length c4, .int .u64 q, .slice none 0 0] 47
  kp : Kp no w3 wx
  r4 : Rd wx A4 d.length c4 d
  o4 : Out (fun i => i < w3.heap.size ∨ i = gE) A4
  l4 : Lo wx.heap.size A4
theorem RCut.late {w3 w6 : World} {d : List Int} {q : Int} {A4 : Option Addr} {c4 : Nat} (k6 : Kp no w3 w6) (R4 : Rd w6 A4 d.length c4 d) (n4 : ∀ a, A4 = some a → w3.heap.size ≤ a.block ∧ a.block < w6.heap.size) :
    ∃ gE A4' c4', RCut w3 d q (.pointer (some ⟨w6.heap.size, 0, none⟩)) (w6.alloc (.cells #[.slice A4 d.length c4, .int .u64 q, .slice none 0 0] 47)) gE A4' c4' := by
  have kE : Kp no w6 (w6.alloc (.cells #[.slice A4 d.length c4, .int .u64 q, .slice none 0 0] 47)) := (Kp.refl _ _).alloc _
  refine ⟨w6.heap.size, A4, c4, rfl, k6.size, Blk.new _ _ _, k6.then kE, R4.keepN kE, ?_, ?_⟩
  · intro a ha hq; have := n4 a ha; have hq : a.block < w3.heap.size ∨ a.block = w6.heap.size := hq; omega
  · intro a ha; have := n4 a ha; have := kE.size; omega
theorem RCut.early {w3 w6 : World} {d : List Int} {q : Int} {G : Nat} {A4 : Option Addr} {c4 : Nat} (hG : w3.heap.size ≤ G) (bz6 : Blk w6 G #[.slice none 0 0, .int .u64 0, .slice none 0 0] 47) (k6 : Kp no w3 w6) (R4 : Rd w6 A4 d.length c4 d)
    (n4 : ∀ a, A4 = some a → w3.heap.size ≤ a.block ∧ a.block ≠ G ∧ a.block < w6.heap.size) :
    ∃ gE A4' c4', RCut w3 d q (.pointer (some ⟨G, 0, none⟩)) (((w6.setCell ⟨G, 0, none⟩ (.slice A4 d.length c4)).setCell ⟨G, 1, none⟩ (.int .u64 q)).setCell ⟨G, 2, none⟩ (.slice none 0 0)) gE A4' c4' := by
  have kE := kp3 (Kp.refl (· = G) w6) (.slice A4 d.length c4) (.int .u64 q) (.slice none 0 0)
  refine ⟨G, A4, c4, rfl, hG, (((bz6.set 0 (.slice A4 d.length c4)).set 1 (.int .u64 q)).set 2 (.slice none 0 0)), k6.trans kE (fun i hi h => by omega), R4.keep kE (fun a ha h => (n4 a ha).2.1 h), ?_, ?_⟩
  · intro a ha hq; have := n4 a ha; have hq : a.block < w3.heap.size ∨ a.block = G := hq; omega
  · intro a ha; have := n4 a ha; have := kE.size; omega
section
variable {P : Program} {ops : Array Oper} {o : Oper} {a : Act} {K : Act → World → Prop} {Q : Exit → Act → World → Prop} {E : Prop}
/-- 'append(v, u)' as a step of a region that draws. -/
theorem step_one_append {W : World} (B : Nat) (hgd : o.guard = none) (s x : Operand) (t e : TypeId)
    (ho : o.op = .call { callee := .builtin .append, args := #[s, x], argTypes := #[t, t] })
    (ht : P.underlying t = some (.slice e)) (z : Value) (by_ : Nat) (hinfo : (P.info? e).map (fun i => (i.zero, i.size, i.bytes)) = some (some z, 1, by_)) (hz : z.cells.size = 1) (hby : by_ ≤ 24)
    (v : Value) (us : List Value) (u : Value) (b0 : Nat) (hs : a.eval s = v) (hx : a.eval x = .slice (some ⟨b0, 0, none⟩) 1 1) (hc : W.cell? ⟨b0, 0, none⟩ = some u) (h1 : u.oneCell' = true)
    (HO : VOwn W e B v us) (hB : B ≤ W.heap.size) (hl : us.length ≤ 1099511627776)
    (h : ∀ A1 c1 w1, VOwn w1 e B (.slice A1 (us.length + 1) c1) (us ++ [u]) → Kp (Of v) W w1 → Went W v (.slice A1 (us.length + 1) c1) → K (a.put o.dst (.slice A1 (us.length + 1) c1)) w1) :
    if Region.wanted o (yielded ops a.tmps) = true then Oper.wp P o a W K Q else E := by
  have hw : Region.wanted o (yielded ops a.tmps) = true := by simp [Region.wanted, hgd]
  rw [if_pos hw]
  obtain ⟨i0, hi, hzz⟩ := Option.map_eq_some_iff.1 hinfo
  simp only [Prod.mk.injEq] at hzz
  obtain ⟨hz0, hz1, hz2⟩ := hzz
  have hcells : ∀ j u', [u][j]? = some u' → W.cell? ((⟨b0, 0, none⟩ : Addr).add j) = some u' := by
    intro j u' hu
    cases j with
    | zero =>
      have ha : (⟨b0, 0, none⟩ : Addr).add 0 = ⟨b0, 0, none⟩ := by unfold Addr.add; split <;> simp_all
      rw [ha, hc]; simpa using hu
    | succ j => simp at hu
  obtain ⟨v1, w1, hr, h2, h3, h4, h5⟩ := run_append_own_at (P := P) W B t o.type e i0 z 1 by_ ht hi hz0 hz1 hz2 hz (by omega) v us.length us HO.row ⟨b0, 0, none⟩ 1 1 [u] rfl hcells
    (by intro u' hu; simp only [List.mem_cons, List.not_mem_nil, or_false] at hu; rw [hu]; exact h1) (by simp only [maxLen]; omega)
    (Nat.le_trans (Nat.mul_le_mul_left _ hby) (by omega)) hB
  unfold Oper.wp execOp
  simp only [ho, resolve, invoke, builtin, Sem.run_bind, Sem.run_pure, Result.andThen_ok, List.map_toArray, List.map_cons, List.map_nil, hs, hx, hr]
  obtain ⟨A1, c1, rfl⟩ : ∃ A1 c1, v1 = .slice A1 (us.length + 1) c1 := by
    rcases h2.2 with ⟨rfl, h0⟩ | ⟨g, cap, cur, rfl, _⟩
    · omega
    · exact ⟨_, _, rfl⟩
  exact h A1 c1 w1 ⟨by simpa using h2⟩ ((Kp.refl _ _).grown h3 fun k hk _ => hk) (h5.imp_right fun h => ⟨_, h, Nat.le_refl _⟩)
end
theorem take_next (L : List (List Int)) (k : Nat) (hk : k < L.length) : L.take (k + 1) = L.take k ++ [L.getD k []] := by
  rw [List.take_succ_eq_append_getElem hk]
  simp [List.getD_eq_getElem?_getD, List.getElem?_eq_getElem hk]
end Go.Proofs.YtipleaojejbkpaaDoor
namespace Go.Proofs.YtipleaojejbkpaaDoor
open Go Go.RowKit
set_option linter.unusedVariables false
set_option linter.unusedSimpArgs false
set_option maxRecDepth 100000

/-- The copies that are made so far. -/
structure RLo (w3 : World) (r gO : Nat) (A4 : Option Addr) (c4 : Nat) (st : RS) (k : Nat) (v : Value) (us : List Value) (wr : World) : Prop where
  kp : Kp no w3 wr
  blk : Blk wr gO #[.slice A4 st.peer.length c4, .int .u64 st.seq, v] 47
  row : VOwn wr 24 w3.heap.size v us
  at_ : SsAt wr (So gO r v) us (st.addrs.take k)
  pe : SlAt wr (So gO r v) (.slice A4 st.peer.length c4) st.peer
  ne : ∀ i, v.ownBlock = some i → i ≠ gO

set_option maxHeartbeats 8000000 in
theorem RecordOf_calls {w : World} {A : Option Addr} {n c : Nat} {l : List Int} (h : Rd w A n c l) (hn : n ≤ 1099511627776) (hE : RErrs w) :
    Calls Tryd.prog 36 #[.slice A n c] w (ROf w l) := by
  obtain rfl := h.len
  have hsz := hE.sz
  have kx : Kp no w (w.alloc (.cells #[.slice none 0 0, .int .u64 0, .slice none 0 0] 47)) := (Kp.refl _ _).alloc _
  have k1 : Kp no w ((w.alloc (.cells #[.slice none 0 0, .int .u64 0, .slice none 0 0] 47)).alloc (.cells #[.slice none 0 0, .int .u64 0, .slice none 0 0] 99)) := kx.alloc _
  have D1 := Lib.hid (Clone_calls (h.keepN k1) (by omega))
  go_enter Tryd.func36, Tryd.ntmps36
  go_wp2_with (fail)
  refine D1.out.mono ?_
  rintro e w2 ⟨A2, c2, rfl, M2⟩
  have k2 := k1.then M2.kp
  have hE2 := hE.keepN k2
  have hs2 : w.heap.size + 2 ≤ w2.heap.size := by have := M2.kp.size; simp at this; omega
  have hr2 := ((Blk.new w #[.slice none 0 0, .int .u64 0, .slice none 0 0] 47).alloc (.cells #[.slice none 0 0, .int .u64 0, .slice none 0 0] 99)).keepN M2.kp
  have hb2 := (Blk.new (w.alloc (.cells #[.slice none 0 0, .int .u64 0, .slice none 0 0] 47)) #[.slice none 0 0, .int .u64 0, .slice none 0 0] 99).keepN M2.kp
  rw [show (w.alloc (.cells #[.slice none 0 0, .int .u64 0, .slice none 0 0] 47)).heap.size = w.heap.size + 1 from by simp] at hb2
  have D2 := Lib.hid (RUnmarshal_calls M2.rd hn hE2 (w.heap.size + 1) 99 (by omega) _ _ _ hb2 (M2.hi _ (fun i hi => by simp; omega)) M2.lo)
  go_wp2_with (fail)
  refine D2.out.mono ?_
  rintro e w3 ⟨hk3, pe, sq, ad, st, hb3, hs3, hnum, hF⟩
  have k3 : Kp no w w3 := k2.trans hk3 (fun i hi h => by omega)
  have hr3 := hr2.keep hk3 (by show ¬ _ = _; omega)
  have hss := hk3.size
  have hfe := hF.end_
  have HF2 := Lib.hid hF
  clear hF
  rcases hfe with rfl | ⟨t, v, rfl⟩
  · obtain ⟨PA, PC, rfl, RP, _, _, nP⟩ := hs3.pe
    obtain rfl := hs3.sq
    obtain ⟨us0, hV0, hP0⟩ := hs3.ad
    obtain ⟨Aad, cad, rfl, hc1, hc2, hc3⟩ := hV0.form
    have hul := hP0.len
    have kd : Kp no w3 w3.drew := (Kp.refl _ _).drew
    have DP := fun W (k : Kp no w3 W) => Lib.hid (Clone_calls (RP.keepN k) (by omega))
    have hS : ∀ W, Kp no w3 W → Kp no w3 W ∧ W.cell? ⟨w.heap.size + 1, 0, none⟩ = some (.slice PA st.peer.length PC) ∧ W.cell? ⟨w.heap.size + 1, 1, none⟩ = some (.int .u64 st.seq) := fun W k => ⟨k, (hb3.keepN k).cell 0, (hb3.keepN k).cell 1⟩
    have HS := Lib.hid hS
    clear hS
    have kda : Kp no w3 (w3.alloc (.cells #[.slice none 0 0, .int .u64 0, .slice none 0 0] 47)).drew := ((Kp.refl no w3).alloc _).drew
    have bz3 : Blk (w3.alloc (.cells #[.slice none 0 0, .int .u64 0, .slice none 0 0] 47)).drew w3.heap.size #[.slice none 0 0, .int .u64 0, .slice none 0 0] 47 := (Blk.new w3 #[.slice none 0 0, .int .u64 0, .slice none 0 0] 47).drew
    have HC3 := Lib.hid hc3
    have HUL := Lib.hid hul
    clear hs3 hc3 hul
    go_wp2_with (fail)
    go_upto_region 4 with (fail)
    go_cut [5] from 13 to 19 (fun e wx => ∃ gE A4 c4, RCut w3 st.peer st.seq e wx gE A4 c4)
    case first =>
      go_region_held3 (fun W => Kp no w3 W ∧ W.cell? ⟨w.heap.size + 1, 0, none⟩ = some (.slice PA st.peer.length PC) ∧ W.cell? ⟨w.heap.size + 1, 1, none⟩ = some (.int .u64 st.seq))
        ((exact HS.out _ (by first | with_reducible exact kd | with_reducible exact kda | with_reducible exact k4 | with_reducible exact k4.alloc _ | with_reducible exact kp3n k4 (by omega) _ _ _ | with_reducible exact kp3n (k4.alloc _) (by omega) _ _ _)))
        (first
        | (go_at_call 22; refine (DP _ (by first | with_reducible exact kd | with_reducible exact kda)).out.mono ?_; rintro e w4 ⟨A4, c4, rfl, M4⟩; have k4 : Kp no w3 w4 := (by first | with_reducible exact kd.then M4.kp | with_reducible exact kda.then M4.kp); have hz4 := k4.size; (try with_reducible have bz4 := bz3.keepN M4.kp); (try with_reducible have zf := fun i => bz4.free i); (try with_reducible have zc0 := bz4.cell 0); (try with_reducible have zc1 := bz4.cell 1); (try with_reducible have zc2 := bz4.cell 2)))
      all_goals
        go_wp2_with (fail)
        go_meet
        case rel =>
          have s4 := M4.kp.size
          have p4 := M4.own
          have R4 := M4.rd
          have n4 : ∀ a, A4 = some a → a.block < w4.heap.size := fun a ha => M4.lo a ha
          try simp at s4
          have q4 : ∀ a, A4 = some a → w3.heap.size ≤ a.block ∧ a.block < w4.heap.size := fun a ha => ⟨by have b1 := p4.base a.block (by rw [ha]; rfl); (try simp at b1); omega, n4 a ha⟩
          have LATE := RCut.late (q := st.seq) k4 R4 q4
          first
          | with_reducible exact LATE
          | exact RCut.early (by omega) (bz3.keepN M4.kp) k4 R4 (fun a ha => by have := q4 a ha; have b1 := p4.base a.block (by rw [ha]; rfl); (try simp at b1); omega)
    case rest =>
      obtain ⟨gE, A4, c4, rfl, hge, bE, kE, R4, o4, l4⟩ := hcut
      have b6 := hb3.keepN kE
      have x2 := b6.cell 2
      have hrlt : w.heap.size < w3.heap.size := by omega
      have HI : RLo w3 w.heap.size gE A4 c4 st 0 (.slice none 0 0) [] wc := ⟨kE, bE, VOwn.nil _ _ _, trivial, ⟨A4, c4, rfl, R4, (fun a ha hs => by
        refine o4 a ha ?_
        rcases hs with hs | hs | hs
        · exact .inr hs
        · exact .inl (by rw [hs]; exact hrlt)
        · cases hs), l4, nP⟩, (fun i hi => by cases hi)⟩
      clear bE R4 o4 l4 b6
      go_wp2
      go_loopw [22] (fun i wr => ∃ (k : Nat) (v : Value) (us : List Value), k ≤ us0.length ∧ us.length = k ∧ i = .int .i64 k ∧ RLo w3 w.heap.size gE A4 c4 st k v us wr) (fun i _ => us0.length - (intOf i).toNat)
      case atStart => exact ⟨0, _, [], Nat.zero_le _, rfl, rfl, HI⟩
      case round =>
        obtain ⟨k, v, us, hk0, hkl, rfl, HL⟩ := hrel
        subst hkl
        by_cases hlt : us.length < us0.length
        · obtain ⟨g0, hA0, hc⟩ := HC3.out (by omega)
          subst hA0
          have hkA : us.length < st.addrs.length := by have := HUL.out; omega
          obtain ⟨ga, sl, hu, _, hbk, hsl⟩ := hP0.get us.length hlt
          have htk := Lib.hid (take_next st.addrs us.length hkA)
          generalize st.addrs.getD us.length [] = y at *
          obtain ⟨A', c', rfl, hR', _, _, hn'⟩ := hsl
          have cu := hc us.length hlt
          rw [hu] at cu
          have cu1 := HL.kp.cellN cu
          have cu2 : wr.cell? ⟨g0, 0 + us.length, none⟩ = some (.pointer (some ⟨ga, 0, none⟩)) := (by rw [Nat.zero_add]; exact cu1)
          have bk1 := (hbk.keepN HL.kp).drew
          have cs := bk1.cell 0
          have kdr : Kp no wr wr.drew := (Kp.refl _ _).drew
          have DC := fun W (k : Kp no wr W) => Lib.hid (Clone_calls ((hR'.keepN HL.kp).keepN k) (by omega))
          have bO := HL.blk.drew
          have hgE := HL.blk.lt
          have hV := HL.row
          have hks := HL.kp.size
          obtain ⟨VA, vc, rfl, _, _, _⟩ := hV.form
          have o2 := bO.cell 2
          have HVB := Lib.hid (fun i (hi : (Value.slice VA us.length vc).ownBlock = some i) => (hV.base i hi))
          have HBO := Lib.hid HL.blk
          have HNE := Lib.hid HL.ne
          have HLH := Lib.hid HL
          clear hc hu cu hbk hR' HL
          go_wp2_with (fail)
          go_region_law (first
            | (go_simp; go_at_call 22; refine (DC _ kdr).out.mono ?_; rintro e w5 ⟨A5, c5, rfl, M5⟩; have k5 := kdr.then M5.kp; have hs5 := k5.size; have k5a : Kp no wr (w5.alloc (.cells #[.slice A5 y.length c5] 24)) := k5.alloc _; have o5 := (HBO.out.keepN k5).cell 2; have o5a := (HBO.out.keepN k5a).cell 2)
            | (refine step_one_append w3.heap.size rfl (.tmp 27) (.tmp 33) 45 24 rfl Tryd.und_bytess (.slice none 0 0) 24 Tryd.info_bytes rfl (by omega) (.slice VA us.length vc) us (.slice A5 y.length c5) w5.heap.size rfl rfl ((Blk.new w5 #[.slice A5 y.length c5] 24).cell 0) rfl (hV.keepN k5a) (by simp; omega) (by omega) ?_; intro A6 c6 w6 hV6 hk6 hw6; have bE6 := (HBO.out.keepN k5a).keep hk6 (fun h => HNE.out _ h rfl); have e2 := bE6.cell 2; have ef2 := bE6.free 2))
          all_goals
            go_wp2
            go_roundw
            case rel =>
              have kS : Kp (· = gE) w6 (w6.setCell ⟨gE, 2, none⟩ (.slice A6 (us.length + 1) c6)) := (Kp.refl (· = gE) w6).setCell (p := ⟨gE, 2, none⟩) (fun _ => rfl) _
              have HL := HLH.out
              have kF := ((HL.kp.then k5a).trans hk6 (fun i hi h => absurd (HVB.out i h).1 (by omega))).trans kS (fun i hi h => by have h : i = gE := h; omega)
              have HNE2 : ∀ i, (Value.slice A6 (us.length + 1) c6).ownBlock = some i → i ≠ gE := by
                intro j hj
                rcases hw6 with hw | ⟨b, hw, hbb⟩
                · rw [hw] at hj; exact HNE.out j hj
                · rw [hw] at hj; injection hj with hj; have := k5a.size; omega
              have hV7 := hV6.keep kS (fun j hj h => HNE2 j hj h)
              exact ⟨us.length + 1, _, us ++ [.slice A5 y.length c5], by omega, by simp, by go_num, kF, bE6.set 2 _, by simpa using hV7, by
                rw [htk.out]
                exact HL.at_.more k5a ((M5.sl (by omega)).keepN ((Kp.refl no w5).alloc _)) (fun a n c h => by have := M5.fresh a n c h; simpa using this) hgE (by omega) (fun i hi => (HVB.out i hi).2) hk6 hw6 kS, HL.pe.went k5a hk6 hw6 kS, (fun i hi => HNE2 i hi)⟩
            case measure => simp [intOf]; omega
        · have hke : us.length = us0.length := by omega
          have hkS := HL.kp.size
          have htk : st.addrs.take us.length = st.addrs := by rw [hke, HUL.out]; exact List.take_length
          have hat := HL.at_
          rw [htk] at hat
          have hpe := HL.pe
          have hV := HL.row
          have hbO := HL.blk
          have hkw := k3.then HL.kp
          have hr7 := hr3.keepN HL.kp
          obtain ⟨BA, be, rfl, _⟩ := SsAt.rds hat hV
          have hge2 : w.heap.size < gE := by omega
          have oc0 := hbO.cell 0
          have oc1 := hbO.cell 1
          have oc2 := hbO.cell 2
          have rf0 := hr7.free 0
          have rf1 := hr7.free 1
          have rf2 := hr7.free 2
          have qc0 := hr7.cell 0
          have qc1 := hr7.cell 1
          have qc2 := hr7.cell 2
          have kst := kp3 (Kp.refl (· = w.heap.size) wr) (.slice A4 st.peer.length c4) (.int .u64 st.seq) (.slice BA st.addrs.length be)
          have hrF := ((hr7.set 0 (.slice A4 st.peer.length c4)).set 1 (.int .u64 st.seq)).set 2 (.slice BA st.addrs.length be)
          have kF := hkw.trans kst (fun j hj h => by omega)
          obtain ⟨PA', PC', hpq, RPF, _, _, _⟩ := hpe.keep kst (fun j hj _ => .inr (.inl hj))
          injection hpq with hp1 hp2 hp3
          subst hp1 hp3
          obtain ⟨BA', be', hq, RSF⟩ := SsAt.rds (hat.keep kst (fun j hj _ => .inr (.inl hj))) (hV.keep kst (fun j hj h => by have := (hV.base j hj).1; have h : j = _ := h; omega))
          injection hq with hq1 hq2 hq3
          subst hq1 hq3
          clear hat hV HL hbO htk hpe hr7
          have hnl : ¬ (us.length : Int) < (us0.length : Int) := by omega
          clear hke hlt
          go_wp2
          (try simp only [Exit.inBlock, Exit.then]); refine bodyPost_ret (results_cellrow_tmp rfl _ _ w.heap.size 47 (RV.cells ⟨A4, c4, st.peer, st.seq, BA, be, st.addrs⟩) _ rfl hrF Tryd.underlying47 rfl infoRD) rfl ?_
          exact ⟨kF, ⟨A4, c4, st.peer, st.seq, BA, be, st.addrs⟩, true, rfl, ⟨RPF, RSF⟩, nP, hnum, RRes.ofOk HF2.out ⟨rfl, rfl, rfl⟩⟩
  · have R := Lib.hid (RRes.ofBad HF2.out ⟨t, v, rfl⟩ RV.zero)
    clear HF2
    have r0 := hr3.free 0
    have r1 := hr3.free 1
    have r2 := hr3.free 2
    have q0 := hr3.cell 0
    have q1 := hr3.cell 1
    have q2 := hr3.cell 2
    go_wp2
    have hk4 : Kp no w (((w3.setCell ⟨w.heap.size, 0, none⟩ (.slice none 0 0)).setCell ⟨w.heap.size, 1, none⟩ (.int .u64 0)).setCell ⟨w.heap.size, 2, none⟩ (.slice none 0 0)) :=
      ((k3.setCell (p := ⟨w.heap.size, 0, none⟩) (fun h => by simp at h) _).setCell (p := ⟨w.heap.size, 1, none⟩) (fun h => by simp at h) _).setCell (p := ⟨w.heap.size, 2, none⟩) (fun h => by simp at h) _
    have hr4 := ((hr3.set 0 (.slice none 0 0)).set 1 (.int .u64 0)).set 2 (.slice none 0 0)
    (try simp only [Exit.inBlock, Exit.then]); refine bodyPost_ret (results_cellrow_tmp rfl _ _ w.heap.size 47 RV.zero.cells _ rfl hr4 Tryd.underlying47 rfl infoRD) rfl ?_
    exact ⟨hk4, RV.zero, false, rfl, RV.zero_at _, by simp [RV.zero], by simp [RV.zero], R.out⟩
end Go.Proofs.YtipleaojejbkpaaDoor
