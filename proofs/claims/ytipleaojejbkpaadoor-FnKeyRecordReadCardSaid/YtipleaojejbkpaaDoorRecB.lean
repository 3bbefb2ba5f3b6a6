/- (*PeerRecord).Unmarshal walked. -/
import Derived.Test.YtipleaojejbkpaaDoorRecA
import Derived.Test.YtipleaojejbkpaaDoorRow
namespace Go.Proofs.YtipleaojejbkpaaDoor
open Go Go.RowKit
set_option linter.unusedVariables false
set_option linter.unusedSimpArgs false
set_option maxRecDepth 100000

theorem rstep_1 (s : RS) (v : Int) (d : List Int) : rstep s ⟨1, 2, v, d⟩ = .ok { s with peer := d } := by simp [rstep]
theorem rstep_2 (s : RS) (v : Int) (d : List Int) : rstep s ⟨2, 0, v, d⟩ = .ok { s with seq := v } := by simp [rstep]
theorem rstep_3 (s : RS) (v : Int) (d : List Int) : rstep s ⟨3, 2, v, d⟩ = addressed s (whole astep d []) := by simp [rstep]
theorem rstep_0 (s : RS) (f : Fld) (h1 : ¬ (f.num = 1 ∧ f.kind = 2)) (h2 : ¬ (f.num = 2 ∧ f.kind = 0)) (h3 : ¬ (f.num = 3 ∧ f.kind = 2)) : rstep s f = .ok s := by unfold rstep; rw [if_neg h1, if_neg h2, if_neg h3]
theorem addressed_nil {s : RS} {y a : List Int} (h : FinG (whole astep y []) a (.returned .nilIface)) : addressed s (whole astep y []) = .ok { s with addrs := s.addrs ++ [a] } ∨ addressed s (whole astep y []) = .opn := by
  unfold FinG at h
  generalize whole astep y [] = r at h ⊢
  cases r with
  | ok b => obtain ⟨_, rfl⟩ := h; exact .inl rfl
  | bad => exact (bad_not_nil h rfl).elim
  | opn => exact .inr rfl
theorem addressed_bad {s : RS} {y a : List Int} {e : Ending} (h : FinG (whole astep y []) a e) (he : Bad e) : addressed s (whole astep y []) = .bad ∨ addressed s (whole astep y []) = .opn := by
  unfold FinG at h
  generalize whole astep y [] = r at h ⊢
  cases r with
  | ok b => exact (bad_not_nil he h.1).elim
  | bad => exact .inl rfl
  | opn => exact .inr rfl

/-- An address that is pointed at. -/
def PAt (w : World) (S : Nat → Prop) (u : Value) (l : List Int) : Prop := ∃ ga sl, u = .pointer (some ⟨ga, 0, none⟩) ∧ ¬ S ga ∧ Blk w ga #[sl] 102 ∧ SlAt w S sl l
theorem PAt.keep {w w' : World} {S R : Nat → Prop} {u : Value} {l : List Int} (h : PAt w S u l) (k : Kp R w w') (hr : ∀ i, R i → i < w.heap.size → S i) : PAt w' S u l := by
  obtain ⟨ga, sl, h1, h2, h3, h4⟩ := h
  exact ⟨ga, sl, h1, h2, h3.keep k (fun h => h2 (hr _ h h3.lt)), h4.keep k hr⟩
theorem PAt.mono {w : World} {S S' : Nat → Prop} {u : Value} {l : List Int} (h : PAt w S u l) (hr : ∀ i, i < w.heap.size → S' i → S i) : PAt w S' u l := by
  obtain ⟨ga, sl, h1, h2, h3, h4⟩ := h
  exact ⟨ga, sl, h1, fun h => h2 (hr _ h3.lt h), h3, h4.mono hr⟩
def PsAt (w : World) (S : Nat → Prop) : List Value → List (List Int) → Prop
  | [], [] => True
  | u :: us, l :: ls => PAt w S u l ∧ PsAt w S us ls
  | _, _ => False
theorem PsAt.keep {w w' : World} {S R : Nat → Prop} (k : Kp R w w') (hr : ∀ i, R i → i < w.heap.size → S i) : ∀ {us : List Value} {ls : List (List Int)}, PsAt w S us ls → PsAt w' S us ls
  | [], [], _ => trivial
  | _ :: _, _ :: _, h => ⟨h.1.keep k hr, PsAt.keep k hr h.2⟩
  | [], _ :: _, h => h.elim
  | _ :: _, [], h => h.elim
theorem PsAt.mono {w : World} {S S' : Nat → Prop} (hr : ∀ i, i < w.heap.size → S' i → S i) : ∀ {us : List Value} {ls : List (List Int)}, PsAt w S us ls → PsAt w S' us ls
  | [], [], _ => trivial
  | _ :: _, _ :: _, h => ⟨h.1.mono hr, PsAt.mono hr h.2⟩
  | [], _ :: _, h => h.elim
  | _ :: _, [], h => h.elim
theorem PsAt.snoc {w : World} {S : Nat → Prop} {u : Value} {l : List Int} (hu : PAt w S u l) : ∀ {us : List Value} {ls : List (List Int)}, PsAt w S us ls → PsAt w S (us ++ [u]) (ls ++ [l])
  | [], [], _ => ⟨hu, trivial⟩
  | _ :: _, _ :: _, h => ⟨h.1, PsAt.snoc hu h.2⟩
  | [], _ :: _, h => h.elim
  | _ :: _, [], h => h.elim
theorem PsAt.len {w : World} {S : Nat → Prop} : ∀ {us : List Value} {ls : List (List Int)}, PsAt w S us ls → us.length = ls.length
  | [], [], _ => rfl
  | _ :: _, _ :: _, h => congrArg (· + 1) (PsAt.len h.2)
  | [], _ :: _, h => h.elim
  | _ :: _, [], h => h.elim
theorem PsAt.get {w : World} {S : Nat → Prop} : ∀ {us : List Value} {ls : List (List Int)}, PsAt w S us ls → ∀ j (hj : j < us.length), PAt w S us[j] (ls.getD j [])
  | [], [], _ => fun j hj => absurd hj (by simp)
  | _ :: _, _ :: _, h => fun j hj => by
    cases j with
    | zero => exact h.1
    | succ j => exact PsAt.get h.2 j (by simpa using hj)
  | [], _ :: _, h => h.elim
  | _ :: _, [], h => h.elim
/-- The record's block, and the row of its addresses. -/
def Sg (g : Nat) (ad : Value) (i : Nat) : Prop := i = g ∨ ad.ownBlock = some i
structure RSt (w : World) (B g : Nat) (pe sq ad : Value) (st : RS) : Prop where
  pe : SlAt w (Sg g ad) pe st.peer
  sq : sq = .int .u64 st.seq
  ad : ∃ us, VOwn w 100 B ad us ∧ PsAt w (Sg g ad) us st.addrs
theorem RSt.keep {w w' : World} {R : Nat → Prop} {B g : Nat} {pe sq ad : Value} {st : RS} (h : RSt w B g pe sq ad st) (k : Kp R w w') (hr : ∀ i, R i → i = g) (hg : g < B) : RSt w' B g pe sq ad st := by
  obtain ⟨us, h1, h2⟩ := h.ad
  exact ⟨h.pe.keep k (fun i hi _ => .inl (hr i hi)), h.sq, us, h1.keep k (fun i hi hR => by have := hr i hR; have := (h1.base i hi).1; omega), h2.keep k (fun i hi _ => .inl (hr i hi))⟩
theorem RSt.keepN {w w' : World} {B g : Nat} {pe sq ad : Value} {st : RS} (h : RSt w B g pe sq ad st) (k : Kp no w w') (hg : g < B) : RSt w' B g pe sq ad st := h.keep k (fun _ h => h.elim) hg
theorem RSt.zero (w : World) (B g : Nat) : RSt w B g (.slice none 0 0) (.int .u64 0) (.slice none 0 0) RS.zero := ⟨SlAt.nil _ _, rfl, [], VOwn.nil _ _ _, trivial⟩

/-- The place is none of the record's. -/
theorem RSt.off {w : World} {B g : Nat} {pe sq ad : Value} {st : RS} (h : RSt w B g pe sq ad st) (i : Nat) (hi : w.heap.size ≤ i) (hg : i ≠ g) : ¬ Sg g ad i := by
  obtain ⟨us, h1, _⟩ := h.ad
  rintro (h | h)
  · exact hg h
  · have := (h1.base i h).2; omega

/-- One more address: its block 'ga' is new since 'w', so are its bytes; the row went on from 'W'. -/
theorem RSt.more {w W w1 w2 : World} {B g ga : Nat} {pe sq ad v1 v : Value} {st : RS} {a : List Int} {us : List Value} (h : RSt w B g pe sq ad st) (k : Kp no w W)
    (hb : Blk W ga #[v] 102) (hsl : SlAt W (· = ga) v a) (hga : w.heap.size ≤ ga) (hf : Fresh w.heap.size v) (hg : g < w.heap.size)
    (hps : PsAt w (Sg g ad) us st.addrs) (hbase : ∀ i, ad.ownBlock = some i → i < w.heap.size)
    (hv : VOwn w1 100 B v1 (us ++ [.pointer (some ⟨ga, 0, none⟩)])) (k1 : Kp (Of ad) W w1) (hw : Went W ad v1)
    (k2 : Kp (· = g) w1 w2) (hgB : g < B) : RSt w2 B g pe sq v1 { st with addrs := st.addrs ++ [a] } := by
  have hs := k.size
  have hwent : ∀ i, i < W.heap.size → v1.ownBlock = some i → ad.ownBlock = some i := by
    intro i hi h
    rcases hw with hw | ⟨b, hw, hbb⟩
    · rw [← hw]; exact h
    · rw [hw] at h; injection h with h; omega
  have hm : ∀ i, i < W.heap.size → (Sg g ad i ∨ Sg g v1 i) → Sg g ad i := by
    intro i hi h
    rcases h with h | h | h
    · exact h
    · exact .inl h
    · exact .inr (hwent i hi h)
  have hkr : ∀ i, Of ad i → i < W.heap.size → (Sg g ad i ∨ Sg g v1 i) := fun i hi _ => .inl (.inr hi)
  have hsub : ∀ i, i < w1.heap.size → Sg g v1 i → (Sg g ad i ∨ Sg g v1 i) := fun i _ h => .inr h
  have hgk : ∀ i, i = g → i < w1.heap.size → Sg g v1 i := fun i hi _ => .inl hi
  refine ⟨((((h.pe.keepN k).mono hm).keep k1 hkr).mono hsub).keep k2 hgk, h.sq, us ++ [.pointer (some ⟨ga, 0, none⟩)], hv.keep k2 (fun i hi hR => by have := (hv.base i hi).1; have hR : i = g := hR; omega), PsAt.snoc ?_ (((((hps.keep k (fun _ h _ => h.elim)).mono hm).keep k1 hkr).mono hsub).keep k2 hgk)⟩
  have hnew : ∀ i, w.heap.size ≤ i → i < W.heap.size → ¬ (Sg g ad i ∨ Sg g v1 i) := by
    intro i hi hi2 h
    rcases hm i hi2 h with h | h
    · omega
    · have := hbase i h; omega
  have hp : PAt W (fun i => Sg g ad i ∨ Sg g v1 i) (.pointer (some ⟨ga, 0, none⟩)) a := by
    refine ⟨ga, v, rfl, hnew ga hga hb.lt, hb, ?_⟩
    obtain ⟨A, c, rfl, hR, hO, hL, hn⟩ := hsl
    exact ⟨A, c, rfl, hR, fun x hx => hnew _ (hf x _ _ (by rw [hx])) (hL x hx), hL, hn⟩
  exact ((hp.keep k1 hkr).mono hsub).keep k2 hgk

def RUO (w : World) (g : Nat) (T : TypeId) (l : List Int) (e : Ending) (w' : World) : Prop :=
  Kp (· = g) w w' ∧ ∃ pe sq ad st, Blk w' g #[pe, sq, ad] T ∧ RSt w' w.heap.size g pe sq ad st ∧ st.addrs.length ≤ l.length ∧ FinG (whole rstep l RS.zero) st e
structure RRel (w : World) (g : Nat) (T : TypeId) (l : List Int) (n : Nat) (A' : Option Addr) (n' c' : Nat) (l' : List Int) (pe sq ad : Value) (st : RS) (wr : World) : Prop where
  rd : Rd wr A' n' c' l'
  le : st.addrs.length + n' ≤ n
  out : Out (· = g) A'
  lo : Lo w.heap.size A'
  kp : Kp (· = g) w wr
  blk : Blk wr g #[pe, sq, ad] T
  rst : RSt wr w.heap.size g pe sq ad st
  at_ : AtG rstep l l' RS.zero st

theorem Tryd.und_pAddrs : Tryd.prog.underlying 97 = some (.slice 100) := by kernel_rfl
theorem Tryd.info_pAddr : (Tryd.prog.info? 100).map (fun i => (i.zero, i.size, i.bytes)) = some (some (.pointer none), 1, 8) := by kernel_rfl
end Go.Proofs.YtipleaojejbkpaaDoor
