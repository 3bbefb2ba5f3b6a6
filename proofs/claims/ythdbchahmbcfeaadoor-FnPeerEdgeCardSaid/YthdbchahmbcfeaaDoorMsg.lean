/- Messages, plain: the fields of a message, one after the other. -/
import Derived.Test.YthdbchahmbcfeaaDoorPwE
namespace Go.Proofs.YthdbchahmbcfeaaDoor
set_option linter.unusedVariables false
set_option linter.unusedSimpArgs false

/-- A field: its number, its wire, its number's value, its bytes. -/
structure Fld where
  num : Int
  kind : Int
  val : Int
  data : List Int
/-- What stands at the head of a message: nothing that is right; a group; a field, and the rest. -/
inductive Hd where
  | bad
  | opn
  | fld (f : Fld) (rest : List Int)
def vof (l : List Int) : Int := match rv 10 l with | some (v, _) => v | none => 0
def dof (l : List Int) : List Int := match bsz l with | some (v, k) => bval l v k | none => []
def hdv (f t : Int) (l : List Int) : Hd :=
  if t = 3 ∨ t = 4 then .opn else
  match fval t l with
  | none => .bad
  | some k => .fld ⟨f, t, if t = 0 then vof l else 0, if t = 2 then dof l else []⟩ (l.drop k.toNat)
def hd (l : List Int) : Hd := match tag l with
  | none => .bad
  | some (f, t, n) => if 536870911 < f then .bad else hdv f t (l.drop n.toNat)
theorem hd_none {l : List Int} (h : tag l = none) : hd l = .bad := by unfold hd; rw [h]
theorem hd_big {l : List Int} {f t n : Int} (h : tag l = some (f, t, n)) (hf : 536870911 < f) : hd l = .bad := by unfold hd; rw [h]; simp only; rw [if_pos hf]
theorem hd_of {l : List Int} {f t n : Int} (h : tag l = some (f, t, n)) (hf : ¬ 536870911 < f) : hd l = hdv f t (l.drop n.toNat) := by unfold hd; rw [h]; simp only; rw [if_neg hf]
theorem hdv_grp {f t : Int} {l : List Int} (h : t = 3 ∨ t = 4) : hdv f t l = .opn := by unfold hdv; rw [if_pos h]
theorem hdv_none {f t : Int} {l : List Int} (h : ¬ (t = 3 ∨ t = 4)) (hv : fval t l = none) : hdv f t l = .bad := by unfold hdv; rw [if_neg h, hv]
theorem hdv_some {f t k : Int} {l : List Int} (h : ¬ (t = 3 ∨ t = 4)) (hv : fval t l = some k) : hdv f t l = .fld ⟨f, t, if t = 0 then vof l else 0, if t = 2 then dof l else []⟩ (l.drop k.toNat) := by unfold hdv; rw [if_neg h, hv]
theorem hdv_num {f v k : Int} {l : List Int} (hv : rv 10 l = some (v, k)) : hdv f 0 l = .fld ⟨f, 0, v, []⟩ (l.drop k.toNat) := by
  rw [hdv_some (k := k) (by omega) (by simp [fval, hv])]; simp [vof, hv]
theorem hdv_num_none {f : Int} {l : List Int} (hv : rv 10 l = none) : hdv f 0 l = .bad := hdv_none (by omega) (by simp [fval, hv])
theorem hdv_bytes {f v k : Int} {l : List Int} (hv : bsz l = some (v, k)) : hdv f 2 l = .fld ⟨f, 2, 0, bval l v k⟩ (l.drop (k + v).toNat) := by
  rw [hdv_some (k := k + v) (by omega) (by simp [fval, hv])]; simp [dof, hv]
theorem hdv_bytes_none {f : Int} {l : List Int} (hv : bsz l = none) : hdv f 2 l = .bad := hdv_none (by omega) (by simp [fval, hv])
theorem hdv_8 {f : Int} {l : List Int} (h : 8 ≤ l.length) : hdv f 1 l = .fld ⟨f, 1, 0, []⟩ (l.drop 8) := by
  rw [hdv_some (k := 8) (by omega) (by simp [fval, h])]; simp
theorem hdv_8_none {f : Int} {l : List Int} (h : l.length < 8) : hdv f 1 l = .bad := hdv_none (by omega) (by simp [fval]; omega)
theorem hdv_4 {f : Int} {l : List Int} (h : 4 ≤ l.length) : hdv f 5 l = .fld ⟨f, 5, 0, []⟩ (l.drop 4) := by
  rw [hdv_some (k := 4) (by omega) (by simp [fval, h])]; simp
theorem hdv_4_none {f : Int} {l : List Int} (h : l.length < 4) : hdv f 5 l = .bad := hdv_none (by omega) (by simp [fval]; omega)
/-- The fields of a message. -/
inductive Res where
  | bad
  | opn
  | ok (fs : List Fld)
def Res.put (f : Fld) : Res → Res
  | .ok fs => .ok (f :: fs)
  | r => r
def Res.pre (p : List Fld) : Res → Res
  | .ok fs => .ok (p ++ fs)
  | r => r
def wfN : Nat → List Int → Res
  | 0, _ => .ok []
  | k + 1, l => match l with
    | [] => .ok []
    | l => match hd l with
      | .bad => .bad
      | .opn => .opn
      | .fld f r => (wfN k r).put f
def wf (l : List Int) : Res := wfN l.length l

theorem bsz_len {l : List Int} (hb : Byt l) {v k : Int} (h : bsz l = some (v, k)) : (bval l v k).length = v.toNat := by
  obtain ⟨h0, h1, h2, _⟩ := bsz_some hb h
  unfold bval
  rw [List.length_take, List.length_drop]
  omega
theorem hd_fld {l : List Int} (hb : Byt l) {f : Fld} {r : List Int} (h : hd l = .fld f r) :
    ∃ n k : Int, tag l = some (f.num, f.kind, n) ∧ f.num ≤ 536870911 ∧ 1 ≤ f.num ∧ 0 ≤ f.kind ∧ f.kind < 8 ∧ f.kind ≠ 3 ∧ f.kind ≠ 4 ∧ fval f.kind (l.drop n.toNat) = some k ∧ r = (l.drop n.toNat).drop k.toNat ∧
      f.val = (if f.kind = 0 then vof (l.drop n.toNat) else 0) ∧ f.data = (if f.kind = 2 then dof (l.drop n.toNat) else []) ∧ 1 ≤ n ∧ n ≤ l.length ∧ 1 ≤ k ∧ k ≤ l.length - n := by
  unfold hd at h
  split at h
  · cases h
  · rename_i f' t n htag
    obtain ⟨a1, a2, a3, a4, a5, a6, _⟩ := tag_some hb htag
    split at h
    · cases h
    · rename_i hf
      unfold hdv at h
      split at h
      · cases h
      · rename_i ht
        split at h
        · cases h
        · rename_i k hk
          have := fval_le (hb.drop _) hk
          rw [List.length_drop] at this
          injection h with h1 h2
          subst h1
          exact ⟨n, k, htag, Int.not_lt.1 hf, a1, a3, a4, fun h => ht (.inl h), fun h => ht (.inr h), hk, h2.symm, rfl, rfl, by omega, by omega, by omega, by omega⟩
theorem hd_short {l : List Int} (hb : Byt l) {f : Fld} {r : List Int} (h : hd l = .fld f r) : r.length < l.length ∧ Byt r := by
  obtain ⟨n, k, _, _, _, _, _, _, _, _, rfl, _, _, h1, h2, h3, h4⟩ := hd_fld hb h
  exact ⟨by rw [List.length_drop, List.length_drop]; omega, (hb.drop _).drop _⟩
theorem wfN_more : ∀ (k : Nat) (l : List Int), Byt l → l.length ≤ k → wfN (k + 1) l = wfN k l
  | 0, l, _, h => by
    obtain rfl : l = [] := List.eq_nil_of_length_eq_zero (by omega)
    rfl
  | k + 1, l, hb, h => by
    cases l with
    | nil => rfl
    | cons c l =>
      show (match hd (c :: l) with | .bad => Res.bad | .opn => .opn | .fld f r => (wfN (k + 1) r).put f) = (match hd (c :: l) with | .bad => Res.bad | .opn => .opn | .fld f r => (wfN k r).put f)
      cases hh : hd (c :: l) with
      | bad => rfl
      | opn => rfl
      | fld f r =>
        have := hd_short hb hh
        simp only
        rw [wfN_more k r this.2 (by have := this.1; simp at this h; omega)]
theorem wfN_any (l : List Int) (hb : Byt l) : ∀ j, wfN (l.length + j) l = wf l
  | 0 => rfl
  | j + 1 => by rw [← wfN_any l hb j]; exact wfN_more (l.length + j) l hb (by omega)
theorem wf_nil : wf [] = .ok [] := rfl
theorem wf_eq {l : List Int} (hb : Byt l) (h0 : 0 < l.length) : wf l = match hd l with
    | .bad => Res.bad
    | .opn => .opn
    | .fld f r => (wf r).put f := by
  cases l with
  | nil => simp at h0
  | cons c l =>
    show (match hd (c :: l) with | .bad => Res.bad | .opn => .opn | .fld f r => (wfN l.length r).put f) = _
    cases hh : hd (c :: l) with
    | bad => rfl
    | opn => rfl
    | fld f r =>
      have := hd_short hb hh
      simp only
      have hl : r.length ≤ l.length := by have := this.1; simp at this; omega
      have := wfN_any r this.2 (l.length - r.length)
      rw [show r.length + (l.length - r.length) = l.length from by omega] at this
      rw [this]
theorem Res.pre_nil (r : Res) : r.pre [] = r := by cases r <;> rfl
theorem Res.pre_put (p : List Fld) (f : Fld) (r : Res) : (r.put f).pre p = r.pre (p ++ [f]) := by cases r <;> simp [Res.put, Res.pre]
/-- From a part of a message on: what the whole has. -/
def From (l : List Int) (p : List Fld) (l' : List Int) : Prop := wf l = (wf l').pre p
theorem From.start (l : List Int) : From l [] l := (Res.pre_nil _).symm
theorem From.step {l l' r : List Int} {p : List Fld} {f : Fld} (h : From l p l') (hb : Byt l') (h0 : 0 < l'.length) (hh : hd l' = .fld f r) : From l (p ++ [f]) r := by
  unfold From at *
  rw [h, wf_eq hb h0, hh, Res.pre_put]
theorem From.bad {l l' : List Int} {p : List Fld} (h : From l p l') (hb : Byt l') (h0 : 0 < l'.length) (hh : hd l' = .bad) : wf l = .bad := by
  unfold From at h; rw [h, wf_eq hb h0, hh]; rfl
theorem From.opn {l l' : List Int} {p : List Fld} (h : From l p l') (hb : Byt l') (h0 : 0 < l'.length) (hh : hd l' = .opn) : wf l = .opn := by
  unfold From at h; rw [h, wf_eq hb h0, hh]; rfl
theorem From.done {l : List Int} {p : List Fld} (h : From l p []) : wf l = .ok p := by
  unfold From at h; rw [h, wf_nil]; simp [Res.pre]
end Go.Proofs.YthdbchahmbcfeaaDoor
