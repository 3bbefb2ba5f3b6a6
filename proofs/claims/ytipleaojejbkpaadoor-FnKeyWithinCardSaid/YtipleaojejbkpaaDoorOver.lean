/- The reference's key: over, KeyOf. -/
import Derived.Test.YtipleaojejbkpaaDoorFields
import Derived.Test.YtipleaojejbkpaaDoorKeyE
namespace Go.Proofs.YtipleaojejbkpaaDoor
open Go Go.RowKit
set_option linter.unusedVariables false
set_option linter.unusedSimpArgs false
set_option maxRecDepth 100000

/-- The reference's key in memory: what its cells tell. -/
structure SK (w : World) (S : Nat → Prop) (k : Int) (sl : Value) (ik h : Bool) (st : KS) : Prop where
  ik : ik = st.1.isSome
  h : h = st.2.isSome
  kv : ∀ x, st.1 = some x → k = x
  kr : -2147483648 ≤ k ∧ k ≤ 2147483647
  dt : ∃ A n c, sl = .slice A n c ∧ Out S A ∧ ∀ d, st.2 = some d → n = d.length ∧ Rd w A d.length c d
theorem SK.keep {w w' : World} {S R : Nat → Prop} {k : Int} {sl : Value} {ik h : Bool} {st : KS} (hs : SK w S k sl ik h st) (hk : Kp R w w') (hr : ∀ i, R i → S i) : SK w' S k sl ik h st := by
  obtain ⟨a, b, c, d, A, n, cc, e1, e2, e3⟩ := hs
  exact ⟨a, b, c, d, A, n, cc, e1, e2, fun x hx => ⟨(e3 x hx).1, (e3 x hx).2.keep hk (fun q hq hR => e2 q hq (hr _ hR))⟩⟩

theorem fs_take (xs : List FM) (st : KS) (i : Nat) (h : i < xs.length) : ((xs.take (i + 1)).map (·.f)).foldl kstep st = kstep (((xs.take i).map (·.f)).foldl kstep st) xs[i].f := by
  rw [List.take_succ_eq_append_getElem h, List.map_append, List.foldl_append]; rfl
theorem FRd.keep {w w' : World} {R : Nat → Prop} {A : Option Addr} {n c : Nat} {xs : List FM} (h : FRd w A n c xs) (k : Kp R w w') (ho : Out R A) (hx : ∀ x ∈ xs, Out R x.A) : FRd w' A n c xs :=
  ⟨h.len, h.cap, h.max, fun hp => by
    obtain ⟨g, rfl, hc⟩ := h.at_ hp
    refine ⟨g, rfl, fun i j hj hi => ?_⟩
    have := hc i j hj hi
    have hs : ∃ u, (xs[i].cells)[j]? = some u := by
      have : j < (xs[i].cells).length := hj
      exact ⟨_, List.getElem?_eq_getElem this⟩
    obtain ⟨u, hu⟩ := hs
    rw [hu] at this ⊢
    exact k.cell this (by have := ho _ rfl; exact this), fun x hxm => (h.rd x hxm).keep k (hx x hxm)⟩

structure OvRel (w : World) (S : Nat → Prop) (g : Nat) (T : TypeId) (A1 : Option Addr) (c1 : Nat) (xs : List FM) (st : KS) (i : Nat) (k : Int) (sl : Value) (ik h : Bool) (wr : World) : Prop where
  le : i ≤ xs.length
  kp : Kp (· = g) w wr
  blk : Blk wr g #[.int .i32 k, sl, .bool ik, .bool h] T
  sk : SK wr S k sl ik h (((xs.take i).map (·.f)).foldl kstep st)
  frd : FRd wr A1 xs.length c1 xs
theorem kstep_1 (st : KS) (f : Fld) (h1 : f.num = 1) (h2 : f.kind = 0) : kstep st f = (some (IntKind.i32.wrap f.val), st.2) := by unfold kstep; rw [if_pos ⟨h1, h2⟩]
theorem kstep_2 (st : KS) (f : Fld) (h1 : f.num = 2) (h2 : f.kind = 2) : kstep st f = (st.1, some f.data) := by unfold kstep; rw [if_neg (by omega), if_pos ⟨h1, h2⟩]
theorem kstep_0 (st : KS) (f : Fld) (h1 : ¬ (f.num = 1 ∧ f.kind = 0)) (h2 : ¬ (f.num = 2 ∧ f.kind = 2)) : kstep st f = st := by unfold kstep; rw [if_neg h1, if_neg h2]

/-- How over ends. -/
def OvO (w : World) (S : Nat → Prop) (g : Nat) (T : TypeId) (l : List Int) (st : KS) (e : Ending) (w' : World) : Prop := Kp (· = g) w w' ∧
  (∃ k sl ik h st', Blk w' g #[.int .i32 k, sl, .bool ik, .bool h] T ∧ SK w' S k sl ik h st' ∧ match wf l with
  | .ok fs => e = .returned (.tuple #[.bool true, .bool false]) ∧ st' = fs.foldl kstep st
  | .bad => e = .returned (.tuple #[.bool false, .bool false])
  | .opn => e = .returned (.tuple #[.bool false, .bool true]))
theorem OvO.mk' {w w' : World} {S : Nat → Prop} {g : Nat} {T : TypeId} {l : List Int} {st st' : KS} {e : Ending} {k : Int} {sl : Value} {ik h : Bool} (hk : Kp (· = g) w w') (hb : Blk w' g #[.int .i32 k, sl, .bool ik, .bool h] T) (hs : SK w' S k sl ik h st')
    (hm : match wf l with
      | .ok fs => e = .returned (.tuple #[.bool true, .bool false]) ∧ st' = fs.foldl kstep st
      | .bad => e = .returned (.tuple #[.bool false, .bool false])
      | .opn => e = .returned (.tuple #[.bool false, .bool true])) : OvO w S g T l st e w' := ⟨hk, k, sl, ik, h, st', hb, hs, hm⟩

set_option maxHeartbeats 4000000 in
theorem sOver_calls {w : World} {A : Option Addr} {n c : Nat} {l : List Int} (h : Rd w A n c l) (hn : n ≤ 1099511627776) (hlo : Lo w.heap.size A)
    (S : Nat → Prop) (g : Nat) (T : TypeId) (hSg : S g) (k : Int) (sl : Value) (ik hh : Bool) (st : KS) (hb : Blk w g #[.int .i32 k, sl, .bool ik, .bool hh] T) (hs : SK w S k sl ik hh st) (ho : Out S A) :
    Calls Tryd.prog 52 #[.pointer (some ⟨g, 0, none⟩), .slice A n c] w (OvO w S g T l st) := by
  have D := Lib.hid (sFields_calls h hn hlo)
  go_enter Tryd.func52, Tryd.ntmps52
  go_wp2_with fail
  refine D.out.mono ?_
  rintro e w1 ⟨hk1, hm⟩
  have hb1 := hb.keepN hk1
  have hs1 := hs.keep hk1 (fun _ h => h.elim)
  have hlt := hb.lt
  cases hw : wf l with
  | bad =>
    rw [hw] at hm
    obtain rfl := hm
    have F := Lib.hid (OvO.mk' (l := l) (st := st) (e := .returned (.tuple #[.bool false, .bool false])) (hk1.mono (fun i _ h => h.elim)) hb1 hs1 (by rw [hw]))
    clear hw
    go_wp2
    go_loopw [17] (fun i wr => i = .int .i64 0 ∧ wr = w1) (fun i _ => 0)
    case atStart => exact ⟨rfl, rfl⟩
    case round =>
      obtain ⟨rfl, rfl⟩ := hrel
      go_wp2
      go_ret2
      exact F.out
  | opn =>
    rw [hw] at hm
    obtain rfl := hm
    have F := Lib.hid (OvO.mk' (l := l) (st := st) (e := .returned (.tuple #[.bool false, .bool true])) (hk1.mono (fun i _ h => h.elim)) hb1 hs1 (by rw [hw]))
    clear hw
    go_wp2
    go_loopw [17] (fun i wr => i = .int .i64 0 ∧ wr = w1) (fun i _ => 0)
    case atStart => exact ⟨rfl, rfl⟩
    case round =>
      obtain ⟨rfl, rfl⟩ := hrel
      go_wp2
      go_ret2
      exact F.out
  | ok fs =>
    rw [hw] at hm
    obtain ⟨A1, c1, xs, rfl, hR, rfl, hX, hnew⟩ := hm
    have HX := Lib.hid hX
    clear hX
    have HN := Lib.hid hnew
    clear hnew
    have HW := Lib.hid hw
    clear hw
    have HI : OvRel w S g T A1 c1 xs st 0 k sl ik hh w1 := ⟨by omega, hk1.mono (fun i _ h => h.elim), hb1, by simpa using hs1, hR⟩
    have hcap := hR.cap
    have hmx := hR.max
    clear hR hb1 hs1 hb hs
    go_wp2
    go_loopw [17] (fun iv wr => ∃ i k sl ik h, iv = .int .i64 (i : Nat) ∧ OvRel w S g T A1 c1 xs st i k sl ik h wr) (fun iv _ => xs.length - (intOf iv).toNat)
    case atStart => exact ⟨0, k, sl, ik, hh, rfl, HI⟩
    case round =>
      obtain ⟨i, k', sl', ik', h', rfl, hle, hk, hbk, hsk, hf⟩ := hrel
      by_cases hi : i < xs.length
      · obtain ⟨ga, rfl, hc⟩ := hf.at_ (by omega)
        have hga : ¬ ga = g := by have := HN.out _ rfl; simp only at this; omega
        have hx := hf.rd xs[i] (List.getElem_mem hi)
        have hxo : ∀ x ∈ xs, Out S x.A := fun x hx => HX.out x hx _ ho
        have f0 := hc i 0 (by omega) hi
        have f1 := hc i 1 (by omega) hi
        have f2 := hc i 2 (by omega) hi
        have f3 := hc i 3 (by omega) hi
        clear hc
        have hft := fs_take xs st i hi
        generalize hxs : xs[i] = x at *
        simp only [FM.cells, List.getElem?_cons_zero, List.getElem?_cons_succ, Nat.add_zero] at f0 f1 f2 f3
        have hii : (i : Int) < (xs.length : Int) := by omega
        have b0 := hbk.cell 0
        have b1 := hbk.cell 1
        have b2 := hbk.cell 2
        have b3 := hbk.cell 3
        have bf := hbk.free
        have hltr := hbk.lt
        by_cases hA : x.f.num = 1 ∧ x.f.kind = 0
        · obtain ⟨hA1, hA2⟩ := hA
          have hks := kstep_1 (List.foldl kstep st (List.map (fun x => x.f) (List.take i xs))) x.f hA1 hA2
          rw [hA1] at f0
          rw [hA2] at f1
          go_wp2
          go_roundw
          case rel =>
            have kA : Kp (· = g) wr (((wr.setCell ⟨g, 0, none⟩ (.int .i32 (wrap32 x.f.val))).setCell ⟨g, 2, none⟩ (.bool true)).alloc (.cells #[.int .u64 1, .int .u64 0, .int .u64 x.f.val, .slice x.A x.f.data.length x.c] 109)) :=
              (((Kp.refl (· = g) wr).setCell (p := ⟨g, 0, none⟩) (fun _ => rfl) _).setCell (p := ⟨g, 2, none⟩) (fun _ => rfl) _).alloc _
            have hs3 := hsk.keep kA (fun i h => h ▸ hSg)
            refine ⟨i + 1, wrap32 x.f.val, sl', true, h', rfl, by omega, hk.trans kA (fun _ _ h => h), ((hbk.set 0 _).set 2 _).alloc _, ?_, hf.keep kA (fun a ha => by cases ha; exact hga) (fun y hy q hq hqg => hxo y hy q hq (hqg ▸ hSg))⟩
            rw [hft, hks]
            exact ⟨rfl, hs3.h, fun y hy => by rw [← IntWalk.i32_left]; exact Option.some.inj hy, by unfold wrap32; omega, hs3.dt⟩
          case measure => simp [intOf]; omega
        · by_cases hB : x.f.num = 2 ∧ x.f.kind = 2
          · obtain ⟨hA1, hA2⟩ := hB
            have hks := kstep_2 (List.foldl kstep st (List.map (fun x => x.f) (List.take i xs))) x.f hA1 hA2
            rw [hA1] at f0
            rw [hA2] at f1
            clear hA
            go_wp2
            go_roundw
            case rel =>
              have kA : Kp (· = g) wr (((wr.setCell ⟨g, 1, none⟩ (.slice x.A x.f.data.length x.c)).setCell ⟨g, 3, none⟩ (.bool true)).alloc (.cells #[.int .u64 2, .int .u64 2, .int .u64 x.f.val, .slice x.A x.f.data.length x.c] 109)) :=
                (((Kp.refl (· = g) wr).setCell (p := ⟨g, 1, none⟩) (fun _ => rfl) _).setCell (p := ⟨g, 3, none⟩) (fun _ => rfl) _).alloc _
              have hs3 := hsk.keep kA (fun i h => h ▸ hSg)
              have hxm := hxo x (hxs ▸ List.getElem_mem hi)
              refine ⟨i + 1, k', _, ik', true, rfl, by omega, hk.trans kA (fun _ _ h => h), ((hbk.set 1 _).set 3 _).alloc _, ?_, hf.keep kA (fun a ha => by cases ha; exact hga) (fun y hy q hq hqg => hxo y hy q hq (hqg ▸ hSg))⟩
              rw [hft, hks]
              exact ⟨hs3.ik, rfl, hs3.kv, hs3.kr, x.A, _, x.c, rfl, hxm, fun d hd => by obtain rfl := Option.some.inj hd; exact ⟨rfl, hx.keep kA (fun q hq hqg => hxm q hq (hqg ▸ hSg))⟩⟩
            case measure => simp [intOf]; omega
          · have hks := kstep_0 (List.foldl kstep st (List.map (fun x => x.f) (List.take i xs))) x.f hA hB
            have hsplit : (x.f.num = 1 ∧ ¬ x.f.kind = 0) ∨ (x.f.num = 2 ∧ ¬ x.f.kind = 2) ∨ (¬ x.f.num = 1 ∧ ¬ x.f.num = 2) := by omega
            clear hA hB
            rcases hsplit with ⟨hx1, hx2⟩ | ⟨hx1, hx2⟩ | ⟨hx1, hx2⟩
            all_goals
              try rw [hx1] at f0
              go_wp2
              go_roundw
              case rel =>
                refine ⟨i + 1, k', sl', ik', h', rfl, by omega, hk.trans ((Kp.refl _ _).alloc _) (fun _ _ h => h), hbk.alloc _, ?_, hf.keepN ((Kp.refl _ _).alloc _)⟩
                rw [hft, hks]
                exact hsk.keep ((Kp.refl no _).alloc _) (fun i h => h.elim)
              case measure => simp [intOf]; omega
      · have hsk2 : SK wr S k' sl' ik' h' (List.foldl kstep st (List.map (fun x => x.f) xs)) := by
          have : i = xs.length := by omega
          rw [this, List.take_length] at hsk
          exact hsk
        have F := Lib.hid (OvO.mk' (S := S) (l := l) (st := st) (e := .returned (.tuple #[.bool true, .bool false])) hk hbk hsk2 (by rw [HW.out]; exact ⟨rfl, rfl⟩))
        have hii : ¬ (i : Int) < (xs.length : Int) := by omega
        clear hsk hf hsk2
        go_wp2
        go_ret2
        exact F.out
end Go.Proofs.YtipleaojejbkpaaDoor
