/- The reference's KeyOf. -/
import Derived.Test.YtipleaojejbkpaaDoorOver
namespace Go.Proofs.YtipleaojejbkpaaDoor
open Go Go.RowKit
set_option linter.unusedVariables false
set_option linter.unusedSimpArgs false
set_option maxRecDepth 100000

theorem results_tmp4 {fn : Func} {t u v x : Tmp} (h : fn.results = #[.tmp t, .tmp u, .tmp v, .tmp x]) (tmps : Array Value) (P : Program) (w : World) :
    (results fn tmps).run P w = .ok (.tuple #[tmps.getD t undef, tmps.getD u undef, tmps.getD v undef, tmps.getD x undef]) w := by
  simp [results, h]
/-- What the reference tells of a key. -/
def SRes (l : List Int) (k : Int) (d : List Int) (ok opn : Bool) : Prop := match wf l with
  | .ok fs => opn = false ∧ (if okS (kall fs) then ok = true ∧ kall fs = (some k, some d) else ok = false)
  | .bad => ok = false ∧ opn = false
  | .opn => opn = true
def SKO (w : World) (l : List Int) (e : Ending) (w' : World) : Prop :=
  Kp no w w' ∧ ∃ k A c d ok opn, e = .returned (.tuple #[.int .i32 k, .slice A d.length c, .bool ok, .bool opn]) ∧ Rd w' A d.length c d ∧ -2147483648 ≤ k ∧ k ≤ 2147483647 ∧ SRes l k d ok opn
theorem SKO.nope {w w' : World} {l : List Int} {opn : Bool} (hk : Kp no w w') (hm : SRes l 0 [] false opn) : SKO w l (.returned (.tuple #[.int .i32 0, .slice none 0 0, .bool false, .bool opn])) w' :=
  ⟨hk, 0, none, 0, [], false, opn, rfl, Rd.nil _, by omega, by omega, hm⟩

theorem sKeyOf_calls {w : World} {A : Option Addr} {n c : Nat} {l : List Int} (h : Rd w A n c l) (hn : n ≤ 1099511627776) (hlo : Lo w.heap.size A) :
    Calls Tryd.prog 20 #[.slice A n c] w (SKO w l) := by
  have k1 : Kp no w (w.alloc (.cells #[.int .i32 0, .slice none 0 0, .bool false, .bool false] 81)) := (Kp.refl _ _).alloc _
  have hb := Blk.new w #[.int .i32 0, .slice none 0 0, .bool false, .bool false] 81
  have D := Lib.hid (sOver_calls (h.keepN k1) hn (fun a ha => by have := hlo a ha; simp; omega) (· = w.heap.size) w.heap.size _ rfl 0 (.slice none 0 0) false false (none, none) hb
    ⟨rfl, rfl, (fun _ h => by cases h), by omega, none, 0, 0, rfl, Out.none _, (fun _ h => by cases h)⟩ (fun a ha hq => by have := hlo a ha; omega))
  go_enter Tryd.func20, Tryd.ntmps20
  go_wp2_with (fail)
  refine D.out.mono ?_
  rintro e w2 ⟨hk2, k, sl, ik, hh, st, hb2, hs, hm⟩
  have k2 : Kp no w w2 := k1.trans hk2 (fun i hi h => by omega)
  have c0 := hb2.cell 0
  have c1 := hb2.cell 1
  have c2 := hb2.cell 2
  have c3 := hb2.cell 3
  cases hw : wf l with
  | bad =>
    rw [hw] at hm
    obtain rfl := hm
    have F := Lib.hid (SKO.nope (l := l) (opn := false) k2 (by unfold SRes; rw [hw]; exact ⟨rfl, rfl⟩))
    clear hw
    go_wp2
    (try simp only [Exit.inBlock, Exit.then]); refine bodyPost_ret (results_tmp4 rfl _ _ _) rfl ?_
    exact F.out
  | opn =>
    rw [hw] at hm
    obtain rfl := hm
    have F := Lib.hid (SKO.nope (l := l) (opn := true) k2 (by unfold SRes; rw [hw]))
    clear hw
    go_wp2
    (try simp only [Exit.inBlock, Exit.then]); refine bodyPost_ret (results_tmp4 rfl _ _ _) rfl ?_
    exact F.out
  | ok fs =>
    rw [hw] at hm
    obtain ⟨rfl, hst⟩ := hm
    obtain ⟨hik, hhh, hkv, hkr, A2, n2, cc2, rfl, hA2, hd⟩ := hs
    obtain ⟨s1, s2⟩ := st
    cases s1 with
    | none =>
      simp only [Option.isSome_none] at hik
      subst hik
      have F := Lib.hid (SKO.nope (l := l) (opn := false) k2 (by
        unfold SRes; rw [hw]; refine ⟨rfl, ?_⟩
        rw [if_neg]
        unfold kall; rw [← hst]; simp [okS]))
      clear hw hst
      go_wp2
      (try simp only [Exit.inBlock, Exit.then]); refine bodyPost_ret (results_tmp4 rfl _ _ _) rfl ?_
      exact F.out
    | some x =>
      simp only [Option.isSome_some] at hik
      subst hik
      cases s2 with
      | none =>
        simp only [Option.isSome_none] at hhh
        subst hhh
        have F := Lib.hid (SKO.nope (l := l) (opn := false) k2 (by
          unfold SRes; rw [hw]; refine ⟨rfl, ?_⟩
          rw [if_neg]
          unfold kall; rw [← hst]; simp [okS]))
        clear hw hst
        go_wp2
        (try simp only [Exit.inBlock, Exit.then]); refine bodyPost_ret (results_tmp4 rfl _ _ _) rfl ?_
        exact F.out
      | some d =>
        simp only [Option.isSome_some] at hhh
        subst hhh
        obtain ⟨rfl, hR⟩ := hd d rfl
        obtain rfl := hkv x rfl
        have F := Lib.hid (show ∀ m, SKO w l (.returned (.tuple #[.int .i32 k, .slice A2 d.length cc2, .bool true, .bool false])) (w2.drewN m) from fun m => ⟨k2.drewN m, k, A2, cc2, d, true, false, rfl, hR.keepN ((Kp.refl _ _).drewN m), hkr.1, hkr.2, by
          unfold SRes; rw [hw]; refine ⟨rfl, ?_⟩
          have e1 : kall fs = (some k, some d) := by unfold kall; exact hst.symm
          rw [if_pos (by rw [e1]; rfl)]
          exact ⟨rfl, e1⟩⟩)
        clear hw hst
        go_wp2_with (fail)
        go_quiet (fail)
        all_goals
          go_wp2
          (try simp only [Exit.inBlock, Exit.then]); refine bodyPost_ret (results_tmp4 rfl _ _ _) rfl ?_
          exact F.out _
end Go.Proofs.YtipleaojejbkpaaDoor
