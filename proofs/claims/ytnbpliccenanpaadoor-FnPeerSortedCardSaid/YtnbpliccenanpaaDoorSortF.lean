/- slices.SortFunc of lists of bytes, by bytes.Compare. -/
import Derived.Test.YtnbpliccenanpaaDoorVEq
import Derived.Test.YtnbpliccenanpaaDoorShelfB
import Derived.Shelf.SlSortCmp.Whole1
namespace Go.Proofs.YtnbpliccenanpaaDoor
open Go Go.RowKit Go.Sort
set_option linter.unusedVariables false
set_option linter.unusedSimpArgs false
set_option maxRecDepth 100000

abbrev El (w : World) (v : Value) : Type := { p : Value × List UInt8 // ElAt w v p.1 (un8 p.2) }
def El.enc {w : World} {v : Value} (p : El w v) : Value := p.1.1
def El.cmp {w : World} {v : Value} (p q : El w v) : Int := Lib.compareBytes p.1.2 q.1.2
theorem El.lt {w : World} {v : Value} : ltOf (El.cmp (w := w) (v := v)) = fun x y => ltStr x.1.2 y.1.2 := by
  funext x y
  exact compare_ltStr _ _
theorem El.swo {w : World} {v : Value} : SWO (ltOf (El.cmp (w := w) (v := v))) := by
  rw [El.lt]
  exact ⟨fun x => swo_ltStr.irrefl _, fun x y z => swo_ltStr.trans _ _ _, fun x y z => swo_ltStr.ntrans _ _ _⟩
theorem ElAt.byt {w : World} {v u : Value} {l : List Int} (h : ElAt w v u l) : Byt l := by
  obtain ⟨A, c, _, hr, _⟩ := h
  exact hr.byt

theorem insSort_none (A : Option Addr) (c : Nat) (fv : Value) (w : World) :
    Calls Tryd.prog 67 #[.slice A 0 c, .int .i64 0, .int .i64 0, fv] w fun e w' => e = .returned (.tuple #[]) ∧ w' = w := by
  go_enter Tryd.func67, Tryd.ntmps67
  go_wp2
  go_loopw [8] (fun iv wr => iv = .int .i64 1 ∧ wr = w) (fun iv _ => 0)
  case atStart => exact ⟨rfl, rfl⟩
  case round =>
    obtain ⟨rfl, rfl⟩ := hrel
    go_wp2
    go_end0
    exact ⟨rfl, rfl⟩
theorem pdq_none (A : Option Addr) (c : Nat) (lim : Int) (fv : Value) (w : World) :
    Calls Tryd.prog 49 #[.slice A 0 c, .int .i64 0, .int .i64 0, .int .i64 lim, fv] w fun e w' => e = .returned (.tuple #[]) ∧ w' = w := by
  have D := Lib.hid (insSort_none A c fv w)
  go_enter Tryd.func49, Tryd.ntmps49
  go_wp2
  go_loopw [1, 2] (fun x y wr => x = .int .i64 0 ∧ y = .int .i64 0 ∧ wr = w) (fun _ _ _ => 0)
  case atStart => exact ⟨rfl, rfl, rfl⟩
  case round =>
    obtain ⟨rfl, rfl, rfl⟩ := hrel
    go_wp2_with (first | (go_at_call 67; refine D.out.mono ?_; rintro e w7 ⟨rfl, rfl⟩))
    refine bodyPost_ret (results_none rfl _ _ _) rfl ?_
    exact ⟨rfl, rfl⟩
theorem SortFunc_none (A : Option Addr) (c : Nat) (fv : Value) (w : World) (hc : c ≤ 9223372036854775807) :
    Calls Tryd.prog 30 #[.slice A 0 c, fv] w fun e w' => e = .returned (.tuple #[]) ∧ w' = w := by
  have hl : Calls Tryd.prog 50 #[.int .u64 0] w fun e w' => e = .returned (.int .i64 (Lib.bitLen 0 : Nat)) ∧ w' = w :=
    Any.bits_Len (SlLaysF0.n15.bits (P := Tryd.prog) (ρ := Tryd.laysSl30_ren) { Tryd.laysSl30 with }) 0 w (by omega) (by omega)
  have D := Lib.hid hl
  have D2 := Lib.hid (pdq_none A c (Lib.bitLen 0 : Nat) fv w)
  go_enter Tryd.func30, Tryd.ntmps30
  go_wp2_with (first
    | (go_at_call 50; refine D.out.mono ?_; rintro e w7 ⟨rfl, rfl⟩)
    | (go_at_call 49; refine D2.out.mono ?_; rintro e w7 ⟨rfl, rfl⟩))
  go_end0
  exact ⟨rfl, rfl⟩

theorem SortFunc_calls {w : World} {B : Nat} {v : Value} {L : List (List Int)} (h : VS w B v L) (hl : L.length ≤ 1000000) :
    Calls Tryd.prog 30 #[v, .func (.func 24) #[] #[]] w fun e w' => e = .returned (.tuple #[]) ∧ VS w' B v (sortB L) ∧ Kp (Of v) w w' := by
  obtain ⟨us, ho, hul, he⟩ := h.ex
  obtain ⟨A, c, rfl, h1, h2, h3⟩ := ho.form
  rcases Nat.eq_zero_or_pos us.length with h0 | h0
  · have hL : L = [] := List.eq_nil_of_length_eq_zero (by omega)
    subst hL
    rw [h0]
    have hs := SortFunc_none A c (.func (.func 24) #[] #[]) w h2
    refine hs.mono fun e w' ⟨he1, hw⟩ => ?_
    subst hw
    rw [h0] at h
    exact ⟨he1, by simpa [sortB] using h, Kp.refl _ _⟩
  · obtain ⟨g, rfl, hc⟩ := h3 h0
    obtain ⟨V, hV⟩ : ∃ V, V = Value.slice (some ⟨g, 0, none⟩) us.length c := ⟨_, rfl⟩
    rw [← hV] at he ho
    have hVV : ∀ (W : World) (x : List Value), VOwn W 22 B (.slice (some ⟨g, 0, none⟩) us.length c) x → VOwn W 22 B V x := fun W x h => by rw [hV]; exact h
    have hVg : Of V g := by rw [hV]; rfl
    let mk : _root_.Fin us.length → El w V := fun i => ⟨(us[i.1], by8 (L.getD i.1 [])), by
      have := he i.1 i.2
      show ElAt w V us[i.1] (un8 (by8 (L.getD i.1 [])))
      rw [un8_by8 this.byt]; exact this⟩
    letI : Inhabited (El w V) := ⟨mk ⟨0, h0⟩⟩
    have hle : (List.ofFn mk).length = us.length := by simp
    have e1 : (List.ofFn mk).map El.enc = us := by
      apply List.ext_getElem (by simp)
      intro i a b
      simp [El.enc, mk]
    have e2 : (List.ofFn mk).map (fun p => p.1.2) = L.map by8 := by
      apply List.ext_getElem (by simp [hul])
      intro i a b
      simp at b
      simp [mk, List.getD_eq_getElem?_getD, List.getElem?_eq_getElem b]
    have hO : VOwn w 22 B (.slice (some ⟨g, 0, none⟩) us.length c) ((List.ofFn mk).map El.enc) := by rw [e1, ← hV]; exact ho
    have hH := hO.holds El.enc
    have hblk : g < w.heap.size := (hO.base g rfl).2
    have hs := Any.slices_SortFunc Tryd.laysSl30 (El.enc (w := w) (v := V)) (fun x => by
        obtain ⟨A', c', hx, _⟩ := x.2
        show Value.oneCell' x.1.1 = true
        rw [hx]; rfl) El.cmp El.swo 24 #[] g 0 c (List.ofFn mk).toArray w
      (enters_of Tryd.func24 (by kernel_rfl) rfl)
      (fun m os dk hsz x y => by
        have kk := (Kp.sortW El.enc w g m dk os).mono (S' := Of V) fun i _ hi => by rw [hi]; exact hVg
        obtain ⟨A1, c1, hx1, hr1, hn1⟩ := x.2
        obtain ⟨A2, c2, hx2, hr2, hn2⟩ := y.2
        have r1 := hr1.keep kk (fun a ha hh => (hn1 a ha).2 hh)
        have r2 := hr2.keep kk (fun a ha hh => (hn2 a ha).2 hh)
        have hcc := Compare_calls r1 r2
        rw [← hx1, ← hx2, by8_un8, by8_un8] at hcc
        refine hcc.mono fun e w' ⟨h1, h2⟩ => ⟨h1, 0, #[], ?_⟩
        rw [h2, grow_empty]
        rfl) hH hblk (by simp; omega)
    have hsz0 : (List.ofFn mk).toArray.size = us.length := by simp
    rw [hsz0] at hs
    change Calls Tryd.prog 30 #[.slice (some ⟨g, 0, none⟩) us.length c, .func (.func 24) #[] #[]] w _ at hs
    refine hs.mono fun e w' ⟨he', d', m, os, hP, hS, hw⟩ => ?_
    obtain ⟨hsz, hperm⟩ := permIn_toList (d := (List.ofFn mk).toArray) (by rw [hsz0]; exact hP)
    have hsz' : d'.size = us.length := by simpa using hsz
    have hm : d'.toList.map (fun p => p.1.2) = (L.map by8).mergeSort leB := by
      refine sorted_is (by rw [← e2]; simpa using hperm.map _) ?_
      rw [List.pairwise_map]
      refine (sortedIn_pairwise (by rw [hsz, hsz0]; exact hS)).imp fun {x y} hxy => ?_
      rw [El.lt] at hxy
      simp [leB, hxy]
    have kk := (Kp.sortW El.enc w g m d' os).mono (S' := Of V) fun i _ hi => by rw [hi]; exact hVg
    have hw' : w' = sortWorld El.enc w g 0 m d' os := by simpa using hw
    rw [← hV, hw']
    refine ⟨he', ⟨d'.toList.map El.enc, ?_, by simp [sortB_length, hsz', hul], fun j hj => ?_⟩, kk⟩
    · exact hVV _ _ (hO.sorted El.enc m d' os (by simpa using hsz'))
    · have hj' : j < d'.toList.length := by simpa using hj
      have hel := (d'.toList[j]).2
      have : (sortB L).getD j [] = un8 (d'.toList[j]).1.2 := by
        unfold sortB
        rw [← hm, List.map_map, List.getD_eq_getElem?_getD, List.getElem?_map, List.getElem?_eq_getElem hj']
        rfl
      rw [this, List.getElem_map]
      exact hel.went kk (.inl rfl)
end Go.Proofs.YtnbpliccenanpaaDoor
