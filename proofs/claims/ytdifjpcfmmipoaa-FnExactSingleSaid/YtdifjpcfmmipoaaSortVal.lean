/-
  A list of errors, sorted through its own methods by sort.Sort: the same errors, in the order of their faults. Off the shelf's contract of sort.Sort; the three methods are walked.
-/
import Derived.Test.YtdifjpcfmmipoaaMethods
import Derived.Test.YtdifjpcfmmipoaaShelf
namespace Go.Proofs.Ytdifjpcfmmipoaa
open Go.RowKit Go.Sort Go.Lib

/-- The k-th block, the first one where there are fewer. -/
def pk (bs : List Nat) (k : Nat) : Nat := bs.getD k (bs.getD 0 0)
/-- The k-th fault, the first one where there are fewer. -/
def fk (fs : List Fau) (k : Nat) : Fau := fs.getD k (fs.getD 0 default)
def encP (bs : List Nat) (k : Nat) : Value := .pointer (some ⟨pk bs k, 0, none⟩)
def ltP (fs : List Fau) (i j : Nat) : Bool := ltF (fk fs i) (fk fs j)

theorem swo_ltP (fs : List Fau) : SWO (ltP fs) where
  irrefl _ := swo_ltF.irrefl _
  trans _ _ _ h1 h2 := swo_ltF.trans _ _ _ h1 h2
  ntrans _ _ _ h1 h2 := swo_ltF.ntrans _ _ _ h1 h2

theorem pk_lt {bs : List Nat} {k : Nat} (h : k < bs.length) : pk bs k = bs[k] := by simp [pk, List.getD, List.getElem?_eq_getElem h]
theorem fk_lt {fs : List Fau} {k : Nat} (h : k < fs.length) : fk fs k = fs[k] := by simp [fk, List.getD, List.getElem?_eq_getElem h]
theorem pk_ge {bs : List Nat} {k : Nat} (h : bs.length ≤ k) (h0 : 0 < bs.length) : pk bs k = bs[0] := by simp [pk, List.getD, List.getElem?_eq_none h, List.getElem?_eq_getElem h0]
theorem fk_ge {fs : List Fau} {k : Nat} (h : fs.length ≤ k) (h0 : 0 < fs.length) : fk fs k = fs[0] := by simp [fk, List.getD, List.getElem?_eq_none h, List.getElem?_eq_getElem h0]

theorem Errs.at_ {w : World} {B : Nat} {bs : List Nat} {fs : List Fau} (h : Errs w B bs fs) (h0 : 0 < bs.length) (k : Nat) : B ≤ pk bs k ∧ ErrAt w (pk bs k) (fk fs k) := by
  have hl := h.1
  by_cases hk : k < bs.length
  · rw [pk_lt hk, fk_lt (by omega)]
    exact h.2 k _ _ (List.getElem?_eq_getElem hk) (List.getElem?_eq_getElem (by omega))
  · rw [pk_ge (by omega) h0, fk_ge (by omega) (by omega)]
    exact h.2 0 _ _ (List.getElem?_eq_getElem h0) (List.getElem?_eq_getElem (by omega))

theorem range_fk (fs : List Fau) : (List.range fs.length).map (fk fs) = fs := by
  apply List.ext_getElem (by simp)
  intro i h1 h2
  simp only [List.getElem_map, List.getElem_range]
  exact fk_lt h2

section
variable {enc : Nat → Value} {w : World} {g m : Nat} {dk : Array Nat} {os : Array Obj}
theorem sortWorld_other {k : Nat} (hk : k < w.heap.size) (hne : g ≠ k) : (sortWorld enc w g 0 m dk os).heap[k]? = w.heap[k]? := by
  unfold sortWorld
  rw [heap_grow_old _ _ (by simpa using hk)]
  simp [putRow, mapBlock, Sort.ahead, Array.getElem?_modify, hne]
theorem sortWorld_row {cur : Array Value} {e : TypeId} {fr : Nat × Nat} (hb : w.heap[g]? = some (.cells cur e fr)) : (sortWorld enc w g 0 m dk os).heap[g]? = some (.cells (putCells enc 0 dk cur) e fr) := by
  unfold sortWorld
  rw [heap_grow_old _ _ (by simpa using lt_of_heap hb)]
  simp [putRow, mapBlock, Sort.ahead, Array.getElem?_modify, hb, onCells]
theorem sortWorld_grown : w.grownBy (sortWorld enc w g 0 m dk os) (some g) :=
  ⟨rfl, rfl, rfl, by simp [sortWorld], fun _ hk hne => sortWorld_other hk (fun e => hne (by rw [e]))⟩
end

theorem take_put (enc : Nat → Value) (cur : Array Value) (d : Array Nat) (h : d.size ≤ cur.size) : (putCells enc 0 d cur).toList.take d.size = d.toList.map enc := by
  apply List.ext_getElem?
  intro j
  by_cases hj : j < d.size
  · rw [List.getElem?_take_of_lt hj, Array.getElem?_toList]
    simp [putCells, hj, show j < cur.size by omega]
  · rw [List.getElem?_take_eq_none (by omega), List.getElem?_eq_none (by simp; omega)]

/-- What sort.Sort leaves of a list of errors. -/
def SortedErr (base n : Nat) (v : Value) (fs : List Fau) (w : World) (e : Ending) (w' : World) : Prop :=
  e = .returned (.tuple #[]) ∧ ∃ bs', w'.ownsRow base 41 1 v n (ptrs bs') ∧ Errs w' base bs' (srt fs) ∧ w.grownBy w' v.ownBlock

theorem reach_len (p : Option Addr) (n c : Nat) : Reaches Try.prog 33 (.slice p n c) "Len" 62 := ⟨fun _ => by kernel_rfl, enters_of Try.func62 (by kernel_rfl) rfl⟩
theorem reach_less (p : Option Addr) (n c : Nat) : Reaches Try.prog 33 (.slice p n c) "Less" 63 := ⟨fun _ => by kernel_rfl, enters_of Try.func63 (by kernel_rfl) rfl⟩
theorem reach_swap (p : Option Addr) (n c : Nat) : Reaches Try.prog 33 (.slice p n c) "Swap" 64 := ⟨fun _ => by kernel_rfl, enters_of Try.func64 (by kernel_rfl) rfl⟩

theorem lenM (p : Option Addr) (n c : Nat) (W : World) : LenM Try.prog 62 (.slice p n c) n W := (len_any p n c W).mono fun _ _ ⟨he, hw⟩ => ⟨he, 0, hw.symm⟩

theorem lessM {w : World} {base n g c : Nat} {bs : List Nat} {fs : List Fau} {d : Array Nat} (hE : Errs w base bs fs) (h0 : 0 < bs.length) (hd : d.size = n) (hsz : n < 4611686018427387904) (hH : Holds (encP bs) w g 0 d) (hg : g < w.heap.size)
    (hne : ∀ b f, ErrAt w b f → g ≠ b) : LessM Try.prog 63 (.slice (some ⟨g, 0, none⟩) n c) (encP bs) (ltP fs) g 0 n w := fun m os dk hs i j hi hj => by
  have hh := holds_sortWorld (encP bs) w g 0 m d dk os hg hH (by omega)
  have ea := fun k => (hE.at_ h0 k).2
  have eb : ∀ k, ErrAt (sortWorld (encP bs) w g 0 m dk os) (pk bs k) (fk fs k) := fun k => (sortWorld_other (lt_of_heap (ea k)) (hne _ _ (ea k))).trans (ea k)
  exact less_any g 0 c n i j (pk bs dk[i]!) (pk bs dk[j]!) (fk fs dk[i]!) (fk fs dk[j]!) _ hi hj hsz (hh i (by omega)).1 (hh j (by omega)).1 (eb _) (eb _)

theorem swapM {n g c : Nat} {bs : List Nat} (hsz : n < 4611686018427387904) : SwapM Try.prog 64 (.slice (some ⟨g, 0, none⟩) n c) (encP bs) g 0 n := fun W dk hH hs i j hi hj =>
  swap_any g 0 c n W (encP bs dk[i]!) (encP bs dk[j]!) i j hi hj hsz (hH i (by omega)).1 (hH j (by omega)).1 (hH i (by omega)).2 (hH j (by omega)).2 ⟨_, rfl⟩ ⟨_, rfl⟩

theorem own_holds {w : World} {base n g c : Nat} {bs : List Nat} (hown : w.ownsRow base 41 1 (.slice (some ⟨g, 0, none⟩) n c) n (ptrs bs)) : Holds (encP bs) w g 0 (Array.range n) := by
  intro j hj
  have hjn : j < n := by simpa using hj
  have hl : bs.length = n := by have := hown.1; simpa [ptrs] using this
  refine ⟨?_, by rw [Nat.zero_add]; exact hown.frozenAt j⟩
  rw [Nat.zero_add, hown.cellAt j (by omega)]
  have : (Array.range n)[j]! = j := by rw [getElem!_pos _ j hj]; simp
  rw [this]
  simp only [ptrs, List.getElem?_map, List.getElem?_eq_getElem (show j < bs.length by omega), Option.map_some, encP]
  rw [pk_lt (by omega)]

/-- BEHIND THE SORT: what the row's places were turned into is the sorted list. -/
theorem sorted_of {w : World} {base n g c m : Nat} {bs : List Nat} {fs : List Fau} {d' : Array Nat} {os : Array Obj} (hown : w.ownsRow base 41 1 (.slice (some ⟨g, 0, none⟩) n c) n (ptrs bs)) (hE : Errs w base bs fs) (h0 : 0 < n)
    (hP : PermIn 0 n (Array.range n) d') (hS : SortedIn (ltP fs) 0 n d') : SortedErr base n (.slice (some ⟨g, 0, none⟩) n c) fs w (.returned (.tuple #[])) (sortWorld (encP bs) w g 0 m d' os) := by
  have hl : bs.length = n := by have := hown.1; simpa [ptrs] using this
  have hlf : fs.length = n := by rw [← hE.1]; exact hl
  have hd : d'.size = n := by have := hP.1; simpa using this
  have hfs : d'.toList.map (fk fs) = srt fs := by
    rw [srt_of_places (fk fs) n d' hP hS, ← hlf, range_fk]
  rcases hown.2 with ⟨hv, _⟩ | ⟨g', cap, cur, hv, hb, hh, hn, hcap, hcur, _⟩
  · cases hv
  · simp only [Value.slice.injEq, Option.some.injEq, Addr.mk.injEq, and_true, true_and] at hv
    obtain ⟨rfl, rfl⟩ := hv
    refine ⟨rfl, d'.toList.map (pk bs), ⟨by simp [ptrs, hd], .inr ⟨g, c, _, rfl, hb, sortWorld_row hh, hn, hcap, by simp [putCells, hcur], ?_⟩⟩, ?_, sortWorld_grown⟩
    · rw [Nat.mul_one, ← hd, take_put _ _ _ (by omega)]
      simp [ptrs, encP, Function.comp_def]
    · rw [← hfs]
      refine ⟨by simp, fun i b f h1 h2 => ?_⟩
      rw [List.getElem?_map] at h1 h2
      obtain ⟨x, hx, rfl⟩ := Option.map_eq_some_iff.1 h1
      rw [hx] at h2
      obtain rfl : fk fs x = f := by simpa using h2
      obtain ⟨q1, q2⟩ := hE.at_ (by omega) x
      refine ⟨q1, (sortWorld_other (lt_of_heap q2) ?_).trans q2⟩
      rintro rfl
      unfold ErrAt at q2
      rw [hh] at q2
      injection q2 with q2
      injection q2 with _ q3
      exact absurd q3 (by decide)

set_option maxRecDepth 100000 in
set_option maxHeartbeats 1000000 in
theorem sortSort_any (base n : Nat) (v : Value) (bs : List Nat) (fs : List Fau) (w : World) (hown : w.ownsRow base 41 1 v n (ptrs bs)) (hE : Errs w base bs fs) (hsz : n < 4611686018427387904) :
    Calls Try.prog 26 #[.iface 33 v] w (SortedErr base n v fs w) := by
  have hl : bs.length = n := by have := hown.1; simpa [ptrs] using this
  by_cases h2 : 2 ≤ n
  · obtain ⟨g, c, rfl, hb, hg⟩ := hown.form (by omega)
    have hne : ∀ b f, ErrAt w b f → g ≠ b := fun b f he e => own_ne hown he (by decide) (by rw [e]; rfl)
    have hd : (Array.range n).size = n := by simp
    have hc := Try.sort_Sort_sorted 33 (.slice (some ⟨g, 0, none⟩) n c) 62 63 64 (reach_len _ _ _) (reach_less _ _ _) (reach_swap _ _ _) (encP bs) (ltP fs) (swo_ltP fs)
      g 0 (Array.range n) (by omega) (by omega) w (by rw [hd]; exact lenM _ _ _ _) (by rw [hd]; exact lessM hE (by omega) hd hsz (own_holds hown) hg hne) (by rw [hd]; exact swapM hsz) (own_holds hown) hg
    rw [hd] at hc
    refine hc.mono fun e w' h => ?_
    obtain ⟨rfl, d', m, os, hP, hS, rfl⟩ := h
    exact sorted_of hown hE (by omega) hP hS
  · obtain ⟨A, c, rfl⟩ : ∃ A c, v = .slice A n c := by
      rcases hown.2 with ⟨rfl, rfl⟩ | ⟨g, cap, _, rfl, _⟩
      · exact ⟨_, _, rfl⟩
      · exact ⟨_, _, rfl⟩
    refine (Try.sort_Sort_tiny (α := Nat) 33 (.slice A n c) 62 (reach_len _ _ _) n (by omega) w (lenM _ _ _ _)).mono fun e w' h => ?_
    obtain ⟨rfl, q, rfl⟩ := h
    have hs : srt fs = fs := by
      have hlf : fs.length ≤ 1 := by rw [← hE.1]; omega
      match fs, hlf with
      | [], _ => simp [srt]
      | [f], _ => simp [srt]
    exact ⟨rfl, bs, hown, by rw [hs]; exact hE, ⟨rfl, rfl, rfl, Nat.le_refl _, fun _ _ _ => rfl⟩⟩

end Go.Proofs.Ytdifjpcfmmipoaa
