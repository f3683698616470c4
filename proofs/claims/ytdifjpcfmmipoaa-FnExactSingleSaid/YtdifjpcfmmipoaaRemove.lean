/-
  The walk of ErrorList.RemoveMultiples: the list is sorted, and of each line the first error alone is left.
-/
import Derived.Test.YtdifjpcfmmipoaaPtrSort
namespace Go.Proofs.Ytdifjpcfmmipoaa
open Go.RowKit Go.Sort

theorem heap_set_row {w : World} {g j : Nat} {cur : Array Value} {t : TypeId} {fr : Nat × Nat} (v : Value) (h : w.heap[g]? = some (.cells cur t fr)) : (w.setCell ⟨g, j, none⟩ v).heap[g]? = some (.cells (cur.setIfInBounds j v) t fr) := by
  simp [World.setCell, Array.getElem?_modify, h]

/-- RemoveMultiples behind k errors of the sorted list gs (in the blocks bs): K are kept, in the blocks KB; the last one's line is c; the row holds cur. -/
structure KRel (w1 : World) (base g n m : Nat) (bs : List Nat) (gs : List Fau) (k : Nat) (K : List Fau) (KB : List Nat) (c : Int) (cur : Array Value) (wr : World) : Prop where
  kn : k ≤ n
  ik : K.length ≤ k
  eq : sng 0 gs = K ++ sng c (gs.drop k)
  grown : w1.grownBy wr (some g)
  errs : Errs w1 base KB K
  row : wr.heap[g]? = some (.cells cur 41 (0, 0))
  csz : cur.size = m
  front : ∀ (j b : Nat), KB[j]? = some b → cur[j]? = some (Value.pointer (some ⟨b, 0, none⟩))
  back : ∀ (j b : Nat), k ≤ j → bs[j]? = some b → cur[j]? = some (Value.pointer (some ⟨b, 0, none⟩))
  last : ∃ x0 x1, wr.heap[w1.heap.size]? = some (.cells #[.string ⟨#[]⟩, .int .i64 x0, .int .i64 c, .int .i64 x1] 39 (0, 0))

section
variable {w1 wr : World} {base g n m k : Nat} {bs : List Nat} {gs K : List Fau} {KB : List Nat} {c : Int} {cur : Array Value} {f : Fau} {b : Nat}
theorem drop_at {j : Nat} (h : gs[j]? = some f) : gs.drop j = f :: gs.drop (j + 1) := by
  obtain ⟨hj, rfl⟩ := List.getElem?_eq_some_iff.1 h
  exact List.drop_eq_getElem_cons hj

theorem KRel.skip (h : KRel w1 base g n m bs gs k K KB c cur wr) (hk : k < n) (hf : gs[k]? = some f) (hc : f.line = c) : KRel w1 base g n m bs gs (k + 1) K KB c cur wr :=
  ⟨by omega, by have := h.ik; omega, by rw [h.eq, drop_at hf, sng_cons_same hc], h.grown, h.errs, h.row, h.csz, h.front, fun j b' hj => h.back j b' (by omega), h.last⟩

theorem KRel.drew (h : KRel w1 base g n m bs gs k K KB c cur wr) (q : Nat) : KRel w1 base g n m bs gs k K KB c cur (wr.drewN q) :=
  ⟨h.kn, h.ik, h.eq, ⟨h.grown.os, h.grown.tape, h.grown.output, h.grown.size, h.grown.block⟩, h.errs, h.row, h.csz, h.front, h.back, h.last⟩

/-- The last one kept is noted in a block of its own. -/
theorem set_last (l : Int) (x : Int) {o : Obj} (hg : g < w1.heap.size) (hgr : w1.grownBy wr (some g)) (hrow : wr.heap[g]? = some o) {y0 y1 y2 y3 : Value} (hl : wr.heap[w1.heap.size]? = some (.cells #[y0, y1, y2, y3] 39 (0, 0))) (W : World)
    (hW : (((wr.setCell ⟨w1.heap.size, 0, none⟩ (.string ⟨#[]⟩)).setCell ⟨w1.heap.size, 1, none⟩ (.int .i64 0)).setCell ⟨w1.heap.size, 2, none⟩ (.int .i64 l)).setCell ⟨w1.heap.size, 3, none⟩ (.int .i64 x) = W) :
    w1.grownBy W (some g) ∧ W.heap[g]? = some o ∧ W.heap[w1.heap.size]? = some (.cells #[.string ⟨#[]⟩, .int .i64 0, .int .i64 l, .int .i64 x] 39 (0, 0)) := by
  have hb : ∀ j, j ≠ w1.heap.size → W.heap[j]? = wr.heap[j]? := fun j hj => by
    rw [← hW]
    exact (Below.heap_setCell _ _ _ j hj).trans ((Below.heap_setCell _ _ _ j hj).trans ((Below.heap_setCell _ _ _ j hj).trans (Below.heap_setCell _ _ _ j hj)))
  have hs : W.heap.size = wr.heap.size := by rw [← hW]; simp
  refine ⟨⟨by rw [← hW]; exact hgr.os, by rw [← hW]; exact hgr.tape, by rw [← hW]; exact hgr.output, by rw [hs]; exact hgr.size, fun j hj hjg => (hb j (by omega)).trans (hgr.block j hj hjg)⟩, (hb g (by omega)).trans hrow, ?_⟩
  have s0 := heap_set_row (j := 0) (.string ⟨#[]⟩) hl
  have s1 := heap_set_row (j := 1) (.int .i64 0) s0
  have s2 := heap_set_row (j := 2) (.int .i64 l) s1
  have s3 := heap_set_row (j := 3) (.int .i64 x) s2
  rw [hW] at s3
  exact s3

theorem KRel.keep (h : KRel w1 base g n m bs gs k K KB c cur wr) (hk : k < n) (hm : n ≤ m) (hg : g < w1.heap.size) (hf : gs[k]? = some f) (hb : bs[k]? = some b) (hE : Errs w1 base bs gs) (hc : f.line ≠ c)
    (W : World) (hgr : w1.grownBy W (some g)) (hrow : W.heap[g]? = some (.cells cur 41 (0, 0))) (hlast : W.heap[w1.heap.size]? = some (.cells #[.string ⟨#[]⟩, .int .i64 0, .int .i64 f.line, .int .i64 f.col] 39 (0, 0))) :
    KRel w1 base g n m bs gs (k + 1) (K ++ [f]) (KB ++ [b]) f.line (cur.setIfInBounds K.length (.pointer (some ⟨b, 0, none⟩))) (W.setCell ⟨g, K.length, none⟩ (.pointer (some ⟨b, 0, none⟩))) := by
  have hl : KB.length = K.length := h.errs.1
  have hik := h.ik
  have hcs := h.csz
  obtain ⟨q1, q2⟩ := hE.2 k b f hb hf
  have hs : (W.setCell ⟨g, K.length, none⟩ (.pointer (some ⟨b, 0, none⟩))).heap.size = W.heap.size := by simp
  have h1 : sng 0 gs = (K ++ [f]) ++ sng f.line (gs.drop (k + 1)) := by rw [h.eq, drop_at hf, sng_cons_new hc]; simp
  have h2 : w1.grownBy (W.setCell ⟨g, K.length, none⟩ (.pointer (some ⟨b, 0, none⟩))) (some g) :=
    ⟨hgr.os, hgr.tape, hgr.output, by rw [hs]; exact hgr.size, fun j hj hjg => (Below.heap_setCell _ _ _ j (fun e => hjg (by rw [e]))).trans (hgr.block j hj hjg)⟩
  have h3 : ∀ (j b' : Nat), (KB ++ [b])[j]? = some b' → (cur.setIfInBounds K.length (.pointer (some ⟨b, 0, none⟩)))[j]? = some (Value.pointer (some ⟨b', 0, none⟩)) := fun j b' hj => by
    rcases Nat.lt_trichotomy j KB.length with hlt | hlt | hlt
    · rw [List.getElem?_append_left hlt] at hj
      rw [Array.getElem?_setIfInBounds_ne (by omega)]
      exact h.front j b' hj
    · subst hlt
      have e : b' = b := by simpa using hj.symm
      rw [e, hl, Array.getElem?_setIfInBounds_self_of_lt (by omega)]
    · rw [List.getElem?_eq_none (by simp; omega)] at hj
      cases hj
  have h4 : ∀ (j b' : Nat), k + 1 ≤ j → bs[j]? = some b' → (cur.setIfInBounds K.length (.pointer (some ⟨b, 0, none⟩)))[j]? = some (Value.pointer (some ⟨b', 0, none⟩)) := fun j b' hj hb' => by
    rw [Array.getElem?_setIfInBounds_ne (by omega)]
    exact h.back j b' (by omega) hb'
  exact ⟨by omega, by rw [List.length_append]; simp; omega, h1, h2, h.errs.snoc q1 q2, heap_set_row _ hrow, by rw [Array.size_setIfInBounds]; exact hcs, h3, h4, 0, f.col, (Below.heap_setCell _ _ _ _ (by show _ ≠ g; omega)).trans hlast⟩
end

/-- What RemoveMultiples leaves at the list's variable. -/
def Removed (base pb : Nat) (fs : List Fau) (w : World) (e : Ending) (w' : World) : Prop :=
  e = .returned (.tuple #[]) ∧ ∃ v' KB, w'.cell? ⟨pb, 0, none⟩ = some v' ∧ w'.ownsRow base 41 1 v' (sgl fs).length (ptrs KB) ∧ Errs w' base KB (sgl fs) ∧ Below base w w'

theorem removed_of {base n pb g c : Nat} {bs : List Nat} {fs K : List Fau} {KB : List Nat} {l : Int} {cur : Array Value} {w w1 wr : World} (h : KRel w1 base g n c bs (srt fs) n K KB l cur wr) (hlf : (srt fs).length = n) (hnc : n ≤ c) (hcm : c ≤ maxLen)
    (hbg : base ≤ g) (hpb : base ≤ pb) (hpg : pb ≠ g) (lg : g < w.heap.size) (hgr : w.grownBy w1 (some g)) {v0 : Value} (hp2 : wr.cell? ⟨pb, 0, none⟩ = some v0) (hp1 : w1.cell? ⟨pb, 0, none⟩ = some (.slice (some ⟨g, 0, none⟩) n c))
    (hne : ∀ b f, ErrAt w1 b f → g ≠ b) :
    Removed base pb fs w (.returned (.tuple #[])) (wr.setCell ⟨pb, 0, none⟩ (.slice (some ⟨g, 0, none⟩) K.length c)) := by
  have hK : sgl fs = K := by
    have := h.eq
    rw [List.drop_of_length_le (by omega)] at this
    simpa [sgl, sng] using this
  have hl : KB.length = K.length := h.errs.1
  have hik := h.ik
  have hcs := h.csz
  subst hK
  refine ⟨rfl, _, KB, World.cell?_setCell_same _ _ _ hp2, ⟨by simp [ptrs, hl], .inr ⟨g, c, cur, rfl, hbg, (Below.heap_setCell _ _ _ _ (fun e => hpg e.symm)).trans h.row, by omega, hcm, by omega, ?_⟩⟩, ?_, ?_⟩
  · apply List.ext_getElem?
    intro j
    by_cases hj : j < KB.length
    · rw [List.getElem?_take_of_lt (by omega), Array.getElem?_toList, h.front j _ (List.getElem?_eq_getElem hj)]
      simp [ptrs, hj]
    · rw [List.getElem?_take_eq_none (by omega), List.getElem?_eq_none (by simp [ptrs]; omega)]
  · refine ⟨hl, fun i b f h1 h2 => ?_⟩
    obtain ⟨q1, q2⟩ := h.errs.2 i b f h1 h2
    have q2' : ErrAt w1 b f := q2
    refine ⟨q1, (Below.heap_setCell _ _ _ _ ?_).trans ((h.grown.block b (lt_of_heap q2) (fun e => by injection e with e; exact hne b f q2' e.symm)).trans q2)⟩
    show b ≠ pb
    rintro rfl
    have := q2'.cell 0
    rw [hp1] at this
    simp [errCells] at this
  · exact ((((Below.refl base w).grown hgr (by omega) (fun k e => by injection e with e; omega)).grown h.grown (by have := hgr.size; omega) (fun k e => by injection e with e; omega)).setCell hpb _)

set_option maxRecDepth 1000000 in
set_option maxHeartbeats 4000000 in
theorem remove_some (base n pb g c : Nat) (bs : List Nat) (fs : List Fau) (w : World) (hown : w.ownsRow base 41 1 (.slice (some ⟨g, 0, none⟩) n c) n (ptrs bs)) (hE : Errs w base bs fs) (hn : n ≤ 2147483647)
    (hp : w.cell? ⟨pb, 0, none⟩ = some (.slice (some ⟨g, 0, none⟩) n c)) (hfp : w.frozen? ⟨pb, 0, none⟩ = false) (hpb : base ≤ pb) (hpg : pb ≠ g) :
    Calls Try.prog 24 #[.pointer (some ⟨pb, 0, none⟩)] w (Removed base pb fs w) := by
  have hbg : base ≤ g := by
    rcases hown.2 with ⟨hv, _⟩ | ⟨g', _, _, hv, hb, _⟩
    · cases hv
    · simp only [Value.slice.injEq, Option.some.injEq, Addr.mk.injEq, and_true, true_and] at hv
      obtain ⟨rfl, rfl⟩ := hv
      exact hb
  have lg : g < w.heap.size := by
    rcases hown.2 with ⟨hv, _⟩ | ⟨g', _, _, hv, hb, hh, _⟩
    · cases hv
    · simp only [Value.slice.injEq, Option.some.injEq, Addr.mk.injEq, and_true, true_and] at hv
      obtain ⟨rfl, rfl⟩ := hv
      exact lt_of_heap hh
  have lp := World.block_lt_of_cell? w _ hp
  have CS := hide (sortPtr_any base n pb _ bs fs w hown hE (by omega) hp (by show some pb ≠ some g; intro e; injection e with e; exact hpg e))
  clear hown hE
  go_enter Try.func24, Try.ntmps24
  go_wp2_with fail
  refine CS.out.mono ?_
  rintro e w1 ⟨rfl, bs', hown, hE, hgr⟩
  have hgr : w.grownBy w1 (some g) := hgr
  have hp1 : w1.cell? ⟨pb, 0, none⟩ = some (.slice (some ⟨g, 0, none⟩) n c) := hgr.cell hp (by show some pb ≠ some g; intro e; injection e with e; exact hpg e)
  have hf1 : w1.frozen? ⟨pb, 0, none⟩ = false := (hgr.frozen_far ⟨pb, 0, none⟩ lp (by show some pb ≠ some g; intro e; injection e with e; exact hpg e)).trans hfp
  have lg1 := Nat.lt_of_lt_of_le lg hgr.size
  have lp1 := Nat.lt_of_lt_of_le lp hgr.size
  obtain ⟨cur0, hh0, hnc, hcm, hcs0, htake⟩ : ∃ cur, w1.heap[g]? = some (.cells cur 41 (0, 0)) ∧ n ≤ c ∧ c ≤ maxLen ∧ cur.size = c ∧ cur.toList.take n = ptrs bs' := by
    rcases hown.2 with ⟨hv, _⟩ | ⟨g', cap, cur, hv, hb, hh, h1, h2, h3, h4⟩
    · cases hv
    · simp only [Value.slice.injEq, Option.some.injEq, Addr.mk.injEq, and_true, true_and] at hv
      obtain ⟨rfl, rfl⟩ := hv
      exact ⟨cur, hh, h1, h2, by omega, by rw [Nat.mul_one] at h4; exact h4⟩
  have hl : bs'.length = n := by have := hown.1; simpa [ptrs] using this
  have hlf : (srt fs).length = n := by rw [← hE.1]; exact hl
  have hne : ∀ b f, ErrAt w1 b f → g ≠ b := fun b f he e => own_ne hown he (by decide) (by rw [e]; rfl)
  have OWN := hide hown
  have HE := hide hE
  have HNE := hide hne
  have K0 : Hid (KRel w1 base g n c bs' (srt fs) 0 [] [] 0 cur0 (w1.alloc (.cells #[.string ⟨#[]⟩, .int .i64 0, .int .i64 0, .int .i64 0] 39))) :=
    ⟨Nat.zero_le _, Nat.le_refl _, rfl, World.grownBy_alloc w1 _ _, Errs.nil_ _ _, (Below.heap_alloc w1 _ g lg1).trans hh0, hcs0, fun j b h => by simp at h, fun j b _ h => by
      have hj : j < n := by
        rcases Nat.lt_or_ge j bs'.length with h' | h'
        · omega
        · rw [List.getElem?_eq_none h'] at h; cases h
      have : cur0.toList[j]? = some (Value.pointer (some ⟨b, 0, none⟩)) := by
        rw [← List.getElem?_take_of_lt hj, htake]; simp [ptrs, h]
      rwa [Array.getElem?_toList] at this, 0, 0, heap_alloc_new w1 _⟩
  clear CS hp hfp hown hE hne
  go_wp2
  go_loopw [3, 13] (fun vi vk wr => ∃ (k : Nat) (K : List Fau) (KB : List Nat) (l : Int) (cur : Array Value), vi = .int .i64 K.length ∧ vk = .int .i64 k ∧ Hid (KRel w1 base g n c bs' (srt fs) k K KB l cur wr)) (fun _ vk _ => n - (intOf vk).toNat)
  case atStart => exact ⟨0, [], [], 0, cur0, rfl, rfl, K0⟩
  case round =>
    obtain ⟨k, K, KB, l, cur, rfl, rfl, HK⟩ := hrel
    have hkn := HK.out.kn
    have hik := HK.out.ik
    have hgr2 := HK.out.grown
    have hp2 : wr.cell? ⟨pb, 0, none⟩ = some (.slice (some ⟨g, 0, none⟩) n c) := hgr2.cell hp1 (by show some pb ≠ some g; intro e; injection e with e; exact hpg e)
    have hf2 : wr.frozen? ⟨pb, 0, none⟩ = false := (hgr2.frozen_far ⟨pb, 0, none⟩ lp1 (by show some pb ≠ some g; intro e; injection e with e; exact hpg e)).trans hf1
    by_cases hlt : k < n
    · have hltz : (k : Int) < (n : Int) := by omega
      have hkz : (0 : Int) ≤ (k : Int) := by omega
      obtain ⟨b, hb⟩ : ∃ b, bs'[k]? = some b := ⟨_, List.getElem?_eq_getElem (by omega)⟩
      obtain ⟨f, hf⟩ : ∃ f, (srt fs)[k]? = some f := ⟨_, List.getElem?_eq_getElem (by omega)⟩
      obtain ⟨-, he1⟩ := HE.out.2 k b f hb hf
      have he2 : ErrAt wr b f := (hgr2.block b (lt_of_heap he1) (fun e => by injection e with e; exact HNE.out b f he1 e.symm)).trans he1
      have c1 : wr.cell? ⟨g, k, none⟩ = some (.pointer (some ⟨b, 0, none⟩)) := (cell_of_row wr g k _ _ (0, 0) HK.out.row).trans (HK.out.back k b (Nat.le_refl _) hb)
      have e0 : wr.cell? ⟨b, 0, none⟩ = some (.string ⟨#[]⟩) := he2.cell 0
      have e1 : wr.cell? ⟨b, 1, none⟩ = some (.int .i64 0) := he2.cell 1
      have e2 : wr.cell? ⟨b, 2, none⟩ = some (.int .i64 f.line) := he2.cell 2
      have e3 : wr.cell? ⟨b, 3, none⟩ = some (.int .i64 f.col) := he2.cell 3
      obtain ⟨x0, x1, hlast⟩ := HK.out.last
      have l0 : wr.cell? ⟨w1.heap.size, 0, none⟩ = some (.string ⟨#[]⟩) := cell_of_row wr _ 0 _ _ (0, 0) hlast
      have l1 : wr.cell? ⟨w1.heap.size, 1, none⟩ = some (.int .i64 x0) := cell_of_row wr _ 1 _ _ (0, 0) hlast
      have l2 : wr.cell? ⟨w1.heap.size, 2, none⟩ = some (.int .i64 l) := cell_of_row wr _ 2 _ _ (0, 0) hlast
      have l3 : wr.cell? ⟨w1.heap.size, 3, none⟩ = some (.int .i64 x1) := cell_of_row wr _ 3 _ _ (0, 0) hlast
      have lf : ∀ j, wr.frozen? ⟨w1.heap.size, j, none⟩ = false := fun j => frozen_of_row wr _ j _ _ hlast
      have HB := hide hb
      have HF := hide hf
      have HLA := hide hlast
      clear hb hf he1 he2 hlast
      by_cases hc : f.line = l
      · have HC := hide hc
        have q1 : (f.line == l) = true := beq_iff_eq.2 hc
        have q1' : (f.line != l) = false := by simp [bne, q1]
        clear hc
        go_wp2
        go_quiet (fail)
        go_wp2
        go_roundw
        case rel => exact ⟨k + 1, K, KB, l, cur, rfl, by go_num, (HK.out.drew _).skip hlt HF.out HC.out⟩
        case measure => simp [intOf]; omega
      · have HC := hide hc
        have q1 : (f.line == l) = false := beq_eq_false_iff_ne.2 hc
        have q1' : (f.line != l) = true := by simp [bne, q1]
        have hKl : K.length < cur.size := by have := HK.out.csz; omega
        have c2 : wr.cell? ⟨g, K.length, none⟩ = some cur[K.length] := (cell_of_row wr g _ _ _ (0, 0) HK.out.row).trans (Array.getElem?_eq_getElem hKl)
        have f2 : wr.frozen? ⟨g, K.length, none⟩ = false := frozen_of_row wr g _ _ _ HK.out.row
        have hKz : (K.length : Int) < (n : Int) := by omega
        clear hc
        go_wp2
        go_quiet (fail)
        go_wp2
        go_roundw
        case rel =>
          obtain ⟨s1, s2, s3⟩ := set_last f.line f.col lg1 (HK.out.drew _).grown (HK.out.drew _).row HLA.out _ rfl
          exact ⟨k + 1, K ++ [f], KB ++ [b], f.line, _, by simp, by go_num, HK.out.keep hlt hnc lg1 HF.out HB.out HE.out HC.out _ s1 s2 s3⟩
        case measure => simp [intOf]; omega
    · obtain rfl : k = n := by omega
      have hKz : (K.length : Int) ≤ (c : Int) := by omega
      have HR := hide (removed_of (w := w) HK.out hlf hnc hcm hbg hpb hpg lg hgr hp2 hp1 HNE.out)
      go_wp2
      go_end0
      exact HR.out

end Go.Proofs.Ytdifjpcfmmipoaa
