/-
  The walk of impl.faults: a list of errors becomes a slice of faults again.
-/
import Derived.Test.YtdifjpcfmmipoaaErrList
import Derived.Deep.RegionLaw
import Derived.BigRegion
import Derived.Deep.DrawnRows
import Derived.Deep.AppendLies
namespace Go.Proofs.Ytdifjpcfmmipoaa
open Go.RowKit
attribute [local go_sem ↓] Go.wp_at_zero Go.wp_at_succ

theorem infoFault : (Try.prog.info? 27).map (fun i => (i.zero, i.size, i.bytes)) = some (some (.agg #[.int .i64 0, .int .i64 0, .string ⟨#[]⟩]), 3, 32) := by kernel_rfl

/-- The cells of faults, one behind the other. -/
def cellsOf (fs : List Fau) : List Value := fs.flatMap Fau.cells

theorem cellsOf_snoc (fs : List Fau) (f : Fau) : cellsOf (fs ++ [f]) = cellsOf fs ++ [.int .i64 f.line, .int .i64 f.col, .string f.msg] := by simp [cellsOf, Fau.cells]
theorem cellsOf_length (fs : List Fau) : (cellsOf fs).length = fs.length * 3 := by
  induction fs with
  | nil => rfl
  | cons f r ih =>
    have : cellsOf (f :: r) = f.cells ++ cellsOf r := rfl
    rw [this, List.length_append, ih]; simp [Fau.cells]; omega
theorem cellsOf_at : ∀ (fs : List Fau) (k : Nat) (hk : k < fs.length), (cellsOf fs)[k * 3]? = some (.int .i64 fs[k].line) ∧ (cellsOf fs)[k * 3 + 1]? = some (.int .i64 fs[k].col) ∧ (cellsOf fs)[k * 3 + 2]? = some (.string fs[k].msg)
  | [], _, hk => by simp at hk
  | f :: r, 0, _ => ⟨rfl, rfl, rfl⟩
  | f :: r, k + 1, hk => by
    have e : cellsOf (f :: r) = f.cells ++ cellsOf r := rfl
    have hk' : k < r.length := by simpa using hk
    obtain ⟨h0, h1, h2⟩ := cellsOf_at r k hk'
    have hl : f.cells.length = 3 := rfl
    rw [e]
    refine ⟨?_, ?_, ?_⟩
    · rw [List.getElem?_append_right (by omega), hl, show (k + 1) * 3 - 3 = k * 3 by omega]; exact h0
    · rw [List.getElem?_append_right (by omega), hl, show (k + 1) * 3 + 1 - 3 = k * 3 + 1 by omega]; exact h1
    · rw [List.getElem?_append_right (by omega), hl, show (k + 1) * 3 + 2 - 3 = k * 3 + 2 by omega]; exact h2

/-- A slice of faults of the call's own reads as the faults. -/
theorem FRow.of_own {w : World} {base n c : Nat} {A : Option Addr} {fs : List Fau} (h : w.ownsRow base 27 3 (.slice A n c) n (cellsOf fs)) : FRow w w.heap.size A n fs := by
  have hl : fs.length = n := by have := h.1; rw [cellsOf_length] at this; omega
  refine ⟨hl, fun hn => ?_⟩
  obtain ⟨g, cap, hv, _, hlt⟩ := h.form hn
  simp only [Value.slice.injEq, true_and] at hv
  obtain ⟨rfl, rfl⟩ := hv
  refine ⟨g, 0, rfl, hlt, fun k hk => ?_⟩
  obtain ⟨h0, h1, h2⟩ := cellsOf_at fs k hk
  refine ⟨?_, ?_, ?_⟩
  · rw [Nat.zero_add, h.cellAt _ (by omega)]; exact h0
  · rw [Nat.zero_add, h.cellAt _ (by omega)]; exact h1
  · rw [Nat.zero_add, h.cellAt _ (by omega)]; exact h2

/-- What impl.faults leaves: a slice of faults of its own. -/
def Faulted (fs : List Fau) (n : Nat) (w : World) (e : Ending) (w' : World) : Prop :=
  ∃ A c, e = .returned (.slice A n c) ∧ FRow w' w'.heap.size A n fs ∧ Below w.heap.size w w'

theorem faulted {w w' : World} {n : Nat} {v : Value} {fs : List Fau} (h : w'.ownsRow w.heap.size 27 3 v n (cellsOf fs)) (hb : Below w.heap.size w w') : Faulted fs n w (.returned v) w' := by
  rcases h.2 with ⟨rfl, rfl⟩ | ⟨g, cap, _, rfl, _⟩
  · exact ⟨_, _, rfl, FRow.of_own h, hb⟩
  · exact ⟨_, _, rfl, FRow.of_own h, hb⟩

set_option maxRecDepth 100000 in
set_option maxHeartbeats 1600000 in
theorem faults_any (base n : Nat) (v : Value) (bs : List Nat) (fs : List Fau) (w : World) (hown : w.ownsRow base 41 1 v n (ptrs bs)) (hE : Errs w base bs fs) (hn : n ≤ 2147483647) :
    Calls Try.prog 22 #[v] w (Faulted fs n w) := by
  have hl : bs.length = n := by have := hown.1; simpa [ptrs] using this
  have hlf : fs.length = n := by rw [← hE.1]; exact hl
  obtain ⟨i0, hi0, hz0, hz1, hz2⟩ := info_parts infoFault
  rcases Nat.eq_zero_or_pos n with h0 | h0
  · subst h0
    obtain rfl : fs = [] := List.eq_nil_of_length_eq_zero hlf
    obtain ⟨A, c, rfl⟩ : ∃ A c, v = .slice A 0 c := by
      rcases hown.2 with ⟨rfl, _⟩ | ⟨g, cap, _, rfl, _⟩
      · exact ⟨_, _, rfl⟩
      · exact ⟨_, _, rfl⟩
    clear hown hE hl hlf
    go_enter Try.func22, Try.ntmps22
    go_wp2
    go_loopw [3, 8] (fun v i wr => v = .slice none 0 0 ∧ i = .int .i64 0 ∧ wr = w) (fun _ _ _ => 0)
    case atStart => exact ⟨rfl, rfl, rfl⟩
    case round =>
      obtain ⟨rfl, rfl, rfl⟩ := hrel
      go_wp2
      go_ret
      exact ⟨none, 0, rfl, FRow.nil_, Below.refl _ _⟩
  · obtain ⟨g, cap, rfl, hbg, hg⟩ := hown.form h0
    obtain ⟨Bk, hBk⟩ : ∃ Bk : Nat → Nat, ∀ k, Bk k = bs.getD k 0 := ⟨_, fun _ => rfl⟩
    obtain ⟨Fk, hFk⟩ : ∃ Fk : Nat → Fau, ∀ k, Fk k = fs.getD k default := ⟨_, fun _ => rfl⟩
    have hcell : ∀ k, k < n → w.cell? ⟨g, k, none⟩ = some (.pointer (some ⟨Bk k, 0, none⟩)) := fun k hk => by
      rw [hown.cellAt k (by omega), hBk]
      simp [ptrs, List.getD, List.getElem?_eq_getElem (show k < bs.length by omega)]
    have herr : ∀ k, k < n → w.heap[Bk k]? = some (.cells (errCells (Fk k)) 43 (0, 0)) := fun k hk =>
      (hE.2 k _ _ (by rw [hBk]; simp [List.getD, List.getElem?_eq_getElem (show k < bs.length by omega)]) (by rw [hFk]; simp [List.getD, List.getElem?_eq_getElem (show k < fs.length by omega)])).2
    have htake : ∀ k, k < n → cellsOf (fs.take (k + 1)) = cellsOf (fs.take k) ++ [.int .i64 (Fk k).line, .int .i64 (Fk k).col, .string (Fk k).msg] := fun k hk => by
      rw [List.take_add_one, List.getElem?_eq_getElem (show k < fs.length by omega), ← cellsOf_snoc, hFk]
      simp [List.getD, List.getElem?_eq_getElem (show k < fs.length by omega)]
    have htn : fs.take n = fs := List.take_of_length_le (by omega)
    have HC := hide hcell
    have HE := hide herr
    have HT := hide htake
    have HN := hide htn
    clear hown hE hcell herr htake htn hBk hFk hl hlf
    go_enter Try.func22, Try.ntmps22
    go_wp2
    go_loopw [3, 8] (fun v i wr => ∃ k : Nat, k ≤ n ∧ i = .int .i64 k ∧ wr.ownsRow w.heap.size 27 3 v k (cellsOf (fs.take k)) ∧ Below w.heap.size w wr) (fun _ i _ => n - (intOf i).toNat)
    case atStart => exact ⟨0, Nat.zero_le _, rfl, ⟨rfl, .inl ⟨rfl, rfl⟩⟩, Below.refl _ _⟩
    case round =>
      obtain ⟨k, hk, rfl, hownr, hb⟩ := hrel
      by_cases hlt : k < n
      · have hcp : wr.cell? ⟨g, k, none⟩ = some (.pointer (some ⟨Bk k, 0, none⟩)) := (hb.cell (p := ⟨g, k, none⟩) hg).trans (HC.out k hlt)
        have heb : wr.heap[Bk k]? = some (.cells (errCells (Fk k)) 43 (0, 0)) := (hb.block _ (lt_of_heap (HE.out k hlt))).trans (HE.out k hlt)
        have hlb : Bk k < wr.heap.size := lt_of_heap heb
        have HS := hide (HT.out k hlt)
        generalize Bk k = b at *
        generalize Fk k = f at *
        have c2 : wr.cell? ⟨b, 2, none⟩ = some (.int .i64 f.line) := cell_of_row wr b 2 _ _ (0, 0) heb
        have c3 : wr.cell? ⟨b, 3, none⟩ = some (.int .i64 f.col) := cell_of_row wr b 3 _ _ (0, 0) heb
        have c4 : wr.cell? ⟨b, 4, none⟩ = some (.string f.msg) := cell_of_row wr b 4 _ _ (0, 0) heb
        have hz := hb.size
        clear heb HC HE HT
        go_wp2
        go_region_law
          ((refine step_append_lies _ (by rfl) _ _ _ (by rfl) w.heap.size 27 i0 _ 3 32 Try.underlying22 hi0 hz0 hz1 hz2 rfl (by omega) u3 k (cellsOf (fs.take k)) (by rfl) ((hownr.alloc _).drew)
              ⟨wr.heap.size, 0, none⟩ 1 1 [.int .i64 f.line, .int .i64 f.col, .string f.msg] (by rfl) (by rfl) (World.news_of_block (cs := #[.int .i64 f.line, .int .i64 f.col, .string f.msg]) (t := 27) (fr := (0, 0)) (heap_alloc_new wr _)) (by simp [Value.oneCell'])
              (by omega) (by unfold maxLen; omega) (by omega) (by simp; omega) (wr.heap.size + 1) (by simp) ?_; intro gg cap w1 hown1 hgrow hat hlt))
        all_goals
          have hfin : w1.ownsRow w.heap.size 27 3 (.slice (some ⟨gg, 0, none⟩) (k + 1) cap) (k + 1) (cellsOf (fs.take (k + 1))) := by rw [HS.out]; exact hown1
          have hbel : Below w.heap.size w w1 := ((hb.alloc hz _).drew).grown hgrow (by simp; omega) (fun q hq => (hownr.lt q hq).1)
          clear hown1 hgrow hat hownr c2 c3 c4 hcp
          go_wp2
          go_roundw
          case rel => exact ⟨k + 1, by omega, by go_num, hfin, hbel⟩
          case measure => simp [intOf]; omega
      · obtain rfl : k = n := by omega
        have HF := hide (faulted (by rw [HN.out] at hownr; exact hownr) hb)
        clear hownr HC HE HT HN
        go_wp2
        go_ret
        exact HF.out

end Go.Proofs.Ytdifjpcfmmipoaa
