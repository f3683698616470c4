/-
  The walks of ErrorList's Len, Less and Swap: Less compares two errors by line, then column, then message.
-/
import Derived.Test.YtdifjpcfmmipoaaErrList
import Derived.Test.YtdifjpcfmmipoaaPlain
import Derived.RegionTactic
import Derived.Deep.QuietTactic
import Derived.BigQuiet
import Derived.BigRegion
import Derived.Sort.Walk0
namespace Go.Proofs.Ytdifjpcfmmipoaa
open Go.RowKit Go.Sort

/-- Block b holds the error of fault f. -/
def ErrAt (W : World) (b : Nat) (f : Fau) : Prop := W.heap[b]? = some (.cells (errCells f) 43 (0, 0))

theorem ErrAt.cell {W : World} {b : Nat} {f : Fau} (h : ErrAt W b f) (i : Nat) : W.cell? ⟨b, i, none⟩ = (errCells f)[i]? := cell_of_row W b i _ _ (0, 0) h

theorem less_str (s t : ByteArray) : Op.bytesLess s.toList t.toList = ltStr s.data.toList t.data.toList := by
  rw [ByteArray.toList_eq, ByteArray.toList_eq, bytesLess_eq]; rfl

theorem len_any (p : Option Addr) (n c : Nat) (W : World) : Calls Try.prog 62 #[.slice p n c] W fun e w' => e = .returned (.int .i64 n) ∧ W = w' := by
  go_enter Try.func62, Try.ntmps62
  go_wp2
  go_ret
  exact ⟨rfl, rfl⟩

set_option maxRecDepth 100000 in
set_option maxHeartbeats 1600000 in
theorem less_any (blk off c size i j a b : Nat) (f g : Fau) (W : World) (hi : i < size) (hj : j < size) (_hsz : size < 4611686018427387904)
    (ci : W.cell? ⟨blk, off + i, none⟩ = some (.pointer (some ⟨a, 0, none⟩))) (cj : W.cell? ⟨blk, off + j, none⟩ = some (.pointer (some ⟨b, 0, none⟩))) (ha : ErrAt W a f) (hb : ErrAt W b g) :
    Calls Try.prog 63 #[.slice (some ⟨blk, off, none⟩) size c, .int .i64 i, .int .i64 j] W fun e w' => e = .returned (.bool (ltF f g)) ∧ ∃ q, w' = W.drewN q := by
  have a0 : W.cell? ⟨a, 0, none⟩ = some (.string ⟨#[]⟩) := ha.cell 0
  have a2 : W.cell? ⟨a, 2, none⟩ = some (.int .i64 f.line) := ha.cell 2
  have a3 : W.cell? ⟨a, 3, none⟩ = some (.int .i64 f.col) := ha.cell 3
  have a4 : W.cell? ⟨a, 4, none⟩ = some (.string f.msg) := ha.cell 4
  have b0 : W.cell? ⟨b, 0, none⟩ = some (.string ⟨#[]⟩) := hb.cell 0
  have b2 : W.cell? ⟨b, 2, none⟩ = some (.int .i64 g.line) := hb.cell 2
  have b3 : W.cell? ⟨b, 3, none⟩ = some (.int .i64 g.col) := hb.cell 3
  have b4 : W.cell? ⟨b, 4, none⟩ = some (.string g.msg) := hb.cell 4
  clear ha hb
  by_cases h1 : f.line = g.line
  · have e1 : (f.line == g.line) = true := beq_iff_eq.2 h1
    have e1' : (f.line != g.line) = false := by simp [bne, e1]
    by_cases h2 : f.col = g.col
    · have HR := hide ((less_str f.msg g.msg).trans (ltF_msg h1 h2).symm)
      have e2 : (f.col == g.col) = true := beq_iff_eq.2 h2
      have e2' : (f.col != g.col) = false := by simp [bne, e2]
      clear h1 h2
      go_enter Try.func63, Try.ntmps63
      go_wp2
      go_quiet (fail)
      go_wp2
      go_quiet (fail)
      go_wp2
      go_quiet (fail)
      go_wp2
      go_quiet (fail)
      go_wp2
      go_ret
      exact ⟨ret_bool HR.out, by simp only [World.drewN_drewN]; exact ⟨_, rfl⟩⟩
    · have HR := hide (ltF_col h1 h2)
      have e2 : (f.col == g.col) = false := beq_eq_false_iff_ne.2 h2
      have e2' : (f.col != g.col) = true := by simp [bne, e2]
      clear h1 h2
      go_enter Try.func63, Try.ntmps63
      go_wp2
      go_quiet (fail)
      go_wp2
      go_quiet (fail)
      go_wp2
      go_quiet (fail)
      go_wp2
      go_quiet (fail)
      go_wp2
      go_ret
      exact ⟨ret_bool HR.out.symm, by simp only [World.drewN_drewN]; exact ⟨_, rfl⟩⟩
  · have HR := hide (ltF_line h1)
    have e1 : (f.line == g.line) = false := beq_eq_false_iff_ne.2 h1
    have e1' : (f.line != g.line) = true := by simp [bne, e1]
    clear h1
    go_enter Try.func63, Try.ntmps63
    go_wp2
    go_quiet (fail)
    go_wp2
    go_quiet (fail)
    go_wp2
    go_quiet (fail)
    go_wp2
    go_ret
    exact ⟨ret_bool HR.out.symm, by simp only [World.drewN_drewN]; exact ⟨_, rfl⟩⟩

set_option maxRecDepth 100000 in
set_option maxHeartbeats 1600000 in
theorem swap_any (blk off c size : Nat) (W : World) (x y : Value) (i j : Nat) (hi : i < size) (hj : j < size) (_hsz : size < 4611686018427387904)
    (ci : W.cell? ⟨blk, off + i, none⟩ = some x) (cj : W.cell? ⟨blk, off + j, none⟩ = some y) (fi : W.frozen? ⟨blk, off + i, none⟩ = false) (fj : W.frozen? ⟨blk, off + j, none⟩ = false) (hx : ∃ p, x = .pointer p) (hy : ∃ p, y = .pointer p) :
    Calls Try.prog 64 #[.slice (some ⟨blk, off, none⟩) size c, .int .i64 i, .int .i64 j] W fun e w' => e = .returned (.tuple #[]) ∧ ∃ q, w' = ((W.setCell ⟨blk, off + i, none⟩ y).setCell ⟨blk, off + j, none⟩ x).drewN q := by
  obtain ⟨p, rfl⟩ := hx
  obtain ⟨p', rfl⟩ := hy
  obtain ⟨v', hy'⟩ := cell?_setCell_some (w := W) (p := ⟨blk, off + i, none⟩) (x := .pointer p') (q := ⟨blk, off + j, none⟩) cj
  go_enter Try.func64, Try.ntmps64
  go_wp2
  go_region
  all_goals (try go_wp2)
  all_goals go_end0
  all_goals exact ⟨rfl, 1, rfl⟩

end Go.Proofs.Ytdifjpcfmmipoaa
