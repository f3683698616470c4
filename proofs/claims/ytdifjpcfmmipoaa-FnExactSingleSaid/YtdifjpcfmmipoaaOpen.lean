/-
  An argument that is a slice of faults, opened: it reads as a list of faults.
-/
import Derived.Test.YtdifjpcfmmipoaaRows
import Derived.Test.YtdifjpcfmmipoaaWords
import Derived.WalkKit
import Derived.ProofKit
import Derived.OpenShut
import Derived.ShutString
import Derived.ChangeOld
import Derived.Below
import Derived.Deep.Slices
import Derived.Deep.Fields
namespace Go.Proofs.Ytdifjpcfmmipoaa
open Go.ChangeShapes Go.WideShapes Go.ChangeAt Go.RowKit Go.Deep

theorem faultType : ∃ f0 f1 f2 : Field, Try.prog.underlying 27 = some (.struct #[f0, f1, f2]) ∧ f0.offset = 0 ∧ f1.offset = 1 ∧ f2.offset = 2 ∧ f0.type = 3 ∧ f1.type = 3 ∧ f2.type = 9 :=
  ⟨_, _, _, Try.underlying27, rfl, rfl, rfl, rfl, rfl, rfl⟩

section
variable {H : Type} {enc : TypeId × Value → H} {w : World} {base : Nat} {spare : Nat → Bool} {held : Bool}

/-- Three cells that read as a fault. -/
theorem open_fault {fuel : Nat} {cs : List Value} {x : DataW H × List MemPlace} (h : DataW.trod enc Try.prog w base spare held fuel 27 cs = some x) :
    ∃ f : Fau, cs = [.int .i64 f.line, .int .i64 f.col, .string f.msg] ∧ f.ok := by
  obtain ⟨f0, f1, f2, hs, o0, o1, o2, t0, t1, t2⟩ := faultType
  have hC : Try.prog.cellsOf 27 = 3 := by kernel_rfl
  have c3 : Try.prog.cellsOf 3 = 1 := by kernel_rfl
  have c9 : Try.prog.cellsOf 9 = 1 := by kernel_rfl
  obtain ⟨xs, n, _, _, hlen, hxs, hf⟩ := DataW.trod_struct hs h
  rw [hC] at hlen
  have g0 := hf 0 f0 rfl
  have g1 := hf 1 f1 rfl
  have g2 := hf 2 f2 rfl
  rw [o0, t0, c3] at g0
  rw [o1, t1, c3] at g1
  rw [o2, t2, c9] at g2
  match cs, hlen, xs, hxs with
  | [c0, c1, c2], _, [x0, x1, x2], _ =>
    obtain ⟨a, e0, _, wa⟩ := DataW.trod_int Try.underlying3 (show DataW.trod enc Try.prog w base spare held n 3 [c0] = some x0 from g0)
    obtain ⟨b, e1, _, wb⟩ := DataW.trod_int Try.underlying3 (show DataW.trod enc Try.prog w base spare held n 3 [c1] = some x1 from g1)
    obtain ⟨s, e2, _, ws⟩ := DataW.trod_string Try.underlying9 (show DataW.trod enc Try.prog w base spare held n 9 [c2] = some x2 from g2)
    simp only [List.cons.injEq, and_true] at e0 e1 e2
    subst e0; subst e1; subst e2
    exact ⟨⟨a, b, s⟩, rfl, (bounds_i64 wa).1, (bounds_i64 wa).2, (bounds_i64 wb).1, (bounds_i64 wb).2, ws⟩

/-- A SLICE OF FAULTS THAT CAME IN: it reads as a list of faults below every block that is there. -/
theorem open_faults {fuel : Nat} {A : Option Addr} {n c : Nat} {x : DataW H × List MemPlace} (h : DataW.trod enc Try.prog w base spare held fuel 22 [.slice A n c] = some x) :
    ∃ fs, FRow w w.heap.size A n fs ∧ (∀ f ∈ fs, Fau.ok f) ∧ n ≤ maxLen := by
  have hC : Try.prog.cellsOf 27 = 3 := by kernel_rfl
  rcases open_slice Try.underlying22 h with ⟨hcs, _⟩ | ⟨a, len, cap, m, k, D, Pl, hcs, _, hl, hm, hmm, _, hi⟩
  · simp only [List.cons.injEq, Value.slice.injEq, and_true] at hcs
    obtain ⟨rfl, rfl, rfl⟩ := hcs
    exact ⟨[], FRow.nil_, by simp, by simp⟩
  · simp only [List.cons.injEq, Value.slice.injEq, and_true] at hcs
    obtain ⟨rfl, rfl, rfl⟩ := hcs
    have hnm : n ≤ m := by rw [hmm]; split <;> omega
    have key : ∀ i, ∃ f : Fau, i < n → (w.cell? (a.add (i * 3)) = some (.int .i64 f.line) ∧ w.cell? ((a.add (i * 3)).add 1) = some (.int .i64 f.col) ∧ w.cell? ((a.add (i * 3)).add 2) = some (.string f.msg) ∧ Fau.ok f) := by
      intro i
      by_cases hin : i < n
      · obtain ⟨cs', h1, h2⟩ := hi i (by omega)
        rw [hC] at h1
        obtain ⟨f, rfl, hok⟩ := open_fault h2
        obtain ⟨_, _, h3⟩ := World.cells?_some h1
        refine ⟨f, fun _ => ⟨?_, ?_, ?_, hok⟩⟩
        · have := h3 0 (by omega); simpa [Addr.add] using this
        · have := h3 1 (by omega); simpa using this
        · have := h3 2 (by omega); simpa using this
      · exact ⟨⟨0, 0, ByteArray.empty⟩, fun h => absurd h hin⟩
    obtain ⟨F, hF⟩ : ∃ F : Nat → Fau, ∀ i, i < n → (w.cell? (a.add (i * 3)) = some (.int .i64 (F i).line) ∧ w.cell? ((a.add (i * 3)).add 1) = some (.int .i64 (F i).col) ∧ w.cell? ((a.add (i * 3)).add 2) = some (.string (F i).msg) ∧ Fau.ok (F i)) :=
      ⟨fun i => (key i).choose, fun i hin => (key i).choose_spec hin⟩
    refine ⟨(List.range n).map F, ⟨by simp, fun hn => ?_⟩, ?_, by omega⟩
    · obtain ⟨b, o, sp⟩ := a
      have hsp : sp = none := by
        have := (hF 0 hn).1
        simpa [Addr.add] using World.cell?_spot this
      subst hsp
      have hb : b < w.heap.size := by
        have := (hF 0 hn).1
        have := World.block_lt_of_cell? w _ this
        simpa [Addr.add] using this
      refine ⟨b, o, rfl, hb, fun i hi => ?_⟩
      have hin : i < n := by simpa using hi
      obtain ⟨e0, e1, e2, _⟩ := hF i hin
      have ea : (⟨b, o, none⟩ : Addr).add (i * 3) = ⟨b, o + i * 3, none⟩ := by
        unfold Addr.add
        split
        · rename_i h0; rw [h0]; rfl
        · rfl
      rw [ea] at e0 e1 e2
      simp only [List.getElem_map, List.getElem_range]
      exact ⟨e0, e1, e2⟩
    · intro f hf
      obtain ⟨i, hi, rfl⟩ := List.mem_map.1 hf
      exact (hF i (by simpa using hi)).2.2.2

end
end Go.Proofs.Ytdifjpcfmmipoaa
