/-
  The walks of hasFault and hasLine: what is in a list is found there.
-/
import Derived.Test.YtdifjpcfmmipoaaCount
import Derived.Test.YtdifjpcfmmipoaaTwiceLaw
namespace Go.Proofs.Ytdifjpcfmmipoaa
open Go.RowKit

set_option maxRecDepth 100000 in
set_option maxHeartbeats 1600000 in
theorem hasFault_any (A : Option Addr) (n c : Nat) (fs : List Fau) (f : Fau) (w : World) (hr : FRow w w.heap.size A n fs) (hf : f ∈ fs) (hn : n ≤ 2147483647) :
    Calls Try.prog 17 #[.slice A n c, .agg #[.int .i64 f.line, .int .i64 f.col, .string f.msg]] w fun e w' => e = .returned (.bool true) ∧ Below w.heap.size w w' := by
  have hb0 : Below w.heap.size w (w.alloc (.cells #[.int .i64 f.line, .int .i64 f.col, .string f.msg] 27)) := (Below.refl _ _).alloc (Nat.le_refl _) _
  have CC := countOf_any A n c fs f (w.alloc (.cells #[.int .i64 f.line, .int .i64 f.col, .string f.msg] 27)) (hr.now hb0) hn
  have hpos : (0 : Int) < ((fs.count f : Nat) : Int) := by have := List.count_pos_iff.2 hf; omega
  have hpos' : 0 < fs.count f := List.count_pos_iff.2 hf
  have HB := hide hb0
  clear hr hf hb0
  go_enter Try.func17, Try.ntmps17
  go_wp2_with fail
  refine CC.mono ?_
  rintro e w1 ⟨rfl, b1⟩
  go_wp2
  go_ret
  exact ⟨by simp, go_on HB.out b1⟩

set_option maxRecDepth 100000 in
set_option maxHeartbeats 1600000 in
theorem hasLine_any (A : Option Addr) (n c : Nat) (fs : List Fau) (l : Int) (w : World) (hr : FRow w w.heap.size A n fs) (hl : ∃ f ∈ fs, f.line = l) (hn : n ≤ 2147483647) :
    Calls Try.prog 18 #[.slice A n c, .int .i64 l] w fun e w' => e = .returned (.bool true) ∧ Below w.heap.size w w' := by
  have HL := hide hl
  clear hl
  go_enter Try.func18, Try.ntmps18
  go_wp2
  go_loopw [9] (fun i wr => ∃ k : Nat, k ≤ n ∧ i = .int .i64 k ∧ Below w.heap.size w wr ∧ Hid (∀ (j : Nat) (f : Fau), j < k → fs[j]? = some f → f.line ≠ l)) (fun i _ => n - (intOf i).toNat)
  case atStart => exact ⟨0, Nat.zero_le _, rfl, Below.refl _ _, fun j f hj => by omega⟩
  case round =>
    obtain ⟨k, hk, rfl, hb, HN⟩ := hrel
    by_cases hlt : k < n
    · obtain ⟨b, o, g, rfl, hB, hf, hat⟩ := hr.at_ hlt
      have h0 : wr.cell? ⟨b, o + k * 3, none⟩ = some (.int .i64 g.line) := (hb.cell (p := ⟨b, _, none⟩) hB).trans hat.line
      have h1 : wr.cell? ⟨b, o + k * 3 + 1, none⟩ = some (.int .i64 g.col) := (hb.cell (p := ⟨b, _, none⟩) hB).trans hat.col
      have h2 : wr.cell? ⟨b, o + k * 3 + 2, none⟩ = some (.string g.msg) := (hb.cell (p := ⟨b, _, none⟩) hB).trans hat.msg
      have hz := hb.size
      have HF := hide hf
      clear hr hat hf
      by_cases hg : g.line = l
      · have q1 : (g.line == l) = true := beq_iff_eq.2 hg
        clear hg
        go_wp2
        go_ret
        exact ⟨rfl, hb.alloc hz _⟩
      · have q1 : (g.line == l) = false := beq_eq_false_iff_ne.2 hg
        have HG := hide hg
        clear hg
        go_wp2
        go_roundw
        case rel => exact ⟨k + 1, by omega, by go_num, hb.alloc hz _, fun j f hj hjf => by
          rcases Nat.lt_or_ge j k with h | h
          · exact HN.out j f h hjf
          · obtain rfl : j = k := by omega
            have := HF.out
            rw [hjf] at this
            injection this with this
            rw [this]
            exact HG.out⟩
        case measure => simp [intOf]; omega
    · exfalso
      obtain rfl : k = n := by omega
      obtain ⟨f, hf, he⟩ := HL.out
      obtain ⟨j, hj, hje⟩ := List.getElem_of_mem hf
      exact HN.out j f (by have := hr.1; omega) (by rw [List.getElem?_eq_getElem hj, hje]) he

end Go.Proofs.Ytdifjpcfmmipoaa
