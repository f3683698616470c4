/-
  The walk of laws.FnSingleFewer: no more errors are left than there were, and one at least if there was one.
-/
import Derived.Test.YtdifjpcfmmipoaaSingle
import Derived.Test.YtdifjpcfmmipoaaTwiceLaw
namespace Go.Proofs.Ytdifjpcfmmipoaa
open Go.RowKit

set_option maxRecDepth 100000 in
set_option maxHeartbeats 1600000 in
theorem fewer_any (A : Option Addr) (n c : Nat) (fs : List Fau) (w : World) (hr : FRow w w.heap.size A n fs) (hm : ∀ f ∈ fs, f.msg.size ≤ maxLen) (hmax : n ≤ maxLen) :
    Calls Try.prog 6 #[.slice A n c] w fun e w' => e = .returned (.bool true) ∧ Below w.heap.size w w' := by
  have CF := hide (fits1_any A n c fs w hr hm hmax)
  cases hv : fits fs with
  | false =>
    rw [hv] at CF
    clear hr hm hmax hv
    go_enter Try.func6, Try.ntmps6
    go_wp2_with (go_at_call 9; refine CF.out.mono ?_; rintro e w1 ⟨rfl, q⟩)
    go_ret
    exact ⟨rfl, q⟩
  | true =>
    rw [hv] at CF
    have hn := fits_len hv hr.1
    have CP := hide fun (w1 : World) (hb : Below w.heap.size w w1) => placed_any A n c fs w1 (hr.now hb) hn
    clear hm hmax hv
    cases hp : fs.all place1 with
    | false =>
      rw [hp] at CP
      clear hr hp
      go_enter Try.func6, Try.ntmps6
      go_wp2_with fail
      refine CF.out.mono ?_
      rintro e w1 ⟨rfl, b1⟩
      go_wp2_with fail
      refine (CP.out w1 b1).mono ?_
      rintro e w2 ⟨rfl, b2⟩
      go_wp2
      go_ret
      exact ⟨rfl, go_on b1 b2⟩
    | true =>
      rw [hp] at CP
      have hP := placed_of hp
      have CS := hide fun (w1 : World) (h : FRow w1 w1.heap.size A n fs) => single_any A n c fs w1 h hn
      have HR := hide fun (w1 : World) (hb : Below w.heap.size w w1) => hr.now hb
      have hlen := sgl_length fs
      have hpos := sgl_pos hP
      have hrl := hr.1
      rw [hrl] at hlen hpos

      obtain ⟨m, hm⟩ : ∃ m, m = (sgl fs).length := ⟨_, rfl⟩
      rw [← hm] at CS hlen hpos
      have HM := hide hm
      clear hp hr hP hm
      have hway : (n = 0 ∧ m = 0) ∨ (0 < n ∧ 0 < m) := by
        rcases Nat.eq_zero_or_pos n with h0 | h0
        · exact .inl ⟨h0, by omega⟩
        · refine .inr ⟨h0, ?_⟩
          rw [decide_eq_true h0] at hpos
          simpa using hpos
      have HPOS := hide hpos
      clear hpos
      rcases hway with ⟨h0, h0'⟩ | ⟨h0, h0'⟩
      · have z1 : ¬ (0 : Int) < (n : Int) := by omega
        have z2 : ((m : Int) == 0) = true := beq_iff_eq.2 (by omega)
        have z3 : ¬ (0 : Int) < (m : Int) := by omega
        have z4 : (m : Int) ≤ (n : Int) := by omega
        clear h0 h0'
        go_enter Try.func6, Try.ntmps6
        go_wp2_with fail
        refine CF.out.mono ?_
        rintro e w1 ⟨rfl, b1⟩
        go_wp2_with fail
        refine (CP.out w1 b1).mono ?_
        rintro e w2 ⟨rfl, b2⟩
        have b2 := go_on b1 b2
        go_wp2_with fail
        refine (CS.out w2 (HR.out w2 b2)).mono ?_
        rintro e w3 ⟨A3, c3, rfl, r3, b3⟩
        have R3 := hide r3
        have b3 := go_on b2 b3
        clear r3 b1 b2
        go_wp2
        go_ret
        exact ⟨ret_bool (by rw [HPOS.out]; exact beq_self_eq_true _), b3⟩
      · have z1 : (0 : Int) < (n : Int) := by omega
        have z2 : ((m : Int) == 0) = false := beq_eq_false_iff_ne.2 (by omega)
        have z3 : (0 : Int) < (m : Int) := by omega
        have z4 : (m : Int) ≤ (n : Int) := by omega
        clear h0 h0'
        go_enter Try.func6, Try.ntmps6
        go_wp2_with fail
        refine CF.out.mono ?_
        rintro e w1 ⟨rfl, b1⟩
        go_wp2_with fail
        refine (CP.out w1 b1).mono ?_
        rintro e w2 ⟨rfl, b2⟩
        have b2 := go_on b1 b2
        go_wp2_with fail
        refine (CS.out w2 (HR.out w2 b2)).mono ?_
        rintro e w3 ⟨A3, c3, rfl, r3, b3⟩
        have R3 := hide r3
        have b3 := go_on b2 b3
        clear r3 b1 b2
        go_wp2
        go_ret
        exact ⟨ret_bool (by rw [HPOS.out]; exact beq_self_eq_true _), b3⟩

end Go.Proofs.Ytdifjpcfmmipoaa
