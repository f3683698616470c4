/-
  The walk of laws.FnSingleOfSorted: of sorted errors the same ones are left.
-/
import Derived.Test.YtdifjpcfmmipoaaSingle
import Derived.Test.YtdifjpcfmmipoaaTwiceLaw
namespace Go.Proofs.Ytdifjpcfmmipoaa
open Go.RowKit

set_option maxRecDepth 100000 in
set_option maxHeartbeats 1600000 in
theorem ofSorted_any (A : Option Addr) (n c : Nat) (fs : List Fau) (w : World) (hr : FRow w w.heap.size A n fs) (hm : ∀ f ∈ fs, f.msg.size ≤ maxLen) (hmax : n ≤ maxLen) :
    Calls Try.prog 7 #[.slice A n c] w fun e w' => e = .returned (.bool true) ∧ Below w.heap.size w w' := by
  have CF := hide (fits1_any A n c fs w hr hm hmax)
  cases hv : fits fs with
  | false =>
    rw [hv] at CF
    clear hr hm hmax hv
    go_enter Try.func7, Try.ntmps7
    go_wp2_with (go_at_call 9; refine CF.out.mono ?_; rintro e w1 ⟨rfl, q⟩)
    go_ret
    exact ⟨rfl, q⟩
  | true =>
    rw [hv] at CF
    have hn := fits_len hv hr.1
    have CP := hide fun (w1 : World) (hb : Below w.heap.size w w1) => placed_any A n c fs w1 (hr.now hb) hn
    clear hm hmax hv
    cases hp : fs.all place1 with
    | false =>
      rw [hp] at CP
      clear hr hp
      go_enter Try.func7, Try.ntmps7
      go_wp2_with fail
      refine CF.out.mono ?_
      rintro e w1 ⟨rfl, b1⟩
      go_wp2_with fail
      refine (CP.out w1 b1).mono ?_
      rintro e w2 ⟨rfl, b2⟩
      go_wp2
      go_ret
      exact ⟨rfl, go_on b1 b2⟩
    | true =>
      rw [hp] at CP
      have hP := placed_of hp
      have CS := hide fun (w1 : World) (h : FRow w1 w1.heap.size A n fs) => single_any A n c fs w1 h hn
      have HR := hide fun (w1 : World) (hb : Below w.heap.size w w1) => hr.now hb
      have hlen := sgl_length fs
      have hpos := sgl_pos hP
      have hrl := hr.1
      rw [hrl] at hlen hpos
      have CI := hide fun (w1 : World) (h : FRow w1 w1.heap.size A n fs) => sortImpl_any A n c fs w1 h hn
      have CG := hide fun (B : Option Addr) (d : Nat) (w1 : World) (h : FRow w1 w1.heap.size B n (srt fs)) => single_any B n d (srt fs) w1 h hn
      have CE := hide fun (k : Nat) (B B' : Option Addr) (d d' : Nat) (w1 : World) (h : FRow w1 w1.heap.size B k (sgl fs)) (h' : FRow w1 w1.heap.size B' k (sgl fs)) (hk : k ≤ 2147483647) => sameFaults_any B B' k d d' (sgl fs) w1 h h' hk
      obtain ⟨m, hm⟩ : ∃ m, m = (sgl fs).length := ⟨_, rfl⟩
      rw [← hm] at CS hlen hpos
      have HM := hide hm
      clear hp hr hP hm
      have hway : (n = 0 ∧ m = 0) ∨ (0 < n ∧ 0 < m) := by
        rcases Nat.eq_zero_or_pos n with h0 | h0
        · exact .inl ⟨h0, by omega⟩
        · refine .inr ⟨h0, ?_⟩
          rw [decide_eq_true h0] at hpos
          simpa using hpos
      have HPOS := hide hpos
      clear hpos
      rcases hway with ⟨h0, h0'⟩ | ⟨h0, h0'⟩
      · have z1 : ¬ (0 : Int) < (n : Int) := by omega
        have z2 : ((m : Int) == 0) = true := beq_iff_eq.2 (by omega)
        have z3 : ¬ (0 : Int) < (m : Int) := by omega
        have z4 : (m : Int) ≤ (n : Int) := by omega
        clear h0 h0'
        go_enter Try.func7, Try.ntmps7
        go_wp2_with fail
        refine CF.out.mono ?_
        rintro e w1 ⟨rfl, b1⟩
        go_wp2_with fail
        refine (CP.out w1 b1).mono ?_
        rintro e w2 ⟨rfl, b2⟩
        have b2 := go_on b1 b2
        go_wp2_with fail
        refine (CS.out w2 (HR.out w2 b2)).mono ?_
        rintro e w3 ⟨A3, c3, rfl, r3, b3⟩
        have R3 := hide r3
        have b3 := go_on b2 b3
        clear r3 b1 b2
        go_wp2_with fail
        refine (CI.out w3 (HR.out w3 b3)).mono ?_
        rintro e w4 ⟨A4, c4, rfl, r4, b4⟩
        have R34 := hide (R3.out.now b4)
        have R4 := hide r4
        have b4 := go_on b3 b4
        clear r4
        go_wp2_with fail
        refine (CG.out A4 c4 w4 R4.out).mono ?_
        rintro e w5 ⟨A5, c5, rfl, r5, b5⟩
        have R5 := hide (show FRow w5 w5.heap.size A5 m (sgl fs) by rw [sgl_srt, ← HM.out] at r5; exact r5)
        have R35 := hide (R34.out.now b5)
        have b5 := go_on b4 b5
        clear r5
        rw [sgl_srt, ← HM.out]
        go_wp2_with fail
        refine (CE.out m A5 A3 c5 c3 w5 R5.out R35.out (by omega)).mono ?_
        rintro e w6 ⟨rfl, b6⟩
        go_wp2
        go_ret
        exact ⟨rfl, go_on b5 b6⟩
      · have z1 : (0 : Int) < (n : Int) := by omega
        have z2 : ((m : Int) == 0) = false := beq_eq_false_iff_ne.2 (by omega)
        have z3 : (0 : Int) < (m : Int) := by omega
        have z4 : (m : Int) ≤ (n : Int) := by omega
        clear h0 h0'
        go_enter Try.func7, Try.ntmps7
        go_wp2_with fail
        refine CF.out.mono ?_
        rintro e w1 ⟨rfl, b1⟩
        go_wp2_with fail
        refine (CP.out w1 b1).mono ?_
        rintro e w2 ⟨rfl, b2⟩
        have b2 := go_on b1 b2
        go_wp2_with fail
        refine (CS.out w2 (HR.out w2 b2)).mono ?_
        rintro e w3 ⟨A3, c3, rfl, r3, b3⟩
        have R3 := hide r3
        have b3 := go_on b2 b3
        clear r3 b1 b2
        go_wp2_with fail
        refine (CI.out w3 (HR.out w3 b3)).mono ?_
        rintro e w4 ⟨A4, c4, rfl, r4, b4⟩
        have R34 := hide (R3.out.now b4)
        have R4 := hide r4
        have b4 := go_on b3 b4
        clear r4
        go_wp2_with fail
        refine (CG.out A4 c4 w4 R4.out).mono ?_
        rintro e w5 ⟨A5, c5, rfl, r5, b5⟩
        have R5 := hide (show FRow w5 w5.heap.size A5 m (sgl fs) by rw [sgl_srt, ← HM.out] at r5; exact r5)
        have R35 := hide (R34.out.now b5)
        have b5 := go_on b4 b5
        clear r5
        rw [sgl_srt, ← HM.out]
        go_wp2_with fail
        refine (CE.out m A5 A3 c5 c3 w5 R5.out R35.out (by omega)).mono ?_
        rintro e w6 ⟨rfl, b6⟩
        go_wp2
        go_ret
        exact ⟨rfl, go_on b5 b6⟩

end Go.Proofs.Ytdifjpcfmmipoaa
