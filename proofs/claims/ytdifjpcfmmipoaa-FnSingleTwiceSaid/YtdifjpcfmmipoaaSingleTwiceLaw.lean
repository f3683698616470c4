/-
  The walk of laws.FnSingleTwice: what is left stays when the same is done again, and it is sorted.
-/
import Derived.Test.YtdifjpcfmmipoaaSingle
import Derived.Test.YtdifjpcfmmipoaaTwiceLaw
namespace Go.Proofs.Ytdifjpcfmmipoaa
open Go.RowKit

set_option maxRecDepth 100000 in
set_option maxHeartbeats 1600000 in
theorem singleTwice_any (A : Option Addr) (n c : Nat) (fs : List Fau) (w : World) (hr : FRow w w.heap.size A n fs) (hm : ∀ f ∈ fs, f.msg.size ≤ maxLen) (hmax : n ≤ maxLen) :
    Calls Try.prog 8 #[.slice A n c] w fun e w' => e = .returned (.bool true) ∧ Below w.heap.size w w' := by
  have CF := hide (fits1_any A n c fs w hr hm hmax)
  cases hv : fits fs with
  | false =>
    rw [hv] at CF
    clear hr hm hmax hv
    go_enter Try.func8, Try.ntmps8
    go_wp2_with (go_at_call 9; refine CF.out.mono ?_; rintro e w1 ⟨rfl, q⟩)
    go_ret
    exact ⟨rfl, q⟩
  | true =>
    rw [hv] at CF
    have hn := fits_len hv hr.1
    have CP := hide fun (w1 : World) (hb : Below w.heap.size w w1) => placed_any A n c fs w1 (hr.now hb) hn
    clear hm hmax hv
    cases hp : fs.all place1 with
    | false =>
      rw [hp] at CP
      clear hr hp
      go_enter Try.func8, Try.ntmps8
      go_wp2_with fail
      refine CF.out.mono ?_
      rintro e w1 ⟨rfl, b1⟩
      go_wp2_with fail
      refine (CP.out w1 b1).mono ?_
      rintro e w2 ⟨rfl, b2⟩
      go_wp2
      go_ret
      exact ⟨rfl, go_on b1 b2⟩
    | true =>
      rw [hp] at CP
      have hP := placed_of hp
      have CS := hide fun (w1 : World) (h : FRow w1 w1.heap.size A n fs) => single_any A n c fs w1 h hn
      have HR := hide fun (w1 : World) (hb : Below w.heap.size w w1) => hr.now hb
      have hlen := sgl_length fs
      have hpos := sgl_pos hP
      have hrl := hr.1
      rw [hrl] at hlen hpos
      have CI := hide fun (k : Nat) (B : Option Addr) (d : Nat) (w1 : World) (h : FRow w1 w1.heap.size B k (sgl fs)) (hk : k ≤ 2147483647) => sortImpl_any B k d (sgl fs) w1 h hk
      have CG := hide fun (k : Nat) (B : Option Addr) (d : Nat) (w1 : World) (h : FRow w1 w1.heap.size B k (sgl fs)) (hk : k ≤ 2147483647) => single_any B k d (sgl fs) w1 h hk
      have CE := hide fun (k : Nat) (B B' : Option Addr) (d d' : Nat) (w1 : World) (h : FRow w1 w1.heap.size B k (sgl fs)) (h' : FRow w1 w1.heap.size B' k (sgl fs)) (hk : k ≤ 2147483647) => sameFaults_any B B' k d d' (sgl fs) w1 h h' hk
      obtain ⟨m, hm⟩ : ∃ m, m = (sgl fs).length := ⟨_, rfl⟩
      rw [← hm] at CS hlen hpos
      have HM := hide hm
      clear hp hr hP hm
      have hway : (n = 0 ∧ m = 0) ∨ (0 < n ∧ 0 < m) := by
        rcases Nat.eq_zero_or_pos n with h0 | h0
        · exact .inl ⟨h0, by omega⟩
        · refine .inr ⟨h0, ?_⟩
          rw [decide_eq_true h0] at hpos
          simpa using hpos
      have HPOS := hide hpos
      clear hpos
      rcases hway with ⟨h0, h0'⟩ | ⟨h0, h0'⟩
      · have z1 : ¬ (0 : Int) < (n : Int) := by omega
        have z2 : ((m : Int) == 0) = true := beq_iff_eq.2 (by omega)
        have z3 : ¬ (0 : Int) < (m : Int) := by omega
        have z4 : (m : Int) ≤ (n : Int) := by omega
        clear h0 h0'
        go_enter Try.func8, Try.ntmps8
        go_wp2_with fail
        refine CF.out.mono ?_
        rintro e w1 ⟨rfl, b1⟩
        go_wp2_with fail
        refine (CP.out w1 b1).mono ?_
        rintro e w2 ⟨rfl, b2⟩
        have b2 := go_on b1 b2
        go_wp2_with fail
        refine (CS.out w2 (HR.out w2 b2)).mono ?_
        rintro e w3 ⟨A3, c3, rfl, r3, b3⟩
        have R3 := hide r3
        have b3 := go_on b2 b3
        clear r3 b1 b2
        go_wp2_with fail
        refine (CG.out m A3 c3 w3 R3.out (by omega)).mono ?_
        rintro e w4 ⟨A4, c4, rfl, r4, b4⟩
        have R34 := hide (R3.out.now b4)
        have R4 := hide (show FRow w4 w4.heap.size A4 m (sgl fs) by rw [sgl_sgl, ← HM.out] at r4; exact r4)
        have b4 := go_on b3 b4
        clear r4
        rw [sgl_sgl, ← HM.out]
        go_wp2_with fail
        refine (CE.out m A4 A3 c4 c3 w4 R4.out R34.out (by omega)).mono ?_
        rintro e w5 ⟨rfl, b5⟩
        have R35 := hide (R34.out.now b5)
        have b5 := go_on b4 b5
        go_wp2_with fail
        refine (CI.out m A3 c3 w5 R35.out (by omega)).mono ?_
        rintro e w6 ⟨A6, c6, rfl, r6, b6⟩
        have R6 := hide (show FRow w6 w6.heap.size A6 m (sgl fs) by rw [srt_sgl] at r6; exact r6)
        have R36 := hide (R35.out.now b6)
        have b6 := go_on b5 b6
        clear r6
        go_wp2_with fail
        refine (CE.out m A6 A3 c6 c3 w6 R6.out R36.out (by omega)).mono ?_
        rintro e w7 ⟨rfl, b7⟩
        go_wp2
        go_ret
        exact ⟨rfl, go_on b6 b7⟩
      · have z1 : (0 : Int) < (n : Int) := by omega
        have z2 : ((m : Int) == 0) = false := beq_eq_false_iff_ne.2 (by omega)
        have z3 : (0 : Int) < (m : Int) := by omega
        have z4 : (m : Int) ≤ (n : Int) := by omega
        clear h0 h0'
        go_enter Try.func8, Try.ntmps8
        go_wp2_with fail
        refine CF.out.mono ?_
        rintro e w1 ⟨rfl, b1⟩
        go_wp2_with fail
        refine (CP.out w1 b1).mono ?_
        rintro e w2 ⟨rfl, b2⟩
        have b2 := go_on b1 b2
        go_wp2_with fail
        refine (CS.out w2 (HR.out w2 b2)).mono ?_
        rintro e w3 ⟨A3, c3, rfl, r3, b3⟩
        have R3 := hide r3
        have b3 := go_on b2 b3
        clear r3 b1 b2
        go_wp2_with fail
        refine (CG.out m A3 c3 w3 R3.out (by omega)).mono ?_
        rintro e w4 ⟨A4, c4, rfl, r4, b4⟩
        have R34 := hide (R3.out.now b4)
        have R4 := hide (show FRow w4 w4.heap.size A4 m (sgl fs) by rw [sgl_sgl, ← HM.out] at r4; exact r4)
        have b4 := go_on b3 b4
        clear r4
        rw [sgl_sgl, ← HM.out]
        go_wp2_with fail
        refine (CE.out m A4 A3 c4 c3 w4 R4.out R34.out (by omega)).mono ?_
        rintro e w5 ⟨rfl, b5⟩
        have R35 := hide (R34.out.now b5)
        have b5 := go_on b4 b5
        go_wp2_with fail
        refine (CI.out m A3 c3 w5 R35.out (by omega)).mono ?_
        rintro e w6 ⟨A6, c6, rfl, r6, b6⟩
        have R6 := hide (show FRow w6 w6.heap.size A6 m (sgl fs) by rw [srt_sgl] at r6; exact r6)
        have R36 := hide (R35.out.now b6)
        have b6 := go_on b5 b6
        clear r6
        go_wp2_with fail
        refine (CE.out m A6 A3 c6 c3 w6 R6.out R36.out (by omega)).mono ?_
        rintro e w7 ⟨rfl, b7⟩
        go_wp2
        go_ret
        exact ⟨rfl, go_on b6 b7⟩

end Go.Proofs.Ytdifjpcfmmipoaa
