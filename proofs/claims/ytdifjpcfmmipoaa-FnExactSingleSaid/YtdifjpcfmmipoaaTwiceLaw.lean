/-
  The walk of laws.FnSortedTwice: what is sorted stays when it is sorted again, from whatever order.
-/
import Derived.Test.YtdifjpcfmmipoaaSortImpl
import Derived.Test.YtdifjpcfmmipoaaFits
import Derived.Test.YtdifjpcfmmipoaaBag
import Derived.BigQuiet
namespace Go.Proofs.Ytdifjpcfmmipoaa
open Go.RowKit

theorem fits_len {fs : List Fau} {n : Nat} (h : fits fs = true) (hn : fs.length = n) : n ≤ 2147483647 := by
  simp [fits] at h; omega

theorem FRow.now {w w' : World} {A : Option Addr} {n : Nat} {fs : List Fau} (h : FRow w w.heap.size A n fs) (hb : Below w.heap.size w w') : FRow w' w'.heap.size A n fs := (h.below hb).more hb.size

theorem go_on {w w1 w2 : World} (h : Below w.heap.size w w1) (h2 : Below w1.heap.size w1 w2) : Below w.heap.size w w2 := h.trans (h2.mono h.size)

set_option maxRecDepth 100000 in
set_option maxHeartbeats 1600000 in
theorem twice_any (A : Option Addr) (n c : Nat) (fs : List Fau) (w : World) (hr : FRow w w.heap.size A n fs) (hm : ∀ f ∈ fs, f.msg.size ≤ maxLen) (hmax : n ≤ maxLen) :
    Calls Try.prog 4 #[.slice A n c] w fun e w' => e = .returned (.bool true) ∧ Below w.heap.size w w' := by
  have CF := hide (fits1_any A n c fs w hr hm hmax)
  cases hv : fits fs with
  | false =>
    rw [hv] at CF
    clear hr hm hmax hv
    go_enter Try.func4, Try.ntmps4
    go_wp2_with (go_at_call 9; refine CF.out.mono ?_; rintro e w1 ⟨rfl, q⟩)
    go_ret
    exact ⟨rfl, q⟩
  | true =>
    rw [hv] at CF
    have hn := fits_len hv hr.1
    have CP := hide fun (w1 : World) (hb : Below w.heap.size w w1) => placed_any A n c fs w1 (hr.now hb) hn
    clear hm hmax hv
    cases hp : fs.all place1 with
    | false =>
      rw [hp] at CP
      clear hr hp
      go_enter Try.func4, Try.ntmps4
      go_wp2_with fail
      refine CF.out.mono ?_
      rintro e w1 ⟨rfl, b1⟩
      go_wp2_with fail
      refine (CP.out w1 b1).mono ?_
      rintro e w2 ⟨rfl, b2⟩
      go_wp2
      go_ret
      exact ⟨rfl, go_on b1 b2⟩
    | true =>
      rw [hp] at CP
      have CS := hide fun (B : Option Addr) (d : Nat) (gs : List Fau) (w1 : World) (h : FRow w1 w1.heap.size B n gs) => sortImpl_any B n d gs w1 h hn
      have CE := hide fun (B B' : Option Addr) (d d' : Nat) (gs : List Fau) (w1 : World) (h : FRow w1 w1.heap.size B n gs) (h' : FRow w1 w1.heap.size B' n gs) => sameFaults_any B B' n d d' gs w1 h h' hn
      have CR := hide fun (w1 : World) (h : FRow w1 w1.heap.size A n fs) => reversed_any A n c fs w1 h hn
      have HR := hide fun (w1 : World) (hb : Below w.heap.size w w1) => hr.now hb
      have hne : (decide ((0 : Int) < (n : Int)) && ((n : Int) == 0)) = false := by
        rcases Nat.eq_zero_or_pos n with h | h
        · subst h; rfl
        · have : ((n : Int) == 0) = false := by rw [beq_eq_false_iff_ne]; omega
          rw [this, Bool.and_false]
      clear hp hr
      rcases Nat.eq_zero_or_pos n with h0 | h0
      · subst h0
        clear hne
        go_enter Try.func4, Try.ntmps4
        go_wp2_with fail
        refine CF.out.mono ?_
        rintro e w1 ⟨rfl, b1⟩
        go_wp2_with fail
        refine (CP.out w1 b1).mono ?_
        rintro e w2 ⟨rfl, b2⟩
        have b2 := go_on b1 b2
        go_wp2_with fail
        refine (CS.out A c fs w2 (HR.out w2 b2)).mono ?_
        rintro e w3 ⟨A3, c3, rfl, r3, b3⟩
        have R3 := hide r3
        have b3 := go_on b2 b3
        clear r3
        go_wp2_with fail
        refine (CS.out A3 c3 (srt fs) w3 R3.out).mono ?_
        rintro e w4 ⟨A4, c4, rfl, r4, b4⟩
        have R4 := hide (show FRow w4 w4.heap.size A4 0 (srt fs) by rw [srt_srt] at r4; exact r4)
        have R34 := hide (R3.out.now b4)
        have b4' := go_on b3 b4
        clear r4
        go_wp2_with fail
        refine (CE.out A4 A3 c4 c3 (srt fs) w4 R4.out R34.out).mono ?_
        rintro e w5 ⟨rfl, b5⟩
        have R35 := hide (R34.out.now b5)
        have b5' := go_on b4' b5
        go_wp2_with fail
        refine (CR.out w5 (HR.out w5 b5')).mono ?_
        rintro e w6 ⟨A6, c6, rfl, r6, b6⟩
        have R6 := hide r6
        have R36 := hide (R35.out.now b6)
        have b6' := go_on b5' b6
        clear r6
        go_wp2_with fail
        refine (CS.out A6 c6 fs.reverse w6 R6.out).mono ?_
        rintro e w7 ⟨A7, c7, rfl, r7, b7⟩
        have R7 := hide (show FRow w7 w7.heap.size A7 0 (srt fs) by rw [srt_reverse] at r7; exact r7)
        have R37 := hide (R36.out.now b7)
        have b7' := go_on b6' b7
        clear r7
        go_wp2_with fail
        refine (CE.out A7 A3 c7 c3 (srt fs) w7 R7.out R37.out).mono ?_
        rintro e w8 ⟨rfl, b8⟩
        go_wp2
        go_ret
        exact ⟨rfl, go_on b7' b8⟩
      · have h1 : (0 : Int) < (n : Int) := by omega
        have h2 : ((n : Int) == 0) = false := by rw [beq_eq_false_iff_ne]; omega
        clear hne
        go_enter Try.func4, Try.ntmps4
        go_wp2_with fail
        refine CF.out.mono ?_
        rintro e w1 ⟨rfl, b1⟩
        go_wp2_with fail
        refine (CP.out w1 b1).mono ?_
        rintro e w2 ⟨rfl, b2⟩
        have b2 := go_on b1 b2
        go_wp2_with fail
        refine (CS.out A c fs w2 (HR.out w2 b2)).mono ?_
        rintro e w3 ⟨A3, c3, rfl, r3, b3⟩
        have R3 := hide r3
        have b3 := go_on b2 b3
        clear r3
        go_wp2_with fail
        refine (CS.out A3 c3 (srt fs) w3 R3.out).mono ?_
        rintro e w4 ⟨A4, c4, rfl, r4, b4⟩
        have R4 := hide (show FRow w4 w4.heap.size A4 n (srt fs) by rw [srt_srt] at r4; exact r4)
        have R34 := hide (R3.out.now b4)
        have b4' := go_on b3 b4
        clear r4
        go_wp2_with fail
        refine (CE.out A4 A3 c4 c3 (srt fs) w4 R4.out R34.out).mono ?_
        rintro e w5 ⟨rfl, b5⟩
        have R35 := hide (R34.out.now b5)
        have b5' := go_on b4' b5
        go_wp2_with fail
        refine (CR.out w5 (HR.out w5 b5')).mono ?_
        rintro e w6 ⟨A6, c6, rfl, r6, b6⟩
        have R6 := hide r6
        have R36 := hide (R35.out.now b6)
        have b6' := go_on b5' b6
        clear r6
        go_wp2_with fail
        refine (CS.out A6 c6 fs.reverse w6 R6.out).mono ?_
        rintro e w7 ⟨A7, c7, rfl, r7, b7⟩
        have R7 := hide (show FRow w7 w7.heap.size A7 n (srt fs) by rw [srt_reverse] at r7; exact r7)
        have R37 := hide (R36.out.now b7)
        have b7' := go_on b6' b7
        clear r7
        go_wp2_with fail
        refine (CE.out A7 A3 c7 c3 (srt fs) w7 R7.out R37.out).mono ?_
        rintro e w8 ⟨rfl, b8⟩
        go_wp2
        go_ret
        exact ⟨rfl, go_on b7' b8⟩

end Go.Proofs.Ytdifjpcfmmipoaa
