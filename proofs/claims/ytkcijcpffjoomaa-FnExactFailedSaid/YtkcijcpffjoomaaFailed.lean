/-
  The walks of Err, impl.Failed and laws.FnExactFailed: a list without errors is none, and each other one is an error.
-/
import Derived.Test.YtkcijcpffjoomaaFits
import Derived.Test.YtkcijcpffjoomaaErrList
import Derived.WideLaws
namespace Go.Proofs.Ytkcijcpffjoomaa
open Go.RowKit

theorem errType : Try.prog.underlying 28 = some (.interface (Try.prog.methodsAt 28)) := by kernel_rfl

theorem err_none (A : Option Addr) (c : Nat) (w : World) : Calls Try.prog 8 #[.slice A 0 c] w fun e w' => e = .returned .nilIface ∧ w = w' := by
  go_enter Try.func8, Try.ntmps8
  go_wp2
  go_ret
  exact ⟨rfl, rfl⟩

theorem err_some (A : Option Addr) (n c : Nat) (w : World) (hn : 0 < n) (hm : n ≤ 2147483647) : Calls Try.prog 8 #[.slice A n c] w fun e w' => e = .returned (.iface 30 (.slice A n c)) ∧ w = w' := by
  have h : ((n : Int) == 0) = false := by rw [beq_eq_false_iff_ne]; omega
  go_enter Try.func8, Try.ntmps8
  go_wp2
  go_ret
  exact ⟨rfl, rfl⟩

theorem own_slice {w : World} {base n : Nat} {e : TypeId} {v : Value} {xs : List Value} (h : w.ownsRow base e 1 v n xs) : ∃ A c, v = .slice A n c := by
  rcases h.2 with ⟨rfl, rfl⟩ | ⟨g, cap, _, rfl, _⟩
  · exact ⟨_, _, rfl⟩
  · exact ⟨_, _, rfl⟩

theorem failed_any (A : Option Addr) (n c : Nat) (fs : List Fau) (w : World) (hr : FRow w w.heap.size A n fs) (hn : n ≤ 2147483647) :
    Calls Try.prog 5 #[.slice A n c] w fun e w' => e = .returned (.bool (decide (0 < n))) ∧ Below w.heap.size w w' := by
  have CL := hide (list_any A n c fs w hr hn)
  clear hr
  have hn1 := fun w => run_neq_nil_nil (P := Try.prog) w 28 errType
  have hn2 := fun w x => run_neq_held_nil (P := Try.prog) w 28 30 x errType
  rcases Nat.eq_zero_or_pos n with h0 | h0
  · subst h0
    go_enter Try.func5, Try.ntmps5
    go_wp2_with (go_at_call 7; refine CL.out.mono ?_; rintro e w1 ⟨v, bs, rfl, q1, _, q3⟩)
    obtain ⟨B, d, rfl⟩ := own_slice q1
    go_wp2_with (go_at_call 8; refine (err_none _ _ _).mono ?_; rintro e w' ⟨rfl, rfl⟩)
    go_ret
    exact ⟨rfl, q3⟩
  · go_enter Try.func5, Try.ntmps5
    go_wp2_with (go_at_call 7; refine CL.out.mono ?_; rintro e w1 ⟨v, bs, rfl, q1, _, q3⟩)
    obtain ⟨B, d, rfl⟩ := own_slice q1
    go_wp2_with (go_at_call 8; refine (err_some _ _ _ _ h0 hn).mono ?_; rintro e w' ⟨rfl, rfl⟩)
    go_ret
    exact ⟨ret_bool (by simp [h0]), q3⟩

theorem fits_len {fs : List Fau} {n : Nat} (h : fits fs = true) (hn : fs.length = n) : n ≤ 2147483647 := by
  simp [fits] at h; omega

theorem law_any (A : Option Addr) (n c : Nat) (fs : List Fau) (w : World) (hr : FRow w w.heap.size A n fs) (hm : ∀ f ∈ fs, f.msg.size ≤ maxLen) (hmax : n ≤ maxLen) :
    Calls Try.prog 3 #[.slice A n c] w fun e w' => e = .returned (.bool true) ∧ Below w.heap.size w w' := by
  have CF := hide (fits1_any A n c fs w hr hm hmax)
  cases hv : fits fs with
  | false =>
    rw [hv] at CF
    clear hr hm hmax hv
    go_enter Try.func3, Try.ntmps3
    go_wp2_with (go_at_call 4; refine CF.out.mono ?_; rintro e w1 ⟨rfl, q⟩)
    go_ret
    exact ⟨rfl, q⟩
  | true =>
    rw [hv] at CF
    have hn := fits_len hv hr.1
    have CL := hide fun (w1 : World) (hb : Below w.heap.size w w1) => failed_any A n c fs w1 ((hr.below hb).more hb.size) hn
    clear hr hm hmax hv
    rcases Nat.eq_zero_or_pos n with h0 | h0
    · subst h0
      go_enter Try.func3, Try.ntmps3
      go_wp2_with (go_at_call 4; refine CF.out.mono ?_; rintro e w1 ⟨rfl, q⟩)
      go_wp2_with (go_at_call 5; refine (CL.out _ q).mono ?_; rintro e w2 ⟨rfl, q2⟩)
      go_ret
      exact ⟨rfl, q.trans (q2.mono q.size)⟩
    · have h1 : decide (0 < n) = true := by simpa using h0
      rw [h1] at CL
      go_enter Try.func3, Try.ntmps3
      go_wp2_with (go_at_call 4; refine CF.out.mono ?_; rintro e w1 ⟨rfl, q⟩)
      go_wp2_with (go_at_call 5; refine (CL.out _ q).mono ?_; rintro e w2 ⟨rfl, q2⟩)
      go_ret
      exact ⟨ret_bool (by simp), q.trans (q2.mono q.size)⟩

end Go.Proofs.Ytkcijcpffjoomaa
