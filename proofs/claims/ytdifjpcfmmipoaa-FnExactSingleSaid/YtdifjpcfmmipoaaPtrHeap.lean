/-
  The walk of sort.heapSort over a pointer to a list of errors.
-/
import Derived.Test.YtdifjpcfmmipoaaPtrReverse
import Derived.Sort.WalkB3
namespace Go.Proofs.Ytdifjpcfmmipoaa
open Go.RowKit Go.Sort Go.Lib
variable {B n pb g c : Nat} {A : Option Addr} {lt : Nat → Nat → Bool} {St : Array Nat → World → Prop}

set_option maxRecDepth 1000000 in
set_option maxHeartbeats 4000000 in
theorem heapSort_ptr (R : Rig B n pb g A c lt St) {d : Array Nat} {w : World} (hS : St d w) (a b : Nat) (hab : a ≤ b) (hb : b ≤ n) :
    Calls Try.prog 32 #[.iface 44 (.pointer (some ⟨pb, 0, none⟩)), .int .i64 a, .int .i64 b] w fun e w' => e = .returned (.tuple #[]) ∧ St (heapSort lt d a b) w' := by
  have hn := R.small
  have RR := hide R
  have eS := enter_swap
  have S0 := hide hS
  have ecast : ((b - a : Nat) : Int) = (b : Int) - (a : Int) := by omega
  have HC := hide fun (dk : Array Nat) (wk : World) (h : St dk wk) (lo hi first : Nat) (hlo : lo ≤ hi) (hb : first + hi ≤ n) => siftDown_ptr R h lo hi first hlo hb
  clear R hS
  go_enter Try.func32, Try.ntmps32
  go_wp2
  go_loopg [9] ((b - a - 1) / 2 + 1) (fun k v wr => v = .int .i64 ((k : Int) - 1) ∧ k ≤ (b - a - 1) / 2 + 1 ∧ ∃ (dk : Array Nat), Hid (St dk wr) ∧ Hid (heapBuild lt (b - a) a k dk = heapBuild lt (b - a) a ((b - a - 1) / 2 + 1) d))
  case atStart => exact ⟨by rw [half_start hab], Nat.le_refl _, d, S0, rfl⟩
  case round =>
    obtain ⟨rfl, hk, dk, S1, HE⟩ := hrel
    cases gk with
    | zero =>
      have HB : Hid (dk = heapBuild lt (b - a) a ((b - a - 1) / 2 + 1) d) := HE.out
      clear HE hk
      go_wp2
      go_loopg [10] (b - a) (fun k v wr => v = .int .i64 ((k : Int) - 1) ∧ k ≤ b - a ∧ ∃ (dj : Array Nat), Hid (St dj wr) ∧ Hid (heapPop lt a k dj = heapPop lt a (b - a) dk))
      case atStart => exact ⟨by rw [ecast], Nat.le_refl _, dk, S1, rfl⟩
      case round =>
        obtain ⟨rfl, hk, dj, S2, HE2⟩ := hrel
        cases gk with
        | zero =>
          go_wp2
          go_end0
          refine ⟨rfl, ?_⟩
          have e : heapSort lt d a b = dj := by rw [heapSort, ← HB.out, ← HE2.out]; rfl
          rw [e]
          exact S2.out
        | succ k =>
          have mS := RR.out.findS S2.out
          have hsw := RR.out.swap S2.out a (a + k) (by omega) (by omega)
          rw [show ((a + k : Nat) : Int) = (a : Int) + (k : Int) by omega] at hsw
          clear HB
          go_wp2_with fail
          refine hsw.mono ?_
          rintro e w2 ⟨rfl, S3, -⟩
          have hc := HC.out _ _ S3 0 k a (Nat.zero_le _) (by omega)
          clear hsw
          go_wp2_with fail
          refine hc.mono ?_
          rintro e w3 ⟨rfl, S4⟩
          go_wp2
          go_roundg k
          case measure => omega
          case rel => exact ⟨by simp, by omega, _, S4, HE2⟩
    | succ k =>
      have hc := HC.out _ _ S1.out k (b - a) a (by omega) (by omega)
      rw [ecast] at hc
      go_wp2_with fail
      refine hc.mono ?_
      rintro e w3 ⟨rfl, S4⟩
      go_wp2
      go_roundg k
      case measure => omega
      case rel => exact ⟨by simp, by omega, _, S4, HE⟩

end Go.Proofs.Ytdifjpcfmmipoaa
