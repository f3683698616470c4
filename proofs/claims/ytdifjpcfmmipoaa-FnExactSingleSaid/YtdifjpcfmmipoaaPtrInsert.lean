/-
  The walk of sort.insertionSort over a pointer to a list of errors: it computes the plain insertion sort.
-/
import Derived.Test.YtdifjpcfmmipoaaPtrKit
import Derived.Outline
namespace Go.Proofs.Ytdifjpcfmmipoaa
open Go.RowKit Go.Sort Go.Lib
variable {B n pb g c : Nat} {A : Option Addr} {lt : Nat → Nat → Bool} {St : Array Nat → World → Prop}

set_option maxRecDepth 100000 in
set_option maxHeartbeats 2000000 in
theorem insertion_ptr (R : Rig B n pb g A c lt St) {d : Array Nat} {w : World} (hS : St d w) (a b : Nat) (hab : a ≤ b) (hb : b ≤ n) :
    Calls Try.prog 31 #[.iface 44 (.pointer (some ⟨pb, 0, none⟩)), .int .i64 a, .int .i64 b] w fun e w' => e = .returned (.tuple #[]) ∧ St (insertionSort lt d a b) w' := by
  have hn := R.small
  have RR := hide R
  have eL := enter_less; have eS := enter_swap
  have S0 := hide hS
  clear R hS
  go_enter Try.func31, Try.ntmps31
  go_wp2
  go_loopw [6] (fun vi wr => ∃ (i : Nat) (dk : Array Nat), vi = .int .i64 i ∧ a < i ∧ i ≤ b + 1 ∧ Hid (St dk wr) ∧ Hid (insOuter lt a b i dk = insOuter lt a b (a + 1) d)) (fun vi _ => b + 1 - (intOf vi).toNat)
  case atStart => exact ⟨a + 1, d, by go_num, by omega, by omega, S0, rfl⟩
  case round =>
    obtain ⟨i, dk, rfl, hai, hib, S1, HO⟩ := hrel
    by_cases hlt : i < b
    · have hltz : (i : Int) < (b : Int) := by omega
      go_wp2
      go_loopw [7] (fun vj wr => ∃ (j : Nat) (dj : Array Nat), vj = .int .i64 j ∧ a ≤ j ∧ j ≤ i ∧ Hid (St dj wr) ∧ Hid (insInner lt a j dj = insInner lt a i dk)) (fun vj _ => (intOf vj).toNat)
      case atStart => exact ⟨i, dk, rfl, by omega, Nat.le_refl _, S1, rfl⟩
      case round =>
        obtain ⟨j, dj, rfl, haj, hji, S2, HI⟩ := hrel
        have OUT := hide fun (hs : j ≤ a ∨ lt dj[j]! dj[j - 1]! = false) (wz : World) (S3 : St dj wz) => show ∃ (i' : Nat) (dk' : Array Nat), Value.int .i64 ((i : Int) + 1) = .int .i64 (i' : Nat) ∧ a < i' ∧ i' ≤ b + 1 ∧ Hid (St dk' wz) ∧ Hid (insOuter lt a b i' dk' = insOuter lt a b (a + 1) d) from
          ⟨i + 1, dj, by go_num, by omega, by omega, S3, by
            show insOuter lt a b (i + 1) dj = _
            rw [← HO.out, insOuter_go _ _ _ _ _ hlt, ← HI.out, insInner_stop _ _ _ _ hs]⟩
        by_cases hja : a < j
        · have hjz : (a : Int) < (j : Int) := by omega
          have mL : ∀ q, Sem.run _ _ (wr.drewN q) = _ := fun q => RR.out.findL (RR.out.drew S2.out q)
          have mL0 := RR.out.findL S2.out
          have mS : ∀ q, Sem.run _ _ (wr.drewN q) = _ := fun q => RR.out.findS (RR.out.drew S2.out q)
          have hl := RR.out.less S2.out j (j - 1) (by omega) (by omega)
          rw [show ((j - 1 : Nat) : Int) = (j : Int) - 1 by omega] at hl
          have hsw := fun q => RR.out.swap (RR.out.drew S2.out q) j (j - 1) (by omega) (by omega)
          rw [show ((j - 1 : Nat) : Int) = (j : Int) - 1 by omega] at hsw
          cases hlv : lt dj[j]! dj[j - 1]! with
          | true =>
            rw [hlv] at hl
            have HI2 : Hid (insInner lt a (j - 1) (swp dj j (j - 1)) = insInner lt a i dk) := by show _ = _; rw [← HI.out, insInner_go lt a j dj hja hlv]
            clear OUT HI
            go_wp2_with (first
              | (go_at_call 63; refine hl.mono ?_; rintro e w' ⟨rfl, q, rfl⟩)
              | (go_at_call 64; refine (hsw _).mono ?_; rintro e w' ⟨rfl, S3, -⟩))
            go_roundw
            case rel =>
              exact ⟨j - 1, swp dj j (j - 1), by congr 1; omega, by omega, by omega, S3, HI2⟩
            case measure => simp [intOf]; omega
          | false =>
            rw [hlv] at hl
            go_wp2_with (go_at_call 63; refine hl.mono ?_; rintro e w' ⟨rfl, q, rfl⟩)
            go_roundw
            case rel => exact OUT.out (Or.inr hlv) _ (RR.out.drew S2.out q)
            case measure => simp [intOf]; omega
        · have hjz : ¬ (a : Int) < (j : Int) := by omega
          go_wp2
          go_roundw
          case rel => exact OUT.out (Or.inl (by omega)) _ S2.out
          case measure => simp [intOf]; omega
    · have hltz : ¬ (i : Int) < (b : Int) := by omega
      go_wp2
      go_end0
      refine ⟨rfl, ?_⟩
      have e : insertionSort lt d a b = dk := by unfold Sort.insertionSort; rw [← HO.out, insOuter_stop _ _ _ _ _ hlt]
      rw [e]
      exact S1.out

end Go.Proofs.Ytdifjpcfmmipoaa
