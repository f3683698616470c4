/-
  The walks of sort.reverseRange and sort.siftDown over a pointer to a list of errors.
-/
import Derived.Test.YtdifjpcfmmipoaaPtrKit
import Derived.Sort.WalkB2
import Derived.Sort.WalkB12
import Derived.Deep.LoopGhost
namespace Go.Proofs.Ytdifjpcfmmipoaa
open Go.RowKit Go.Sort Go.Lib
variable {B n pb g c : Nat} {A : Option Addr} {lt : Nat → Nat → Bool} {St : Array Nat → World → Prop}

set_option maxRecDepth 1000000 in
set_option maxHeartbeats 2000000 in
theorem reverse_ptr (R : Rig B n pb g A c lt St) {d : Array Nat} {w : World} (hS : St d w) (a b : Nat) (hab : a ≤ b) (hb : b ≤ n) :
    Calls Try.prog 35 #[.iface 44 (.pointer (some ⟨pb, 0, none⟩)), .int .i64 a, .int .i64 b] w fun e w' => e = .returned (.tuple #[]) ∧ St (reverseRange d a b) w' := by
  have hn := R.small
  have RR := hide R
  have eS := enter_swap
  have S0 := hide hS
  clear R hS
  go_enter Try.func35, Try.ntmps35
  go_wp2
  go_loopg [6, 7] (b - a) (fun k vi vj wr => ∃ (i j : Nat) (z : Int) (dk : Array Nat), vi = .int .i64 i ∧ vj = .int .i64 z ∧ ((i : Int) < z → z = j ∧ j < n) ∧ (¬ (i : Int) < z → ¬ i < j) ∧ j - i ≤ k ∧ Hid (St dk wr) ∧ Hid (reverseLoop i j dk = reverseLoop a (b - 1) d))
  case atStart => exact ⟨a, b - 1, (b : Int) - 1, d, rfl, rfl, fun h => ⟨by omega, by omega⟩, fun h => by omega, by omega, S0, rfl⟩
  case round =>
    obtain ⟨i, j, z, dk, rfl, rfl, h1, h2, hk, S1, HE⟩ := hrel
    by_cases hlt : (i : Int) < z
    · obtain ⟨rfl, hj⟩ := h1 hlt
      have hij : i < j := by omega
      have mS := RR.out.findS S1.out
      have hsw := RR.out.swap S1.out i j (by omega) (by omega)
      clear h1 h2
      go_wp2_with (go_at_call 64; refine hsw.mono ?_; rintro e w' ⟨rfl, S2, -⟩)
      go_roundg (j - 1 - (i + 1))
      case measure => omega
      case rel => exact ⟨i + 1, j - 1, (j : Int) - 1, swp dk i j, by go_num, rfl, fun h => ⟨by omega, by omega⟩, fun h => by omega, Nat.le_refl _, S2, by show _ = _; rw [← HE.out, reverseLoop.eq_def i j, if_pos hij]⟩
    · have hnot := h2 hlt
      clear h1 h2
      go_wp2
      go_end0
      refine ⟨rfl, ?_⟩
      have e : reverseRange d a b = dk := by rw [reverseRange, ← HE.out, reverseLoop, if_neg hnot]
      rw [e]
      exact S1.out

/-- The children's places as numbers. -/
theorem z1 (f r : Nat) : ((f + (2 * r + 1) : Nat) : Int) = (f : Int) + (2 * (r : Int) + 1) := by omega
theorem z2 (f r : Nat) : ((f + (2 * r + 2) : Nat) : Int) = (f : Int) + (2 * (r : Int) + 1) + 1 := by omega
theorem z2' (f r : Nat) : ((f + (2 * r + 2) : Nat) : Int) = (f : Int) + (2 * (r : Int) + 1 + 1) := by omega
theorem z0 (f r : Nat) : ((f + r : Nat) : Int) = (f : Int) + (r : Int) := by omega

set_option maxRecDepth 1000000 in
set_option maxHeartbeats 4000000 in
theorem siftDown_ptr (R : Rig B n pb g A c lt St) {d : Array Nat} {w : World} (hS : St d w) (lo hi first : Nat) (hlo : lo ≤ hi) (hb : first + hi ≤ n) :
    Calls Try.prog 39 #[.iface 44 (.pointer (some ⟨pb, 0, none⟩)), .int .i64 lo, .int .i64 hi, .int .i64 first] w fun e w' => e = .returned (.tuple #[]) ∧ St (siftDown lt hi first lo d) w' := by
  have hn := R.small
  have RR := hide R
  have eL := enter_less; have eS := enter_swap
  have S0 := hide hS
  clear R hS
  go_enter Try.func39, Try.ntmps39
  go_wp2
  go_loopg [8] (hi - lo) (fun k v wr => ∃ (root : Nat) (dk : Array Nat), v = .int .i64 root ∧ root ≤ hi ∧ hi - root ≤ k ∧ Hid (St dk wr) ∧ Hid (siftDown lt hi first root dk = siftDown lt hi first lo d))
  case atStart => exact ⟨lo, d, rfl, hlo, Nat.le_refl _, S0, rfl⟩
  case round =>
    obtain ⟨root, dk, rfl, hr, hk, S1, HE⟩ := hrel
    by_cases h0 : hi ≤ 2 * root + 1
    · have h0z : (hi : Int) ≤ 2 * (root : Int) + 1 := by omega
      go_wp2
      go_end0
      refine ⟨rfl, ?_⟩
      rw [← HE.out, sd_end lt dk h0]
      exact S1.out
    · have h0z : ¬ ((hi : Int) ≤ 2 * (root : Int) + 1) := by omega
      have mL : ∀ q, Sem.run _ _ (wr.drewN q) = _ := fun q => RR.out.findL (RR.out.drew S1.out q)
      have mL0 := RR.out.findL S1.out
      have mS : ∀ q, Sem.run _ _ (wr.drewN q) = _ := fun q => RR.out.findS (RR.out.drew S1.out q)
      have HL := hide fun (q i j : Nat) (hi' : i < n) (hj' : j < n) => RR.out.less (RR.out.drew S1.out q) i j hi' hj'
      have HS := hide fun (q i j : Nat) (hi' : i < n) (hj' : j < n) => RR.out.swap (RR.out.drew S1.out q) i j hi' hj'
      by_cases h1 : 2 * root + 2 < hi
      · have h1z : 2 * (root : Int) + 1 + 1 < (hi : Int) := by omega
        have l1 := RR.out.less S1.out (first + (2 * root + 1)) (first + (2 * root + 2)) (by omega) (by omega)
        rw [z1, z2] at l1
        cases hL : lt dk[first + (2 * root + 1)]! dk[first + (2 * root + 2)]! with
        | true =>
          rw [hL] at l1
          have l2 := fun q => HL.out q (first + root) (first + (2 * root + 2)) (by omega) (by omega)
          rw [z0, z2'] at l2
          cases hG : lt dk[first + root]! dk[first + (2 * root + 2)]! with
          | true =>
            rw [hG] at l2
            have sw := fun q => HS.out q (first + root) (first + (2 * root + 2)) (by omega) (by omega)
            rw [z0, z2'] at sw
            have HE2 : Hid (siftDown lt hi first (2 * root + 2) (swp dk (first + root) (first + (2 * root + 2))) = siftDown lt hi first lo d) := by show _ = _; rw [← HE.out, sd_right_go lt dk h1 hL hG]
            clear HE HL HS
            go_wp2_with fail
            refine l1.mono ?_
            rintro e w' ⟨rfl, q1, rfl⟩
            go_wp2_with fail
            refine (l2 _).mono ?_
            rintro e w' ⟨rfl, q2, rfl⟩
            go_wp2_with fail
            refine (sw _).mono ?_
            rintro e w' ⟨rfl, S3, -⟩
            go_wp2
            go_roundg (hi - (2 * root + 2))
            case measure => omega
            case rel => exact ⟨2 * root + 2, _, by go_num, by omega, Nat.le_refl _, S3, HE2⟩
          | false =>
            rw [hG] at l2
            clear HL HS
            go_wp2_with fail
            refine l1.mono ?_
            rintro e w' ⟨rfl, q1, rfl⟩
            go_wp2_with fail
            refine (l2 _).mono ?_
            rintro e w' ⟨rfl, q2, rfl⟩
            go_wp2
            (try simp only [Exit.inBlock, Exit.then])
            refine bodyPost_ret (results_none rfl _ _ _) rfl ?_
            rw [← HE.out, sd_right_stop lt dk h1 hL hG]
            exact ⟨rfl, by first | exact RR.out.drew S1.out _ | exact RR.out.drew (RR.out.drew S1.out _) _⟩
        | false =>
          rw [hL] at l1
          have l2 := fun q => HL.out q (first + root) (first + (2 * root + 1)) (by omega) (by omega)
          rw [z0, z1] at l2
          cases hG : lt dk[first + root]! dk[first + (2 * root + 1)]! with
          | true =>
            rw [hG] at l2
            have sw := fun q => HS.out q (first + root) (first + (2 * root + 1)) (by omega) (by omega)
            rw [z0, z1] at sw
            have HE2 : Hid (siftDown lt hi first (2 * root + 1) (swp dk (first + root) (first + (2 * root + 1))) = siftDown lt hi first lo d) := by show _ = _; rw [← HE.out, sd_left_go lt dk (by omega) (fun _ => hL) hG]
            clear HE HL HS
            go_wp2_with fail
            refine l1.mono ?_
            rintro e w' ⟨rfl, q1, rfl⟩
            go_wp2_with fail
            refine (l2 _).mono ?_
            rintro e w' ⟨rfl, q2, rfl⟩
            go_wp2_with fail
            refine (sw _).mono ?_
            rintro e w' ⟨rfl, S3, -⟩
            go_wp2
            go_roundg (hi - (2 * root + 1))
            case measure => omega
            case rel => exact ⟨2 * root + 1, _, by go_num, by omega, Nat.le_refl _, S3, HE2⟩
          | false =>
            rw [hG] at l2
            clear HL HS
            go_wp2_with fail
            refine l1.mono ?_
            rintro e w' ⟨rfl, q1, rfl⟩
            go_wp2_with fail
            refine (l2 _).mono ?_
            rintro e w' ⟨rfl, q2, rfl⟩
            go_wp2
            (try simp only [Exit.inBlock, Exit.then])
            refine bodyPost_ret (results_none rfl _ _ _) rfl ?_
            rw [← HE.out, sd_left_stop lt dk (by omega) (fun _ => hL) hG]
            exact ⟨rfl, by first | exact RR.out.drew S1.out _ | exact RR.out.drew (RR.out.drew S1.out _) _⟩
      · have h1z : ¬ (2 * (root : Int) + 1 + 1 < (hi : Int)) := by omega
        have l2 := RR.out.less S1.out (first + root) (first + (2 * root + 1)) (by omega) (by omega)
        rw [z0, z1] at l2
        cases hG : lt dk[first + root]! dk[first + (2 * root + 1)]! with
        | true =>
          rw [hG] at l2
          have sw := fun q => HS.out q (first + root) (first + (2 * root + 1)) (by omega) (by omega)
          rw [z0, z1] at sw
          have HE2 : Hid (siftDown lt hi first (2 * root + 1) (swp dk (first + root) (first + (2 * root + 1))) = siftDown lt hi first lo d) := by show _ = _; rw [← HE.out, sd_left_go lt dk (by omega) (fun h => absurd h h1) hG]
          clear HE HL HS
          go_wp2_with (first
            | (go_at_call 63; refine l2.mono ?_; rintro e w' ⟨rfl, q2, rfl⟩)
            | (go_at_call 64; refine (sw _).mono ?_; rintro e w' ⟨rfl, S3, -⟩))
          go_roundg (hi - (2 * root + 1))
          case measure => omega
          case rel => exact ⟨2 * root + 1, _, by go_num, by omega, Nat.le_refl _, S3, HE2⟩
        | false =>
          rw [hG] at l2
          clear HL HS
          go_wp2_with (go_at_call 63; refine l2.mono ?_; rintro e w' ⟨rfl, q2, rfl⟩)
          (try simp only [Exit.inBlock, Exit.then])
          refine bodyPost_ret (results_none rfl _ _ _) rfl ?_
          rw [← HE.out, sd_left_stop lt dk (by omega) (fun h => absurd h h1) hG]
          exact ⟨rfl, by first | exact RR.out.drew S1.out _ | exact RR.out.drew (RR.out.drew S1.out _) _⟩

end Go.Proofs.Ytdifjpcfmmipoaa
