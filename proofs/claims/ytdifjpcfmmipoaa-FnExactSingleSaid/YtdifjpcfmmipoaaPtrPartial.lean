/-
  The walk of sort.partialInsertionSort over a pointer to a list of errors.
-/
import Derived.Test.YtdifjpcfmmipoaaPtrKit
import Derived.Sort.WalkA6
import Derived.Sort.WalkB2
import Derived.Deep.LoopGhost
namespace Go.Proofs.Ytdifjpcfmmipoaa
open Go.RowKit Go.Sort Go.Lib
variable {B n pb g c : Nat} {A : Option Addr} {lt : Nat → Nat → Bool} {St : Array Nat → World → Prop}

set_option maxRecDepth 1000000 in
set_option maxHeartbeats 8000000 in
theorem partialIns_ptr (R : Rig B n pb g A c lt St) {d : Array Nat} {w : World} (hS : St d w) (a b : Nat) (hab : a < b) (hb : b ≤ n) :
    Calls Try.prog 36 #[.iface 44 (.pointer (some ⟨pb, 0, none⟩)), .int .i64 a, .int .i64 b] w fun e w' => e = .returned (.bool (Sort.partialInsertionSort lt d a b).2) ∧ St (Sort.partialInsertionSort lt d a b).1 w' := by
  have hn := R.small
  have RR := hide R
  have eL := enter_less; have eS := enter_swap
  have S0 := hide hS
  have HL := hide fun (dk : Array Nat) (wk : World) (h : St dk wk) (j : Nat) (h1 : 1 ≤ j) (h2 : j < n) => show Calls Try.prog 63 #[.slice A n c, .int .i64 j, .int .i64 ((j : Int) - 1)] wk fun e w' => e = .returned (.bool (lt dk[j]! dk[j - 1]!)) ∧ ∃ q, w' = wk.drewN q from by
    have := R.less h j (j - 1) h2 (by omega)
    rwa [show ((j - 1 : Nat) : Int) = (j : Int) - 1 by omega] at this
  have HW := hide fun (dk : Array Nat) (wk : World) (h : St dk wk) (j : Nat) (h1 : 1 ≤ j) (h2 : j < n) => show Calls Try.prog 64 #[.slice A n c, .int .i64 j, .int .i64 ((j : Int) - 1)] wk fun e w' => e = .returned (.tuple #[]) ∧ St (swp dk j (j - 1)) w' ∧ wk.grownBy w' (some g) from by
    have := R.swap h j (j - 1) h2 (by omega)
    rwa [show ((j - 1 : Nat) : Int) = (j : Int) - 1 by omega] at this
  clear R hS
  go_enter Try.func36, Try.ntmps36
  go_wp2
  go_loopg [7, 8] 5 (fun k v vs wr => ∃ (i s : Nat) (dk : Array Nat), v = .int .i64 i ∧ vs = .int .i64 s ∧ s ≤ 5 ∧ 5 - s ≤ k ∧ a < i ∧ i ≤ b ∧ Hid (St dk wr) ∧ Hid (partialIns lt a b (5 - s) i dk = partialIns lt a b 5 (a + 1) d))
  case atStart => exact ⟨a + 1, 0, d, by go_num, rfl, by omega, by omega, by omega, by omega, S0, rfl⟩
  case round =>
    obtain ⟨i, s, dk, rfl, rfl, hs5, hk1, hai, hib, S1, HO⟩ := hrel
    by_cases hs : s < 5
    · have hsz : (s : Int) < 5 := by omega
      go_wp2
      go_loopg [7] (b - i) (fun k v wr => ∃ (x : Nat), v = .int .i64 x ∧ i ≤ x ∧ x ≤ b ∧ b - x ≤ k ∧ Hid (St dk wr) ∧ Hid (scanSorted lt dk b x = scanSorted lt dk b i))
      case atStart => exact ⟨i, rfl, Nat.le_refl _, hib, Nat.le_refl _, S1, rfl⟩
      case round =>
        obtain ⟨x, rfl, hix, hxb, hk2, S2, HSc⟩ := hrel
        clear S1
        by_cases hxb' : x < b
        · have hxz : (x : Int) < (b : Int) := by omega
          have m1 := RR.out.findL S2.out
          have m2 : ∀ q, Sem.run _ _ (wr.drewN q) = _ := fun q => RR.out.findS (RR.out.drew S2.out q)
          have l2 := HL.out _ _ S2.out x (by omega) (by omega)
          have w2 := fun q => HW.out _ _ (RR.out.drew S2.out q) x (by omega) (by omega)
          cases hlv : lt dk[x]! dk[x - 1]! with
          | false =>
            rw [hlv] at l2
            clear w2 m2
            go_wp2_with fail
            refine l2.mono ?_
            rintro e w' ⟨rfl, q2, rfl⟩
            go_wp2
            go_roundg (b - (x + 1))
            case measure => omega
            case rel => exact ⟨x + 1, by go_num, by omega, by omega, Nat.le_refl _, RR.out.drew S2.out _, by show _ = _; rw [← HSc.out, scanSorted_go lt dk b x hxb' hlv]⟩
          | true =>
            rw [hlv] at l2
            have HK : Hid (scanSorted lt dk b i = x) := by show _ = _; rw [← HSc.out, scanSorted_stop lt dk b x (Or.inr hlv)]
            have hxne : ((x : Int) == (b : Int)) = false := beq_eq_false_iff_ne.2 (by omega)
            clear HSc
            by_cases h50 : b - a < 50
            · have h50z : (b : Int) - (a : Int) < 50 := by omega
              clear w2 m2
              go_wp2_with fail
              refine l2.mono ?_
              rintro e w' ⟨rfl, q2, rfl⟩
              go_wp2
              have hv : Sort.partialInsertionSort lt d a b = (dk, false) := by
                unfold Sort.partialInsertionSort
                rw [← HO.out, pi_short lt a b s i dk hs (by rw [HK.out]; omega) h50]
              rw [hv]
              go_ret
              exact ⟨rfl, RR.out.drew S2.out _⟩
            · have h50z : ¬ ((b : Int) - (a : Int) < 50) := by omega
              go_wp2_with fail
              refine l2.mono ?_
              rintro e w' ⟨rfl, q2, rfl⟩
              go_wp2_with fail
              refine (w2 _).mono ?_
              rintro e w' ⟨rfl, S3, -⟩
              have S3 := hide S3
              clear w2 m2 m1 l2
              by_cases hxa : x - a ≥ 2
              · have hxaz : (2 : Int) ≤ (x : Int) - (a : Int) := by omega
                go_wp2
                go_loopg [9] (x - 1) (fun k v wr => ∃ (j : Nat) (dj : Array Nat), v = .int .i64 j ∧ j ≤ x - 1 ∧ j ≤ k ∧ Hid (St dj wr) ∧ Hid (shiftDown lt j dj = shiftDown lt (x - 1) (swp dk x (x - 1))))
                case atStart => exact ⟨x - 1, _, by congr 1; omega, Nat.le_refl _, Nat.le_refl _, S3, rfl⟩
                case round =>
                  obtain ⟨j, dj, rfl, hjx, hk3, S4, HDn⟩ := hrel
                  by_cases hj1 : 1 ≤ j
                  · have hj1z : (1 : Int) ≤ (j : Int) := by omega
                    have m1 := RR.out.findL S4.out
                    have m2 : ∀ q, Sem.run _ _ (wr.drewN q) = _ := fun q => RR.out.findS (RR.out.drew S4.out q)
                    have l4 := HL.out _ _ S4.out j (by omega) (by omega)
                    have w4 := fun q => HW.out _ _ (RR.out.drew S4.out q) j (by omega) (by omega)
                    cases hlv2 : lt dj[j]! dj[j - 1]! with
                    | true =>
                      rw [hlv2] at l4
                      go_wp2_with fail
                      refine l4.mono ?_
                      rintro e w' ⟨rfl, q4, rfl⟩
                      go_wp2_with fail
                      refine (w4 _).mono ?_
                      rintro e w' ⟨rfl, S5, -⟩
                      go_wp2
                      go_roundg (j - 1)
                      case measure => omega
                      case rel => exact ⟨j - 1, _, by congr 1; omega, by omega, Nat.le_refl _, S5, by show _ = _; rw [← HDn.out, shiftDown_go lt j dj hj1 hlv2]⟩
                    | false =>
                      rw [hlv2] at l4
                      have HD : Hid (fixDown lt a x (swp dk x (x - 1)) = dj) := by show _ = _; unfold fixDown; rw [if_pos hxa, ← HDn.out, shiftDown_stop lt j dj (Or.inr hlv2)]
                      clear w4 m2
                      go_wp2_with fail
                      refine l4.mono ?_
                      rintro e w' ⟨rfl, q4, rfl⟩
                      have S4 := hide (RR.out.drew S4.out q4)
                      clear l4 m1
                      by_cases hbx : b - x ≥ 2
                      · have hbxz : (2 : Int) ≤ (b : Int) - (x : Int) := by omega
                        go_wp2
                        go_loopg [10] (b - (x + 1)) (fun k v wr => ∃ (j : Nat) (du : Array Nat), v = .int .i64 j ∧ x + 1 ≤ j ∧ j ≤ b ∧ b - j ≤ k ∧ Hid (St du wr) ∧ Hid (shiftUp lt b j du = shiftUp lt b (x + 1) dj))
                        case atStart => exact ⟨x + 1, dj, by go_num, Nat.le_refl _, by omega, Nat.le_refl _, S4, rfl⟩
                        case round =>
                          obtain ⟨j, du, rfl, hxj, hjb, hk4, S5, HU⟩ := hrel
                          by_cases hjb' : j < b
                          · have hjz : (j : Int) < (b : Int) := by omega
                            have m1 := RR.out.findL S5.out
                            have m2 : ∀ q, Sem.run _ _ (wr.drewN q) = _ := fun q => RR.out.findS (RR.out.drew S5.out q)
                            have l5 := HL.out _ _ S5.out j (by omega) (by omega)
                            have w5 := fun q => HW.out _ _ (RR.out.drew S5.out q) j (by omega) (by omega)
                            cases hlv3 : lt du[j]! du[j - 1]! with
                            | true =>
                              rw [hlv3] at l5
                              go_wp2_with fail
                              refine l5.mono ?_
                              rintro e w' ⟨rfl, q5, rfl⟩
                              go_wp2_with fail
                              refine (w5 _).mono ?_
                              rintro e w' ⟨rfl, S6, -⟩
                              go_wp2
                              go_roundg (b - (j + 1))
                              case measure => omega
                              case rel => exact ⟨j + 1, _, by go_num, by omega, by omega, Nat.le_refl _, S6, by show _ = _; rw [← HU.out, shiftUp_go lt b j du hjb' hlv3]⟩
                            | false =>
                              rw [hlv3] at l5
                              go_wp2_with fail
                              refine l5.mono ?_
                              rintro e w' ⟨rfl, q5, rfl⟩
                              go_wp2
                              go_roundg (5 - (s + 1))
                              case measure => omega
                              case rel => exact ⟨x, s + 1, du, rfl, by go_num, by omega, Nat.le_refl _, by omega, by omega, RR.out.drew S5.out _, by
                                show _ = _
                                rw [← HO.out, pi_go lt a b s i x dk hs HK.out (by omega) h50, HD.out]
                                exact congrArg _ (by unfold fixUp; rw [if_pos hbx, ← HU.out, shiftUp_stop lt b j du (Or.inr hlv3)])⟩
                          · have hjz : ¬ (j : Int) < (b : Int) := by omega
                            go_wp2
                            go_roundg (5 - (s + 1))
                            case measure => omega
                            case rel => exact ⟨x, s + 1, du, rfl, by go_num, by omega, Nat.le_refl _, by omega, by omega, S5, by
                              show _ = _
                              rw [← HO.out, pi_go lt a b s i x dk hs HK.out (by omega) h50, HD.out]
                              exact congrArg _ (by unfold fixUp; rw [if_pos hbx, ← HU.out, shiftUp_stop lt b j du (Or.inl hjb')])⟩
                      · have hbxz : ¬ (2 : Int) ≤ (b : Int) - (x : Int) := by omega
                        go_wp2
                        go_roundg (5 - (s + 1))
                        case measure => omega
                        case rel => exact ⟨x, s + 1, dj, rfl, by go_num, by omega, Nat.le_refl _, by omega, by omega, S4, by
                          show _ = _
                          rw [← HO.out, pi_go lt a b s i x dk hs HK.out (by omega) h50, HD.out]
                          exact congrArg _ (by unfold fixUp; rw [if_neg hbx])⟩
                  · have hj1z : ¬ (1 : Int) ≤ (j : Int) := by omega
                    have HD : Hid (fixDown lt a x (swp dk x (x - 1)) = dj) := by show _ = _; unfold fixDown; rw [if_pos hxa, ← HDn.out, shiftDown_stop lt j dj (Or.inl (by omega))]
                    by_cases hbx : b - x ≥ 2
                    · have hbxz : (2 : Int) ≤ (b : Int) - (x : Int) := by omega
                      go_wp2
                      go_loopg [10] (b - (x + 1)) (fun k v wr => ∃ (j : Nat) (du : Array Nat), v = .int .i64 j ∧ x + 1 ≤ j ∧ j ≤ b ∧ b - j ≤ k ∧ Hid (St du wr) ∧ Hid (shiftUp lt b j du = shiftUp lt b (x + 1) dj))
                      case atStart => exact ⟨x + 1, dj, by go_num, Nat.le_refl _, by omega, Nat.le_refl _, S4, rfl⟩
                      case round =>
                        obtain ⟨j, du, rfl, hxj, hjb, hk4, S5, HU⟩ := hrel
                        by_cases hjb' : j < b
                        · have hjz : (j : Int) < (b : Int) := by omega
                          have m1 := RR.out.findL S5.out
                          have m2 : ∀ q, Sem.run _ _ (wr.drewN q) = _ := fun q => RR.out.findS (RR.out.drew S5.out q)
                          have l5 := HL.out _ _ S5.out j (by omega) (by omega)
                          have w5 := fun q => HW.out _ _ (RR.out.drew S5.out q) j (by omega) (by omega)
                          cases hlv3 : lt du[j]! du[j - 1]! with
                          | true =>
                            rw [hlv3] at l5
                            go_wp2_with fail
                            refine l5.mono ?_
                            rintro e w' ⟨rfl, q5, rfl⟩
                            go_wp2_with fail
                            refine (w5 _).mono ?_
                            rintro e w' ⟨rfl, S6, -⟩
                            go_wp2
                            go_roundg (b - (j + 1))
                            case measure => omega
                            case rel => exact ⟨j + 1, _, by go_num, by omega, by omega, Nat.le_refl _, S6, by show _ = _; rw [← HU.out, shiftUp_go lt b j du hjb' hlv3]⟩
                          | false =>
                            rw [hlv3] at l5
                            go_wp2_with fail
                            refine l5.mono ?_
                            rintro e w' ⟨rfl, q5, rfl⟩
                            go_wp2
                            go_roundg (5 - (s + 1))
                            case measure => omega
                            case rel => exact ⟨x, s + 1, du, rfl, by go_num, by omega, Nat.le_refl _, by omega, by omega, RR.out.drew S5.out _, by
                              show _ = _
                              rw [← HO.out, pi_go lt a b s i x dk hs HK.out (by omega) h50, HD.out]
                              exact congrArg _ (by unfold fixUp; rw [if_pos hbx, ← HU.out, shiftUp_stop lt b j du (Or.inr hlv3)])⟩
                        · have hjz : ¬ (j : Int) < (b : Int) := by omega
                          go_wp2
                          go_roundg (5 - (s + 1))
                          case measure => omega
                          case rel => exact ⟨x, s + 1, du, rfl, by go_num, by omega, Nat.le_refl _, by omega, by omega, S5, by
                            show _ = _
                            rw [← HO.out, pi_go lt a b s i x dk hs HK.out (by omega) h50, HD.out]
                            exact congrArg _ (by unfold fixUp; rw [if_pos hbx, ← HU.out, shiftUp_stop lt b j du (Or.inl hjb')])⟩
                    · have hbxz : ¬ (2 : Int) ≤ (b : Int) - (x : Int) := by omega
                      go_wp2
                      go_roundg (5 - (s + 1))
                      case measure => omega
                      case rel => exact ⟨x, s + 1, dj, rfl, by go_num, by omega, Nat.le_refl _, by omega, by omega, S4, by
                        show _ = _
                        rw [← HO.out, pi_go lt a b s i x dk hs HK.out (by omega) h50, HD.out]
                        exact congrArg _ (by unfold fixUp; rw [if_neg hbx])⟩
              · have hxaz : ¬ (2 : Int) ≤ (x : Int) - (a : Int) := by omega
                have HD : Hid (fixDown lt a x (swp dk x (x - 1)) = swp dk x (x - 1)) := by show _ = _; unfold fixDown; rw [if_neg hxa]
                by_cases hbx : b - x ≥ 2
                · have hbxz : (2 : Int) ≤ (b : Int) - (x : Int) := by omega
                  go_wp2
                  go_loopg [10] (b - (x + 1)) (fun k v wr => ∃ (j : Nat) (du : Array Nat), v = .int .i64 j ∧ x + 1 ≤ j ∧ j ≤ b ∧ b - j ≤ k ∧ Hid (St du wr) ∧ Hid (shiftUp lt b j du = shiftUp lt b (x + 1) (swp dk x (x - 1))))
                  case atStart => exact ⟨x + 1, (swp dk x (x - 1)), by go_num, Nat.le_refl _, by omega, Nat.le_refl _, S3, rfl⟩
                  case round =>
                    obtain ⟨j, du, rfl, hxj, hjb, hk4, S5, HU⟩ := hrel
                    by_cases hjb' : j < b
                    · have hjz : (j : Int) < (b : Int) := by omega
                      have m1 := RR.out.findL S5.out
                      have m2 : ∀ q, Sem.run _ _ (wr.drewN q) = _ := fun q => RR.out.findS (RR.out.drew S5.out q)
                      have l5 := HL.out _ _ S5.out j (by omega) (by omega)
                      have w5 := fun q => HW.out _ _ (RR.out.drew S5.out q) j (by omega) (by omega)
                      cases hlv3 : lt du[j]! du[j - 1]! with
                      | true =>
                        rw [hlv3] at l5
                        go_wp2_with fail
                        refine l5.mono ?_
                        rintro e w' ⟨rfl, q5, rfl⟩
                        go_wp2_with fail
                        refine (w5 _).mono ?_
                        rintro e w' ⟨rfl, S6, -⟩
                        go_wp2
                        go_roundg (b - (j + 1))
                        case measure => omega
                        case rel => exact ⟨j + 1, _, by go_num, by omega, by omega, Nat.le_refl _, S6, by show _ = _; rw [← HU.out, shiftUp_go lt b j du hjb' hlv3]⟩
                      | false =>
                        rw [hlv3] at l5
                        go_wp2_with fail
                        refine l5.mono ?_
                        rintro e w' ⟨rfl, q5, rfl⟩
                        go_wp2
                        go_roundg (5 - (s + 1))
                        case measure => omega
                        case rel => exact ⟨x, s + 1, du, rfl, by go_num, by omega, Nat.le_refl _, by omega, by omega, RR.out.drew S5.out _, by
                          show _ = _
                          rw [← HO.out, pi_go lt a b s i x dk hs HK.out (by omega) h50, HD.out]
                          exact congrArg _ (by unfold fixUp; rw [if_pos hbx, ← HU.out, shiftUp_stop lt b j du (Or.inr hlv3)])⟩
                    · have hjz : ¬ (j : Int) < (b : Int) := by omega
                      go_wp2
                      go_roundg (5 - (s + 1))
                      case measure => omega
                      case rel => exact ⟨x, s + 1, du, rfl, by go_num, by omega, Nat.le_refl _, by omega, by omega, S5, by
                        show _ = _
                        rw [← HO.out, pi_go lt a b s i x dk hs HK.out (by omega) h50, HD.out]
                        exact congrArg _ (by unfold fixUp; rw [if_pos hbx, ← HU.out, shiftUp_stop lt b j du (Or.inl hjb')])⟩
                · have hbxz : ¬ (2 : Int) ≤ (b : Int) - (x : Int) := by omega
                  exfalso; omega
        · obtain rfl : x = b := by omega
          have hxz : ¬ (x : Int) < (x : Int) := by omega
          go_wp2
          have hv : Sort.partialInsertionSort lt d a x = (dk, true) := by
            unfold Sort.partialInsertionSort
            rw [← HO.out, pi_true lt a x s i dk hs (by rw [← HSc.out, scanSorted_stop lt dk x x (Or.inl (by omega))])]
          rw [hv]
          go_ret
          exact ⟨rfl, S2.out⟩
    · obtain rfl : s = 5 := by omega
      go_wp2
      have hv : Sort.partialInsertionSort lt d a b = (dk, false) := by
        unfold Sort.partialInsertionSort
        rw [← HO.out, pi_end]
      rw [hv]
      go_ret
      exact ⟨rfl, S1.out⟩

end Go.Proofs.Ytdifjpcfmmipoaa
