/-
  The walk of sort.pdqsort over a pointer to a list of errors: it computes the plain pattern-defeating quicksort.
-/
import Derived.Test.YtdifjpcfmmipoaaPtrInsert
import Derived.Test.YtdifjpcfmmipoaaPtrReverse
import Derived.Test.YtdifjpcfmmipoaaPtrHeap
import Derived.Test.YtdifjpcfmmipoaaPtrPartial
import Derived.Test.YtdifjpcfmmipoaaPtrPivot
import Derived.Test.YtdifjpcfmmipoaaPtrPart
import Derived.Test.YtdifjpcfmmipoaaPtrBreak
import Derived.Shelf.GgSortFunc.Pdq
namespace Go.Proofs.Ytdifjpcfmmipoaa
open Go.RowKit Go.Sort Go.Lib
variable {B n pb g c : Nat} {A : Option Addr} {lt : Nat → Nat → Bool} {St : Array Nat → World → Prop}

set_option maxRecDepth 1000000 in
set_option maxHeartbeats 12800000 in
theorem pdq_ptr (R : Rig B n pb g A c lt St) :
    ∀ (N a b limit : Nat) (d : Array Nat) (w : World), b - a < N → St d w → a ≤ b → b ≤ n → limit < 4611686018427387904 → Sort.Below lt a b d →
    Calls Try.prog 28 #[.iface 44 (.pointer (some ⟨pb, 0, none⟩)), .int .i64 a, .int .i64 b, .int .i64 limit] w fun e w' => e = .returned (.tuple #[]) ∧ St (pdq lt d a b limit true true) w' := by
  intro N
  induction N with
  | zero => intro _ _ _ _ _ h; exact absurd h (Nat.not_lt_zero _)
  | succ N ih =>
    intro a b limit d w hN hS hab hb hlimit hBel0
    have hn := R.small
    have hO := R.order
    have RR := hide R
    have IH := hide ih
    have S0 := hide hS
    have eL := enter_less
    clear R ih hS
    go_enter Try.func28, Try.ntmps28
    go_wp2
    go_loopg [1, 2, 3, 8, 9] (b - a) (fun k s1 s2 s3 s8 s9 wr => ∃ (a' b' lim : Nat) (wb wp : Bool) (dk : Array Nat), s1 = .int .i64 a' ∧ s2 = .int .i64 b' ∧ s3 = .int .i64 lim ∧ s8 = .bool wb ∧ s9 = .bool wp ∧
      a' ≤ b' ∧ b' ≤ n ∧ b' - a' ≤ k ∧ k ≤ b - a ∧ lim ≤ limit ∧ Hid (Sort.Below lt a' b' dk) ∧ Hid (St dk wr) ∧ Hid (pdq lt dk a' b' lim wb wp = pdq lt d a b limit true true))
    case atStart => exact ⟨a, b, limit, true, true, d, rfl, rfl, rfl, rfl, rfl, hab, hb, Nat.le_refl _, Nat.le_refl _, Nat.le_refl _, hBel0, S0, rfl⟩
    case round =>
      obtain ⟨a', b', lim, wb, wp, dk, rfl, rfl, rfl, rfl, rfl, hab', hb', hk, hkN, hlim, hBel, S1, HE⟩ := hrel
      have hds := RR.out.size S1.out
      by_cases h12 : b' - a' ≤ 12
      · have h12z : (b' : Int) - (a' : Int) ≤ 12 := by omega
        have hc := insertion_ptr RR.out S1.out a' b' hab' hb'
        go_wp2_with fail
        refine hc.mono ?_
        rintro e w1 ⟨rfl, S2⟩
        go_wp2
        (try simp only [Exit.inBlock, Exit.then])
        refine bodyPost_ret (results_none rfl _ _ _) rfl ?_
        refine ⟨rfl, ?_⟩
        rw [← HE.out, pdq_small h12]
        exact S2
      · have h12z : ¬ ((b' : Int) - (a' : Int) ≤ 12) := by omega
        by_cases hl0 : lim = 0
        · subst hl0
          have hc := heapSort_ptr RR.out S1.out a' b' hab' hb'
          go_wp2_with fail
          refine hc.mono ?_
          rintro e w1 ⟨rfl, S2⟩
          go_wp2
          (try simp only [Exit.inBlock, Exit.then])
          refine bodyPost_ret (results_none rfl _ _ _) rfl ?_
          refine ⟨rfl, ?_⟩
          rw [← HE.out, pdq_heap h12 rfl]
          exact S2
        · have hl0z : ¬ ((lim : Int) = 0) := by omega
          obtain ⟨s1, B1, hc1, s2, B2, hpv, s3, B3⟩ := rd_facts (lt := lt) (limit := lim) (wb := wb) (wp := wp) hO partialInsertionSort_holds reverseRange_holds (show a' < b' by omega) (show b' ≤ dk.size by omega) hBel.out
          go_upto_if 35 with fail
          go_cut [3] from 19 (fun s3 wc => s3 = .int .i64 (rd lt dk a' b' lim wb wp).lim ∧ Hid (St (rd lt dk a' b' lim wb wp).d1 wc))
          case first =>
            cases wb
            · have hc := break_ptr RR.out S1.out a' b' hab' hb'
              go_wp2_with fail
              refine hc.mono ?_
              rintro e w1 ⟨rfl, S2⟩
              go_wp2
              go_meet
              case rel =>
                refine ⟨?_, S2⟩
                show Value.int .i64 ((lim : Int) - 1) = Value.int .i64 ((lim - 1 : Nat) : Int)
                congr 1
                omega
            · go_wp2_with fail
              go_meet
              case rel => exact ⟨rfl, S1⟩
          case rest =>
            obtain ⟨rfl, S2⟩ := hcut
            clear S1
            have hc := choosePivot_ptr RR.out S2.out a' b' (by omega) hb'
            have hc : Calls Try.prog 34 #[.iface 44 (.pointer (some ⟨pb, 0, none⟩)), .int .i64 a', .int .i64 b'] wc fun e w' => e = .returned (.tuple #[.int .i64 (rd lt dk a' b' lim wb wp).c.1, .int .i64 (hintCode (rd lt dk a' b' lim wb wp).c.2)]) ∧ Hid (St (rd lt dk a' b' lim wb wp).d1 w') := hc
            go_upto_if 50 with (go_at_call 34; refine hc.mono ?_; rintro e w2 ⟨rfl, S3⟩)
            go_cut [11, 12] from 19 (fun s11 s12 wc => s11 = .int .i64 (rd lt dk a' b' lim wb wp).pivot ∧ s12 = .int .i64 (hintCode (rd lt dk a' b' lim wb wp).hint) ∧ Hid (St (rd lt dk a' b' lim wb wp).d2 wc))
            case first =>
              by_cases hh : (rd lt dk a' b' lim wb wp).c.2 = .decreasing
              · have hcode : hintCode (rd lt dk a' b' lim wb wp).c.2 = 2 := by rw [hh]; rfl
                obtain ⟨e2, epv, eht⟩ := rd_dec hh
                have hcr := reverse_ptr RR.out S3.out a' b' hab' hb'
                go_wp2_with fail
                refine hcr.mono ?_
                rintro e w3 ⟨rfl, S4⟩
                go_wp2
                go_meet
                case rel =>
                  refine ⟨?_, by rw [eht]; rfl, by rw [e2]; exact S4⟩
                  rw [epv]
                  congr 1
                  omega
              · have hcode : ¬ (hintCode (rd lt dk a' b' lim wb wp).c.2 = 2) := fun h => hh (hintCode_two h)
                obtain ⟨e2, epv, eht⟩ := rd_not hh
                go_wp2_with fail
                go_meet
                case rel => exact ⟨by rw [epv], by rw [eht], by rw [e2]; exact S3⟩
            case rest =>
              obtain ⟨rfl, rfl, S4⟩ := hcut
              clear S2 S3 hc
              go_upto_region 15 with fail
              go_cut [12, 68] from 19 (fun s12 s68 wx => s12 = .int .i64 (hintCode (rd lt dk a' b' lim wb wp).hint) ∧ s68 = .bool (wb && wp && decide ((rd lt dk a' b' lim wb wp).hint = .increasing)) ∧ wx = wc)
              case first =>
                cases wb <;> cases wp <;> cases hh3 : (rd lt dk a' b' lim _ _).hint <;>
                  (have hcode3 := congrArg hintCode hh3
                   simp only [hintCode] at hcode3
                   go_wp2_with fail
                   go_meet
                   exact ⟨by simp [hh3, hintCode], by simp [hh3, hintCode], rfl⟩)
              case rest =>
                obtain ⟨rfl, rfl, rfl⟩ := hcut
                go_upto_if 68 with fail
                go_cut [] from 19 (fun wx => (rd lt dk a' b' lim wb wp).pi.2 = false ∧ Hid (St (rd lt dk a' b' lim wb wp).pi.1 wx))
                case first =>
                  cases h68 : (wb && wp && decide ((rd lt dk a' b' lim wb wp).hint = .increasing))
                  · have epi := rd_pi_no h68
                    go_wp2_with fail
                    go_meet
                    case rel => exact ⟨by rw [epi], by rw [epi]; exact S4⟩
                  · have epi := rd_pi_yes h68
                    have hcp := partialIns_ptr RR.out S4.out a' b' (by omega) hb'
                    rw [← epi] at hcp
                    go_wp2_with fail
                    refine hcp.mono ?_
                    rintro e w4 ⟨rfl, S5⟩
                    go_wp2
                    all_goals first
                      | (have hp2 : (rd lt dk a' b' lim wb wp).pi.2 = false := by rw [epi]; assumption
                         go_meet
                         exact ⟨hp2, S5⟩)
                      | (have hp2 : (rd lt dk a' b' lim wb wp).pi.2 = true := by rw [epi]; assumption
                         (try simp only [Exit.inBlock, Exit.then])
                         refine bodyPost_ret (results_none rfl _ _ _) rfl ?_
                         refine ⟨rfl, ?_⟩
                         rw [← HE.out, pdq_done h12 hl0 hp2]
                         exact S5)
                case rest =>
                  obtain ⟨hp2, S5⟩ := hcut
                  clear S4
                  go_upto_region 17 with fail
                  go_cut [82] from 19 (fun s82 wx => s82 = .bool (decide (a' > 0) && !lt (rd lt dk a' b' lim wb wp).pi.1[a' - 1]! (rd lt dk a' b' lim wb wp).pi.1[(rd lt dk a' b' lim wb wp).pivot]!) ∧ Hid (St (rd lt dk a' b' lim wb wp).pi.1 wx))
                  case first =>
                    rcases Nat.eq_zero_or_pos a' with ha0 | ha0
                    · have ha0z : decide ((a' : Int) > 0) = false := decide_eq_false (by omega)
                      go_wp2_with fail
                      go_meet
                      case rel => exact ⟨by simp [ha0], S5⟩
                    · have ha0z : (a' : Int) > 0 := by omega
                      have m1 := RR.out.findL S5.out
                      have l1 := RR.out.less S5.out (a' - 1) (rd lt dk a' b' lim wb wp).pivot (by omega) (by omega)
                      rw [show ((a' - 1 : Nat) : Int) = (a' : Int) - 1 by omega] at l1
                      cases hlv : lt (rd lt dk a' b' lim wb wp).pi.1[a' - 1]! (rd lt dk a' b' lim wb wp).pi.1[(rd lt dk a' b' lim wb wp).pivot]! <;>
                        (rw [hlv] at l1
                         go_wp2_with fail
                         refine l1.mono ?_
                         rintro e w5 ⟨rfl, q, rfl⟩
                         go_wp2
                         go_meet
                         exact ⟨by simp [ha0, hlv], RR.out.drew S5.out q⟩)
                  case rest =>
                    obtain ⟨rfl, S6⟩ := hcut
                    clear S5
                    cases h87 : (decide (a' > 0) && !lt (rd lt dk a' b' lim wb wp).pi.1[a' - 1]! (rd lt dk a' b' lim wb wp).pi.1[(rd lt dk a' b' lim wb wp).pivot]!)
                    · obtain ⟨mid, ap, d4, hx⟩ : ∃ mid ap d4, partition lt (rd lt dk a' b' lim wb wp).pi.1 a' b' (rd lt dk a' b' lim wb wp).pivot = (mid, ap, d4) := ⟨_, _, _, rfl⟩
                      obtain ⟨r1, r2, r3, r4, r5, r6, r7⟩ := round_part hO (partition_holds lt) hpv.1 hpv.2 (show b' ≤ (rd lt dk a' b' lim wb wp).pi.1.size by omega) B3 hx
                      have hcp := partition_ptr RR.out S6.out a' b' (rd lt dk a' b' lim wb wp).pivot hpv.1 hpv.2 hb'
                      rw [hx] at hcp
                      have X := hide hx
                      clear hx
                      go_upto_if 108 with (go_at_call 38; refine hcp.mono ?_; rintro e w7 ⟨rfl, S7⟩)
                      have hx := X.out
                      have hs4 : d4.size = n := RR.out.size S7
                      by_cases h4 : mid - a' < b' - mid
                      · have h4z : (mid : Int) - (a' : Int) < (b' : Int) - (mid : Int) := by omega
                        have hih := IH.out a' mid (rd lt dk a' b' lim wb wp).lim d4 w7 (by omega) S7 (by omega) (by omega) (Nat.lt_of_le_of_lt (Nat.le_trans rd_lim_le hlim) hlimit) r4
                        obtain ⟨pL, sL⟩ := pdq_sorts lt hO d4 a' mid (rd lt dk a' b' lim wb wp).lim true true (by omega) (by omega) r4
                        go_wp2_with fail
                        refine hih.mono ?_
                        rintro e w8 ⟨rfl, S8⟩
                        go_wp2
                        go_roundg (b' - (mid + 1))
                        case measure => omega
                        case rel =>
                          refine ⟨mid + 1, b', (rd lt dk a' b' lim wb wp).lim, decide (mid - a' ≥ (b' - a') / 8), ap, pdq lt d4 a' mid (rd lt dk a' b' lim wb wp).lim true true, by simp, rfl, rfl, ?_, rfl, by omega, by omega, Nat.le_refl _, by omega, Nat.le_trans rd_lim_le hlim, (r6 _ pL sL).1, S8, ?_⟩
                          · exact congrArg Value.bool (eighth (by omega) (by omega))
                          · show _ = _
                            rw [← HE.out, pdq_left h12 hl0 hp2 h87 (by rw [hx]; exact ⟨r1, r2⟩) (by rw [hx]; exact h4), hx]
                      · have h4z : ¬ ((mid : Int) - (a' : Int) < (b' : Int) - (mid : Int)) := by omega
                        have hih := IH.out (mid + 1) b' (rd lt dk a' b' lim wb wp).lim d4 w7 (by omega) S7 (by omega) (by omega) (Nat.lt_of_le_of_lt (Nat.le_trans rd_lim_le hlim) hlimit) r5
                        rw [show ((mid + 1 : Nat) : Int) = (mid : Int) + 1 by omega] at hih
                        obtain ⟨pL, sL⟩ := pdq_sorts lt hO d4 (mid + 1) b' (rd lt dk a' b' lim wb wp).lim true true (by omega) (by omega) r5
                        go_wp2_with fail
                        refine hih.mono ?_
                        rintro e w8 ⟨rfl, S8⟩
                        go_wp2
                        go_roundg (mid - a')
                        case measure => omega
                        case rel =>
                          refine ⟨a', mid, (rd lt dk a' b' lim wb wp).lim, decide (b' - mid ≥ (b' - a') / 8), ap, pdq lt d4 (mid + 1) b' (rd lt dk a' b' lim wb wp).lim true true, rfl, rfl, rfl, ?_, rfl, by omega, by omega, Nat.le_refl _, by omega, Nat.le_trans rd_lim_le hlim, (r7 _ pL sL).1, S8, ?_⟩
                          · exact congrArg Value.bool (eighth (by omega) (by omega))
                          · show _ = _
                            rw [← HE.out, pdq_right h12 hl0 hp2 h87 (by rw [hx]; exact ⟨r1, r2⟩) (by rw [hx]; exact h4), hx]
                    · have h87' := h87
                      simp only [Bool.and_eq_true, decide_eq_true_eq, Bool.not_eq_true'] at h87'
                      obtain ⟨mid, d4, hx⟩ : ∃ mid d4, partitionEqual lt (rd lt dk a' b' lim wb wp).pi.1 a' b' (rd lt dk a' b' lim wb wp).pivot = (mid, d4) := ⟨_, _, rfl⟩
                      obtain ⟨r1, r2, r3, r4, _⟩ := round_eq hO (partitionEqual_holds lt) h87'.1 hpv.1 hpv.2 (show b' ≤ (rd lt dk a' b' lim wb wp).pi.1.size by omega) B3 h87'.2 hx
                      have hcp := partEq_ptr RR.out S6.out a' b' (rd lt dk a' b' lim wb wp).pivot hpv.1 hpv.2 hb'
                      rw [hx] at hcp
                      have X := hide hx
                      clear hx
                      go_wp2_with fail
                      refine hcp.mono ?_
                      rintro e w7 ⟨rfl, S7⟩
                      go_wp2
                      go_roundg (b' - mid)
                      case measure => omega
                      case rel =>
                        have hx := X.out
                        exact ⟨mid, b', (rd lt dk a' b' lim wb wp).lim, wb, wp, d4, rfl, rfl, rfl, rfl, rfl, r2, hb', Nat.le_refl _, by omega, Nat.le_trans rd_lim_le hlim, r4, S7, by show _ = _; rw [← HE.out, pdq_eq h12 hl0 hp2 h87 (by rw [hx]; exact ⟨r1, r2⟩), hx]⟩

end Go.Proofs.Ytdifjpcfmmipoaa
