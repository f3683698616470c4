/-
  The walks of sort.partitionEqual and sort.partition over a pointer to a list of errors.
-/
import Derived.Test.YtdifjpcfmmipoaaPtrKit
import Derived.Shelf.GgSortFunc.Partition
namespace Go.Proofs.Ytdifjpcfmmipoaa
open Go.RowKit Go.Sort Go.Lib
variable {B n pb g c : Nat} {A : Option Addr} {lt : Nat → Nat → Bool} {St : Array Nat → World → Prop}

set_option maxRecDepth 1000000 in
set_option maxHeartbeats 8000000 in
theorem partEq_ptr (R : Rig B n pb g A c lt St) {d : Array Nat} {w : World} (hS : St d w) (a b pivot : Nat) (hap : a ≤ pivot) (hpb : pivot < b) (hb : b ≤ n) :
    Calls Try.prog 37 #[.iface 44 (.pointer (some ⟨pb, 0, none⟩)), .int .i64 a, .int .i64 b, .int .i64 pivot] w fun e w' => e = .returned (.int .i64 (Sort.partitionEqual lt d a b pivot).1) ∧ St (Sort.partitionEqual lt d a b pivot).2 w' := by
  have hn := R.small
  have RR := hide R
  have eL := enter_less; have eS := enter_swap
  have m0 := R.findS hS
  have w0 := R.swap hS a pivot (by omega) (by omega)
  clear R hS
  go_enter Try.func37, Try.ntmps37
  go_wp2_with fail
  refine w0.mono ?_
  rintro e w' ⟨rfl, S0, -⟩
  have S0 := hide S0
  clear m0 w0
  go_wp2
  go_loopw [9, 10] (fun vi vj wr => ∃ (i j : Nat) (dk : Array Nat), vi = .int .i64 i ∧ vj = .int .i64 j ∧ a < i ∧ i ≤ j + 1 ∧ j < b ∧ Hid (St dk wr) ∧ Hid (partEqLoop lt a i j dk = partEqLoop lt a (a + 1) (b - 1) (swp d a pivot))) (fun vi vj _ => (intOf vj).toNat + 1 - (intOf vi).toNat)
  case atStart => exact ⟨a + 1, b - 1, _, by go_num, by go_num, by omega, by omega, by omega, S0, rfl⟩
  case round =>
    obtain ⟨i, j, dk, rfl, rfl, hai, hij, hjb, S1, HE⟩ := hrel
    clear S0
    go_wp2
    go_loopw [9] (fun v wr => ∃ (x : Nat), v = .int .i64 x ∧ i ≤ x ∧ x ≤ j + 1 ∧ Hid (St dk wr) ∧ Hid (scanUp (fun x => !lt dk[a]! x) dk j x = scanUp (fun x => !lt dk[a]! x) dk j i)) (fun v _ => j + 1 - (intOf v).toNat)
    case atStart => exact ⟨i, rfl, Nat.le_refl _, hij, S1, rfl⟩
    case round =>
      obtain ⟨x, rfl, hix, hxj, S2, HU⟩ := hrel
      clear S1
      by_cases hle : x ≤ j
      · have hlez : (x : Int) ≤ (j : Int) := by omega
        have m1 := RR.out.findL S2.out
        have l1 := RR.out.less S2.out a x (by omega) (by omega)
        cases hlv : lt dk[a]! dk[x]! with
        | false =>
          rw [hlv] at l1
          go_wp2_with fail
          refine l1.mono ?_
          rintro e w' ⟨rfl, q, rfl⟩
          go_wp2
          go_roundw
          case rel => exact ⟨x + 1, by go_num, by omega, by omega, RR.out.drew S2.out _, (scanUp_go (fun x => !lt dk[a]! x) dk j x hle (by simp [hlv])).symm.trans HU.out⟩
          case measure => simp [intOf]; omega
        | true =>
          rw [hlv] at l1
          have HX : Hid (x = scanUp (fun x => !lt dk[a]! x) dk j i) := (scanUp_end (fun x => !lt dk[a]! x) dk j x (Or.inr (by simp [hlv]))).symm.trans HU.out
          clear HU
          go_wp2_with fail
          refine l1.mono ?_
          rintro e w' ⟨rfl, q, rfl⟩
          have S3 := hide (RR.out.drew S2.out q)
          clear S2 m1 l1
          go_wp2
          go_loopw [10] (fun v wr => ∃ (y : Nat), v = .int .i64 y ∧ y ≤ j ∧ x ≤ y + 1 ∧ Hid (St dk wr) ∧ Hid (scanDown (fun x => lt dk[a]! x) dk x y = scanDown (fun x => lt dk[a]! x) dk x j)) (fun v _ => (intOf v).toNat)
          case atStart => exact ⟨j, rfl, Nat.le_refl _, hxj, S3, rfl⟩
          case round =>
            obtain ⟨y, rfl, hyj, hxy, S4, HD⟩ := hrel
            clear S3
            by_cases hle2 : x ≤ y
            · have hle2z : (x : Int) ≤ (y : Int) := by omega
              have m1 := RR.out.findL S4.out
              have l1 := RR.out.less S4.out a y (by omega) (by omega)
              cases hlv2 : lt dk[a]! dk[y]! with
              | true =>
                rw [hlv2] at l1
                go_wp2_with fail
                refine l1.mono ?_
                rintro e w' ⟨rfl, q, rfl⟩
                go_wp2
                go_roundw
                case rel => exact ⟨y - 1, by go_num, by omega, by omega, RR.out.drew S4.out _, (scanDown_go (fun x => lt dk[a]! x) dk x y hle2 (by omega) (by simp [hlv2])).symm.trans HD.out⟩
                case measure => simp [intOf]; omega
              | false =>
                rw [hlv2] at l1
                have HY : Hid (y = scanDown (fun x => lt dk[a]! x) dk x j) := (scanDown_end (fun x => lt dk[a]! x) dk x y (Or.inr (by simp [hlv2]))).symm.trans HD.out
                have hxy3 := scans_lt lt a i j dk (by omega) HX.out HY.out hle2
                have hyx : ¬ (y : Int) < (x : Int) := by omega
                have m2 : ∀ q, Sem.run _ _ (wr.drewN q) = _ := fun q => RR.out.findS (RR.out.drew S4.out q)
                have sw := fun q => RR.out.swap (RR.out.drew S4.out q) x y (by omega) (by omega)
                clear HD
                go_wp2_with fail
                refine l1.mono ?_
                rintro e w' ⟨rfl, q, rfl⟩
                go_wp2_with fail
                refine (sw _).mono ?_
                rintro e w' ⟨rfl, S5, -⟩
                have S5 := hide S5
                clear m1 m2 sw l1
                go_wp2
                go_roundw
                case rel => exact ⟨x + 1, y - 1, _, by go_num, by go_num, by omega, by omega, by omega, S5, by
                  show _ = _
                  rw [← HE.out]
                  exact (partEq_go lt a i j dk HX.out HY.out (by omega)).symm⟩
                case measure => simp [intOf]; omega
            · have hle2z : ¬ (x : Int) ≤ (y : Int) := by omega
              have hyx : (y : Int) < (x : Int) := by omega
              have HY : Hid (y = scanDown (fun x => lt dk[a]! x) dk x j) := (scanDown_end (fun x => lt dk[a]! x) dk x y (Or.inl hle2)).symm.trans HD.out
              clear HD
              go_wp2
              go_ret
              have e := partEq_break lt a i j dk HX.out HY.out (by omega)
              have e2 : Sort.partitionEqual lt d a b pivot = (x, dk) := by unfold Sort.partitionEqual; rw [← HE.out, e]
              rw [e2]
              exact ⟨rfl, S4.out⟩
      · have hlez : ¬ (x : Int) ≤ (j : Int) := by omega
        have HX : Hid (x = scanUp (fun x => !lt dk[a]! x) dk j i) := (scanUp_end (fun x => !lt dk[a]! x) dk j x (Or.inl hle)).symm.trans HU.out
        clear HU
        have S3 := hide S2.out
        clear S2
        go_wp2
        go_loopw [10] (fun v wr => ∃ (y : Nat), v = .int .i64 y ∧ y ≤ j ∧ x ≤ y + 1 ∧ Hid (St dk wr) ∧ Hid (scanDown (fun x => lt dk[a]! x) dk x y = scanDown (fun x => lt dk[a]! x) dk x j)) (fun v _ => (intOf v).toNat)
        case atStart => exact ⟨j, rfl, Nat.le_refl _, hxj, S3, rfl⟩
        case round =>
          obtain ⟨y, rfl, hyj, hxy, S4, HD⟩ := hrel
          clear S3
          by_cases hle2 : x ≤ y
          · exfalso; omega
          · have hle2z : ¬ (x : Int) ≤ (y : Int) := by omega
            have hyx : (y : Int) < (x : Int) := by omega
            have HY : Hid (y = scanDown (fun x => lt dk[a]! x) dk x j) := (scanDown_end (fun x => lt dk[a]! x) dk x y (Or.inl hle2)).symm.trans HD.out
            clear HD
            go_wp2
            go_ret
            have e := partEq_break lt a i j dk HX.out HY.out (by omega)
            have e2 : Sort.partitionEqual lt d a b pivot = (x, dk) := by unfold Sort.partitionEqual; rw [← HE.out, e]
            rw [e2]
            exact ⟨rfl, S4.out⟩

set_option maxRecDepth 1000000 in
set_option maxHeartbeats 8000000 in
theorem partition_ptr (R : Rig B n pb g A c lt St) {d : Array Nat} {w : World} (hS : St d w) (a b pivot : Nat) (hap : a ≤ pivot) (hpb : pivot < b) (hb : b ≤ n) :
    Calls Try.prog 38 #[.iface 44 (.pointer (some ⟨pb, 0, none⟩)), .int .i64 a, .int .i64 b, .int .i64 pivot] w fun e w' => e = .returned (.tuple #[.int .i64 (Sort.partition lt d a b pivot).1, .bool (Sort.partition lt d a b pivot).2.1]) ∧ St (Sort.partition lt d a b pivot).2.2 w' := by
  have hn := R.small
  have RR := hide R
  have eL := enter_less; have eS := enter_swap
  have m0 := R.findS hS
  have w0 := R.swap hS a pivot (by omega) (by omega)
  clear R hS
  obtain ⟨i, hi⟩ : ∃ i : Nat, i = a + 1 := ⟨_, rfl⟩
  obtain ⟨j, hj⟩ : ∃ j : Nat, j = b - 1 := ⟨_, rfl⟩
  obtain ⟨dk, hdk⟩ : ∃ dk : Array Nat, dk = swp d a pivot := ⟨_, rfl⟩
  have hai : a < i := by omega
  have hij : i ≤ j + 1 := by omega
  have hjb : j < b := by omega
  rw [← hdk] at w0
  have Hi : Hid (i = a + 1) := hi
  have Hj : Hid (j = b - 1) := hj
  have Hdk : Hid (dk = swp d a pivot) := hdk
  clear hi hj hdk
  go_enter Try.func38, Try.ntmps38
  go_wp2_with fail
  refine w0.mono ?_
  rintro e w' ⟨rfl, S1, -⟩
  have S1 := hide S1
  clear m0 w0
  go_wp2
  rw [show ((a : Int) + 1) = (i : Int) by have := Hi.out; omega, show ((b : Int) - 1) = (j : Int) by have := Hj.out; omega]
  go_loopw [10] (fun v wr => ∃ (x : Nat), v = .int .i64 x ∧ i ≤ x ∧ x ≤ j + 1 ∧ Hid (St dk wr) ∧ Hid (scanUp (fun x => lt x dk[a]!) dk j x = scanUp (fun x => lt x dk[a]!) dk j i)) (fun v _ => j + 1 - (intOf v).toNat)
  case atStart => exact ⟨i, rfl, Nat.le_refl _, hij, S1, rfl⟩
  case round =>
    obtain ⟨x, rfl, hix, hxj, S2, HU⟩ := hrel
    clear S1
    by_cases hle : x ≤ j
    · have hlez : (x : Int) ≤ (j : Int) := by omega
      have m1 := RR.out.findL S2.out
      have l1 := RR.out.less S2.out x a (by omega) (by omega)
      cases hlv : lt dk[x]! dk[a]! with
      | true =>
        rw [hlv] at l1
        go_wp2_with fail
        refine l1.mono ?_
        rintro e w' ⟨rfl, q, rfl⟩
        go_wp2
        go_roundw
        case rel => exact ⟨x + 1, by go_num, by omega, by omega, RR.out.drew S2.out _, (scanUp_go (fun x => lt x dk[a]!) dk j x hle (by simp [hlv])).symm.trans HU.out⟩
        case measure => simp [intOf]; omega
      | false =>
        rw [hlv] at l1
        have HX : Hid (x = scanUp (fun x => lt x dk[a]!) dk j i) := (scanUp_end (fun x => lt x dk[a]!) dk j x (Or.inr (by simp [hlv]))).symm.trans HU.out
        clear HU
        go_wp2_with fail
        refine l1.mono ?_
        rintro e w' ⟨rfl, q, rfl⟩
        have S3 := hide (RR.out.drew S2.out q)
        clear S2 m1 l1
        go_wp2
        go_loopw [11] (fun v wr => ∃ (y : Nat), v = .int .i64 y ∧ y ≤ j ∧ x ≤ y + 1 ∧ Hid (St dk wr) ∧ Hid (scanDown (fun x => !lt x dk[a]!) dk x y = scanDown (fun x => !lt x dk[a]!) dk x j)) (fun v _ => (intOf v).toNat)
        case atStart => exact ⟨j, rfl, Nat.le_refl _, hxj, S3, rfl⟩
        case round =>
          obtain ⟨y, rfl, hyj, hxy, S4, HD⟩ := hrel
          clear S3
          by_cases hle2 : x ≤ y
          · have hle2z : (x : Int) ≤ (y : Int) := by omega
            have m1 := RR.out.findL S4.out
            have l1 := RR.out.less S4.out y a (by omega) (by omega)
            cases hlv2 : lt dk[y]! dk[a]! with
            | false =>
              rw [hlv2] at l1
              go_wp2_with fail
              refine l1.mono ?_
              rintro e w' ⟨rfl, q, rfl⟩
              go_wp2
              go_roundw
              case rel => exact ⟨y - 1, by go_num, by omega, by omega, RR.out.drew S4.out _, (scanDown_go (fun x => !lt x dk[a]!) dk x y hle2 (by omega) (by simp [hlv2])).symm.trans HD.out⟩
              case measure => simp [intOf]; omega
            | true =>
              rw [hlv2] at l1
              have HY : Hid (y = scanDown (fun x => !lt x dk[a]!) dk x j) := (scanDown_end (fun x => !lt x dk[a]!) dk x y (Or.inr (by simp [hlv2]))).symm.trans HD.out
              have hxy3 := part_scans_lt lt a i j dk (by omega) HX.out HY.out hle2
              have hyx : ¬ (y : Int) < (x : Int) := by omega
              have m2 : ∀ q, Sem.run _ _ (wr.drewN q) = _ := fun q => RR.out.findS (RR.out.drew S4.out q)
              have sw := fun q => RR.out.swap (RR.out.drew S4.out q) x y (by omega) (by omega)
              clear HD
              go_wp2_with fail
              refine l1.mono ?_
              rintro e w' ⟨rfl, q, rfl⟩
              go_wp2_with fail
              refine (sw _).mono ?_
              rintro e w' ⟨rfl, S5, -⟩
              have S5 := hide S5
              clear m1 m2 sw l1
              go_wp2
              have PF : Hid (Sort.partition lt d a b pivot = ((partLoop lt a (x + 1) (y - 1) (swp dk x y)).1, false, swp (partLoop lt a (x + 1) (y - 1) (swp dk x y)).2 (partLoop lt a (x + 1) (y - 1) (swp dk x y)).1 a)) :=
                part_first_go lt d a b pivot Hi.out Hj.out Hdk.out HX.out HY.out (by omega)
              obtain ⟨Z, HZ⟩ : ∃ Z, Hid (Z = partLoop lt a (x + 1) (y - 1) (swp dk x y)) := ⟨_, rfl⟩
              have PF : Hid (Sort.partition lt d a b pivot = (Z.1, false, swp Z.2 Z.1 a)) := by rw [HZ.out]; exact PF.out
              go_loopw [10, 11] (fun vi vj wr => ∃ (i j : Nat) (dk : Array Nat), vi = .int .i64 i ∧ vj = .int .i64 j ∧ a < i ∧ i ≤ j + 1 ∧ j < b ∧ Hid (St dk wr) ∧ Hid (partLoop lt a i j dk = Z)) (fun vi vj _ => (intOf vj).toNat + 1 - (intOf vi).toNat)
              case atStart => exact ⟨x + 1, y - 1, _, by go_num, by go_num, by omega, by omega, by omega, S5, by show _ = _; rw [HZ.out]⟩
              case round =>
                clear HX HY HZ S5 Hi Hj Hdk hlv hlv2
                obtain ⟨i, j, dk, rfl, rfl, hai, hij, hjb, S1, HE⟩ := hrel
                go_wp2
                go_loopw [10] (fun v wr => ∃ (x : Nat), v = .int .i64 x ∧ i ≤ x ∧ x ≤ j + 1 ∧ Hid (St dk wr) ∧ Hid (scanUp (fun x => lt x dk[a]!) dk j x = scanUp (fun x => lt x dk[a]!) dk j i)) (fun v _ => j + 1 - (intOf v).toNat)
                case atStart => exact ⟨i, rfl, Nat.le_refl _, hij, S1, rfl⟩
                case round =>
                  obtain ⟨x, rfl, hix, hxj, S2, HU⟩ := hrel
                  clear S1
                  by_cases hle : x ≤ j
                  · have hlez : (x : Int) ≤ (j : Int) := by omega
                    have m1 := RR.out.findL S2.out
                    have l1 := RR.out.less S2.out x a (by omega) (by omega)
                    cases hlv : lt dk[x]! dk[a]! with
                    | true =>
                      rw [hlv] at l1
                      go_wp2_with fail
                      refine l1.mono ?_
                      rintro e w' ⟨rfl, q, rfl⟩
                      go_wp2
                      go_roundw
                      case rel => exact ⟨x + 1, by go_num, by omega, by omega, RR.out.drew S2.out _, (scanUp_go (fun x => lt x dk[a]!) dk j x hle (by simp [hlv])).symm.trans HU.out⟩
                      case measure => simp [intOf]; omega
                    | false =>
                      rw [hlv] at l1
                      have HX : Hid (x = scanUp (fun x => lt x dk[a]!) dk j i) := (scanUp_end (fun x => lt x dk[a]!) dk j x (Or.inr (by simp [hlv]))).symm.trans HU.out
                      clear HU
                      go_wp2_with fail
                      refine l1.mono ?_
                      rintro e w' ⟨rfl, q, rfl⟩
                      have S3 := hide (RR.out.drew S2.out q)
                      clear S2 m1 l1
                      go_wp2
                      go_loopw [11] (fun v wr => ∃ (y : Nat), v = .int .i64 y ∧ y ≤ j ∧ x ≤ y + 1 ∧ Hid (St dk wr) ∧ Hid (scanDown (fun x => !lt x dk[a]!) dk x y = scanDown (fun x => !lt x dk[a]!) dk x j)) (fun v _ => (intOf v).toNat)
                      case atStart => exact ⟨j, rfl, Nat.le_refl _, hxj, S3, rfl⟩
                      case round =>
                        obtain ⟨y, rfl, hyj, hxy, S4, HD⟩ := hrel
                        clear S3
                        by_cases hle2 : x ≤ y
                        · have hle2z : (x : Int) ≤ (y : Int) := by omega
                          have m1 := RR.out.findL S4.out
                          have l1 := RR.out.less S4.out y a (by omega) (by omega)
                          cases hlv2 : lt dk[y]! dk[a]! with
                          | false =>
                            rw [hlv2] at l1
                            go_wp2_with fail
                            refine l1.mono ?_
                            rintro e w' ⟨rfl, q, rfl⟩
                            go_wp2
                            go_roundw
                            case rel => exact ⟨y - 1, by go_num, by omega, by omega, RR.out.drew S4.out _, (scanDown_go (fun x => !lt x dk[a]!) dk x y hle2 (by omega) (by simp [hlv2])).symm.trans HD.out⟩
                            case measure => simp [intOf]; omega
                          | true =>
                            rw [hlv2] at l1
                            have HY : Hid (y = scanDown (fun x => !lt x dk[a]!) dk x j) := (scanDown_end (fun x => !lt x dk[a]!) dk x y (Or.inr (by simp [hlv2]))).symm.trans HD.out
                            have hxy3 := part_scans_lt lt a i j dk (by omega) HX.out HY.out hle2
                            have hyx : ¬ (y : Int) < (x : Int) := by omega
                            have m2 : ∀ q, Sem.run _ _ (wr.drewN q) = _ := fun q => RR.out.findS (RR.out.drew S4.out q)
                            have sw := fun q => RR.out.swap (RR.out.drew S4.out q) x y (by omega) (by omega)
                            clear HD
                            go_wp2_with fail
                            refine l1.mono ?_
                            rintro e w' ⟨rfl, q, rfl⟩
                            go_wp2_with fail
                            refine (sw _).mono ?_
                            rintro e w' ⟨rfl, S5, -⟩
                            have S5 := hide S5
                            clear m1 m2 sw l1
                            go_wp2
                            go_roundw
                            case rel => exact ⟨x + 1, y - 1, _, by go_num, by go_num, by omega, by omega, by omega, S5, by
                              show _ = _
                              rw [← HE.out]
                              exact (part_go lt a i j dk HX.out HY.out (by omega)).symm⟩
                            case measure => simp [intOf]; omega
                        · have hle2z : ¬ (x : Int) ≤ (y : Int) := by omega
                          have hyx : (y : Int) < (x : Int) := by omega
                          have HY : Hid (y = scanDown (fun x => !lt x dk[a]!) dk x j) := (scanDown_end (fun x => !lt x dk[a]!) dk x y (Or.inl hle2)).symm.trans HD.out
                          clear HD
                          have m2 := RR.out.findS S4.out
                          have sw := RR.out.swap S4.out y a (by omega) (by omega)
                          go_wp2_with fail
                          refine sw.mono ?_
                          rintro e w' ⟨rfl, S6, -⟩
                          go_wp2
                          go_ret2
                          have e := part_break lt a i j dk HX.out HY.out (by omega)
                          rw [PF.out, ← HE.out, e]
                          exact ⟨rfl, S6⟩
                  · have hlez : ¬ (x : Int) ≤ (j : Int) := by omega
                    have HX : Hid (x = scanUp (fun x => lt x dk[a]!) dk j i) := (scanUp_end (fun x => lt x dk[a]!) dk j x (Or.inl hle)).symm.trans HU.out
                    clear HU
                    have S3 := hide S2.out
                    clear S2
                    go_wp2
                    go_loopw [11] (fun v wr => ∃ (y : Nat), v = .int .i64 y ∧ y ≤ j ∧ x ≤ y + 1 ∧ Hid (St dk wr) ∧ Hid (scanDown (fun x => !lt x dk[a]!) dk x y = scanDown (fun x => !lt x dk[a]!) dk x j)) (fun v _ => (intOf v).toNat)
                    case atStart => exact ⟨j, rfl, Nat.le_refl _, hxj, S3, rfl⟩
                    case round =>
                      obtain ⟨y, rfl, hyj, hxy, S4, HD⟩ := hrel
                      clear S3
                      by_cases hle2 : x ≤ y
                      · exfalso; omega
                      · have hle2z : ¬ (x : Int) ≤ (y : Int) := by omega
                        have hyx : (y : Int) < (x : Int) := by omega
                        have HY : Hid (y = scanDown (fun x => !lt x dk[a]!) dk x j) := (scanDown_end (fun x => !lt x dk[a]!) dk x y (Or.inl hle2)).symm.trans HD.out
                        clear HD
                        have m2 := RR.out.findS S4.out
                        have sw := RR.out.swap S4.out y a (by omega) (by omega)
                        go_wp2_with fail
                        refine sw.mono ?_
                        rintro e w' ⟨rfl, S6, -⟩
                        go_wp2
                        go_ret2
                        have e := part_break lt a i j dk HX.out HY.out (by omega)
                        rw [PF.out, ← HE.out, e]
                        exact ⟨rfl, S6⟩
          · have hle2z : ¬ (x : Int) ≤ (y : Int) := by omega
            have hyx : (y : Int) < (x : Int) := by omega
            have HY : Hid (y = scanDown (fun x => !lt x dk[a]!) dk x j) := (scanDown_end (fun x => !lt x dk[a]!) dk x y (Or.inl hle2)).symm.trans HD.out
            clear HD
            have m2 := RR.out.findS S4.out
            have sw := RR.out.swap S4.out y a (by omega) (by omega)
            go_wp2_with fail
            refine sw.mono ?_
            rintro e w' ⟨rfl, S6, -⟩
            go_wp2
            go_ret2
            have e := part_first_break lt d a b pivot Hi.out Hj.out Hdk.out HX.out HY.out (by omega)
            rw [e]
            exact ⟨rfl, S6⟩
    · have hlez : ¬ (x : Int) ≤ (j : Int) := by omega
      have HX : Hid (x = scanUp (fun x => lt x dk[a]!) dk j i) := (scanUp_end (fun x => lt x dk[a]!) dk j x (Or.inl hle)).symm.trans HU.out
      clear HU
      have S3 := hide S2.out
      clear S2
      go_wp2
      go_loopw [11] (fun v wr => ∃ (y : Nat), v = .int .i64 y ∧ y ≤ j ∧ x ≤ y + 1 ∧ Hid (St dk wr) ∧ Hid (scanDown (fun x => !lt x dk[a]!) dk x y = scanDown (fun x => !lt x dk[a]!) dk x j)) (fun v _ => (intOf v).toNat)
      case atStart => exact ⟨j, rfl, Nat.le_refl _, hxj, S3, rfl⟩
      case round =>
        obtain ⟨y, rfl, hyj, hxy, S4, HD⟩ := hrel
        clear S3
        by_cases hle2 : x ≤ y
        · exfalso; omega
        · have hle2z : ¬ (x : Int) ≤ (y : Int) := by omega
          have hyx : (y : Int) < (x : Int) := by omega
          have HY : Hid (y = scanDown (fun x => !lt x dk[a]!) dk x j) := (scanDown_end (fun x => !lt x dk[a]!) dk x y (Or.inl hle2)).symm.trans HD.out
          clear HD
          have m2 := RR.out.findS S4.out
          have sw := RR.out.swap S4.out y a (by omega) (by omega)
          go_wp2_with fail
          refine sw.mono ?_
          rintro e w' ⟨rfl, S6, -⟩
          go_wp2
          go_ret2
          have e := part_first_break lt d a b pivot Hi.out Hj.out Hdk.out HX.out HY.out (by omega)
          rw [e]
          exact ⟨rfl, S6⟩

end Go.Proofs.Ytdifjpcfmmipoaa
