/-
  The walk of sort.breakPatterns over a pointer to a list of errors: three swaps, at places drawn from a generator in a block of its own.
-/
import Derived.Test.YtdifjpcfmmipoaaPtrKit
import Derived.Test.YtdifjpcfmmipoaaPtrPivot
import Derived.Shelf.SlSortFunc.Xorshift
import Derived.Sort.Walk7
import Derived.Deep.LoopGhost
namespace Go.Proofs.Ytdifjpcfmmipoaa
open Go.RowKit Go.Sort Go.Lib
variable {B n pb g c : Nat} {A : Option Addr} {lt : Nat → Nat → Bool} {St : Array Nat → World → Prop}

theorem grownBy_set_drew (w : World) (k q : Nat) (v : Value) : w.grownBy ((w.setCell ⟨q, 0, none⟩ v).drewN k) (some q) :=
  ⟨rfl, rfl, rfl, by show w.heap.size ≤ (w.setCell ⟨q, 0, none⟩ v).heap.size; simp, fun i _ hne => (show ((w.setCell ⟨q, 0, none⟩ v).drewN k).heap[i]? = (w.setCell ⟨q, 0, none⟩ v).heap[i]? from rfl).trans (Below.heap_setCell w ⟨q, 0, none⟩ v i (fun e => hne (by rw [e])))⟩

set_option maxRecDepth 1000000 in
set_option maxHeartbeats 4000000 in
theorem break_go_ptr (R : Rig B n pb g A c lt St) {d : Array Nat} {w : World} (hS : St d w) (a L : Nat) (hb : a + L ≤ n) (h8 : 8 ≤ L) :
    Calls Try.prog 33 #[.iface 44 (.pointer (some ⟨pb, 0, none⟩)), .int .i64 a, .int .i64 ((a + L : Nat) : Int)] w fun e w' => e = .returned (.tuple #[]) ∧ St (breakPatterns d a (a + L)) w' := by
  have hn := R.small
  have hold := R.old
  have hB := R.heap hS
  have eS := enter_swap
  have RR := hide R
  have S0 := hide hS
  rw [breakPatterns_eq d a L h8]
  obtain ⟨M, hM⟩ : ∃ M : Nat, M = 1 <<< bitsLen L := ⟨_, rfl⟩
  have hM1 : 1 ≤ M := by rw [hM, Nat.one_shiftLeft]; exact Nat.two_pow_pos _
  have hM2 : M ≤ 2 * L := by rw [hM, Nat.one_shiftLeft]; exact two_pow_bitsLen_le (by omega)
  have hNP : Calls Try.prog 40 #[.int .i64 (L : Int)] _ _ := Try.nextPowerOfTwo L (by omega) (w.alloc (.cells #[.int .u64 (L : Int)] 65))
  rw [← hM] at hNP
  rw [← hM]
  clear hM R hS
  have hLz : ((a : Int) + (L : Int) - (a : Int)) = (L : Int) := by omega
  have h8z : (8 : Int) ≤ (L : Int) := by omega
  go_enter Try.func33, Try.ntmps33
  go_wp2_with fail
  refine hNP.mono ?_
  rintro e w' ⟨rfl, rfl⟩
  go_wp2
  go_loopg [9] 3 (fun k v wr => ∃ (t : Nat) (r : UInt64) (dk : Array Nat), v = .int .i64 ((a : Int) + (L : Int) / 4 * 2 - 1 + (t : Int)) ∧ t ≤ 3 ∧ 3 - t ≤ k ∧ Hid (St dk wr) ∧
      wr.cell? ⟨w.heap.size, 0, none⟩ = some (.int .u64 (r.toNat : Int)) ∧ wr.frozen? ⟨w.heap.size, 0, none⟩ = false ∧ w.heap.size < wr.heap.size ∧
      Hid (bpRest a L M (a + L / 4 * 2 - 1) (3 - t) t (r, dk) = bpRest a L M (a + L / 4 * 2 - 1) 3 0 (UInt64.ofNat L, d)))
  case atStart =>
    refine ⟨0, UInt64.ofNat L, d, by simp, by omega, by omega, RR.out.grown S0.out (World.grownBy_alloc w _ none) (fun _ e => by cases e), ?_, by simp, by simp, rfl⟩
    rw [show (UInt64.ofNat L).toNat = L from by simp; omega]
    simp
  case round =>
    obtain ⟨t, r, dk, rfl, ht, hk, S1, cR, fR, hz, HE⟩ := hrel
    by_cases ht3 : t < 3
    · have hle : (a : Int) + (L : Int) / 4 * 2 - 1 + (t : Int) ≤ (a : Int) + (L : Int) / 4 * 2 + 1 := by omega
      obtain ⟨X, hX⟩ : ∃ X : Nat, X = r.toNat := ⟨_, rfl⟩
      have lX : X < 18446744073709551616 := by rw [hX]; exact r.toNat_lt
      obtain ⟨Y, hY⟩ : ∃ Y : Nat, Y = xorNextN X := ⟨_, rfl⟩
      have lY : Y < 18446744073709551616 := by rw [hY]; exact xorNextN_lt X lX
      obtain ⟨O, hO⟩ : ∃ O : Nat, O = Y &&& (M - 1) := ⟨_, rfl⟩
      have lO : O ≤ M - 1 := by rw [hO]; exact Nat.and_le_right
      have eAnd : bits .and .u64 (Y : Int) ((M : Int) - 1) = (O : Int) := by
        rw [show ((M : Int) - 1) = ((M - 1 : Nat) : Int) by omega, bits_and_u64_nat _ _ lY (by omega), hO]
      rw [← hX] at cR
      have hNext : Calls Try.prog 41 #[.pointer (some ⟨w.heap.size, 0, none⟩)] wr fun e w' => e = .returned (.int .u64 (Y : Int)) ∧ w' = (wr.setCell ⟨w.heap.size, 0, none⟩ (.int .u64 (Y : Int))).drewN 3 := by
        rw [hY]; exact Try.xorshift_Next _ _ X lX wr cR fR
      have HN : Hid (Y = (xorNext r).toNat ∧ O = (xorNext r).toNat &&& (M - 1)) := by
        have e : Y = (xorNext r).toNat := by rw [hY, hX, xorNext_toNat]
        exact ⟨e, by rw [hO, e]⟩
      clear hX hY hO
      have S2 := hide (RR.out.grown S1.out (grownBy_set_drew wr 3 w.heap.size (.int .u64 (Y : Int))) (fun k e => by injection e with e; omega))
      have cY : ((wr.setCell ⟨w.heap.size, 0, none⟩ (.int .u64 (Y : Int))).drewN 3).cell? ⟨w.heap.size, 0, none⟩ = some (.int .u64 (Y : Int)) := by
        rw [World.cell?_drewN]; exact World.cell?_setCell_same _ _ _ cR
      have fY : ((wr.setCell ⟨w.heap.size, 0, none⟩ (.int .u64 (Y : Int))).drewN 3).frozen? ⟨w.heap.size, 0, none⟩ = false := by
        rw [World.frozen?_drewN]; simpa using fR
      have hz2 : w.heap.size < ((wr.setCell ⟨w.heap.size, 0, none⟩ (.int .u64 (Y : Int))).drewN 3).heap.size := by
        show w.heap.size < (wr.setCell ⟨w.heap.size, 0, none⟩ (.int .u64 (Y : Int))).heap.size; simpa using hz
      generalize (wr.setCell ⟨w.heap.size, 0, none⟩ (.int .u64 (Y : Int))).drewN 3 = w2 at hNext S2 cY fY hz2
      clear cR fR hz S1
      have m2 := RR.out.findS S2.out
      by_cases hLO : L ≤ O
      · have hLOz : (L : Int) ≤ (O : Int) := by omega
        have sw := RR.out.swap S2.out (a + L / 4 * 2 - 1 + t) (a + (O - L)) (by omega) (by omega)
        rw [show ((a + L / 4 * 2 - 1 + t : Nat) : Int) = (a : Int) + (L : Int) / 4 * 2 - 1 + (t : Int) by omega, show ((a + (O - L) : Nat) : Int) = (a : Int) + ((O : Int) - (L : Int)) by omega] at sw
        go_wp2_with fail
        refine hNext.mono ?_
        rintro e w' ⟨rfl, rfl⟩
        go_wp2_with fail
        refine sw.mono ?_
        rintro e w3 ⟨rfl, S3, G3⟩
        have c3 := G3.cell cY (by intro e; injection e with e; simp only [] at e; omega)
        have f3 := (G3.frozen_far ⟨w.heap.size, 0, none⟩ hz2 (by intro e; injection e with e; simp only [] at e; omega)).trans fY
        have hz3 := Nat.lt_of_lt_of_le hz2 G3.size
        go_wp2
        go_roundg (3 - (t + 1))
        case measure => omega
        case rel => exact ⟨t + 1, xorNext r, _, by congr 1; push_cast; omega, by omega, Nat.le_refl _, S3, by rw [← HN.out.1]; exact c3, f3, hz3,
          (show Hid _ from by rw [← HE.out, bp_step a L M _ t r dk (O - L) ht3 (by rw [← HN.out.2, if_pos (by omega)])]; exact rfl)⟩
      · have hLOz : ¬ (L : Int) ≤ (O : Int) := by omega
        have sw := RR.out.swap S2.out (a + L / 4 * 2 - 1 + t) (a + O) (by omega) (by omega)
        rw [show ((a + L / 4 * 2 - 1 + t : Nat) : Int) = (a : Int) + (L : Int) / 4 * 2 - 1 + (t : Int) by omega, show ((a + O : Nat) : Int) = (a : Int) + (O : Int) by omega] at sw
        go_wp2_with fail
        refine hNext.mono ?_
        rintro e w' ⟨rfl, rfl⟩
        go_wp2_with fail
        refine sw.mono ?_
        rintro e w3 ⟨rfl, S3, G3⟩
        have c3 := G3.cell cY (by intro e; injection e with e; simp only [] at e; omega)
        have f3 := (G3.frozen_far ⟨w.heap.size, 0, none⟩ hz2 (by intro e; injection e with e; simp only [] at e; omega)).trans fY
        have hz3 := Nat.lt_of_lt_of_le hz2 G3.size
        go_wp2
        go_roundg (3 - (t + 1))
        case measure => omega
        case rel => exact ⟨t + 1, xorNext r, _, by congr 1; push_cast; omega, by omega, Nat.le_refl _, S3, by rw [← HN.out.1]; exact c3, f3, hz3,
          (show Hid _ from by rw [← HE.out, bp_step a L M _ t r dk O ht3 (by rw [← HN.out.2, if_neg (by omega)])]; exact rfl)⟩
    · obtain rfl : t = 3 := by omega
      have hle : ¬ ((a : Int) + (L : Int) / 4 * 2 - 1 + ((3 : Nat) : Int) ≤ (a : Int) + (L : Int) / 4 * 2 + 1) := by omega
      go_wp2
      go_end0
      refine ⟨rfl, ?_⟩
      rw [← HE.out]
      exact S1.out

set_option maxRecDepth 1000000 in
theorem break_ptr (R : Rig B n pb g A c lt St) {d : Array Nat} {w : World} (hS : St d w) (a b : Nat) (hab : a ≤ b) (hb : b ≤ n) :
    Calls Try.prog 33 #[.iface 44 (.pointer (some ⟨pb, 0, none⟩)), .int .i64 a, .int .i64 b] w fun e w' => e = .returned (.tuple #[]) ∧ St (breakPatterns d a b) w' := by
  obtain ⟨L, rfl⟩ : ∃ L, b = a + L := ⟨b - a, by omega⟩
  by_cases h8 : 8 ≤ L
  · exact break_go_ptr R hS a L hb h8
  · have hn := R.small
    have hv : breakPatterns d a (a + L) = d := by unfold breakPatterns; simp only [Nat.add_sub_cancel_left]; rw [if_neg h8]
    rw [hv]
    have hLz : ((a : Int) + (L : Int) - (a : Int)) = (L : Int) := by omega
    have h8z : ¬ (8 : Int) ≤ (L : Int) := by omega
    have S0 := hide hS
    clear R hS
    go_enter Try.func33, Try.ntmps33
    go_wp2
    go_end0
    exact ⟨rfl, S0.out⟩

end Go.Proofs.Ytdifjpcfmmipoaa
