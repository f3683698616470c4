/-
  The walks of sort.order2, median, medianAdjacent and choosePivot over a pointer to a list of errors: they compare, and count in a block of their own.
-/
import Derived.Test.YtdifjpcfmmipoaaPtrKit
import Derived.Sort.Walk11
import Derived.Shelf.GgSortFunc.Pivot
namespace Go.Proofs.Ytdifjpcfmmipoaa
open Go.RowKit Go.Sort Go.Lib
variable {B n pb g c : Nat} {A : Option Addr} {lt : Nat → Nat → Bool} {St : Array Nat → World → Prop}

/-- Block q is a counter that stands at s. -/
def Cnt (q s : Nat) (w : World) : Prop := w.cell? ⟨q, 0, none⟩ = some (.int .i64 (s : Int)) ∧ w.frozen? ⟨q, 0, none⟩ = false

theorem Cnt.drew {q s : Nat} {w : World} (h : Cnt q s w) (k : Nat) : Cnt q s (w.drewN k) := h
theorem grownBy_drewN (w : World) (k : Nat) (row : Option Nat) : w.grownBy (w.drewN k) row := ⟨rfl, rfl, rfl, Nat.le_refl _, fun _ _ _ => rfl⟩
theorem grownBy_set (w : World) (k q : Nat) (v : Value) : w.grownBy ((w.drewN k).setCell ⟨q, 0, none⟩ v) (some q) :=
  ⟨rfl, rfl, rfl, by simp, fun i _ hne => (Below.heap_setCell (w.drewN k) ⟨q, 0, none⟩ v i (fun e => hne (by rw [e]))).trans rfl⟩
theorem Cnt.set {q s s' : Nat} {w : World} (h : Cnt q s w) (k : Nat) : Cnt q s' ((w.drewN k).setCell ⟨q, 0, none⟩ (.int .i64 (s' : Int))) :=
  ⟨World.cell?_setCell_same _ _ _ (h.drew k).1, by simpa using (h.drew k).2⟩

set_option maxRecDepth 1000000 in
set_option maxHeartbeats 2000000 in
theorem order2_ptr (R : Rig B n pb g A c lt St) {d : Array Nat} {w : World} (hS : St d w) (a b q s : Nat) (ha : a < n) (hb : b < n) (hC : Cnt q s w) (hs : s < 4611686018427387904) :
    Calls Try.prog 44 #[.iface 44 (.pointer (some ⟨pb, 0, none⟩)), .int .i64 a, .int .i64 b, .pointer (some ⟨q, 0, none⟩)] w fun e w' =>
      e = .returned (.tuple #[.int .i64 (order2 lt d a b s).1, .int .i64 (order2 lt d a b s).2.1]) ∧ w.grownBy w' (some q) ∧ Cnt q (order2 lt d a b s).2.2 w' := by
  have eL := enter_less
  have m1 := R.findL hS
  have l1 := R.less hS b a hb ha
  obtain ⟨hc, hf⟩ := hC
  have HC : Hid (Cnt q s w) := ⟨hc, hf⟩
  clear R hS
  cases hlv : lt d[b]! d[a]! with
  | true =>
    rw [hlv] at l1
    have e2 : order2 lt d a b s = (b, a, s + 1) := by simp [order2, hlv]
    rw [e2]
    clear e2 hlv
    go_enter Try.func44, Try.ntmps44
    go_wp2_with fail
    refine l1.mono ?_
    rintro e w' ⟨rfl, k, rfl⟩
    go_wp2
    go_ret2
    exact ⟨rfl, grownBy_set w k q _, HC.out.set k⟩
  | false =>
    rw [hlv] at l1
    have e2 : order2 lt d a b s = (a, b, s) := by simp [order2, hlv]
    rw [e2]
    clear e2 hlv
    go_enter Try.func44, Try.ntmps44
    go_wp2_with fail
    refine l1.mono ?_
    rintro e w' ⟨rfl, k, rfl⟩
    go_wp2
    go_ret2
    exact ⟨rfl, grownBy_drewN w k _, HC.out.drew k⟩

set_option maxRecDepth 1000000 in
set_option maxHeartbeats 2000000 in
theorem median_ptr (R : Rig B n pb g A c lt St) {d : Array Nat} {w : World} (hS : St d w) (x y z q s : Nat) (hx : x < n) (hy : y < n) (hz : z < n) (hC : Cnt q s w) (hq : B ≤ q) (hs : s + 3 < 4611686018427387904) :
    Calls Try.prog 43 #[.iface 44 (.pointer (some ⟨pb, 0, none⟩)), .int .i64 x, .int .i64 y, .int .i64 z, .pointer (some ⟨q, 0, none⟩)] w fun e w' =>
      e = .returned (.int .i64 (median lt d x y z s).1) ∧ w.grownBy w' (some q) ∧ Cnt q (median lt d x y z s).2 w' := by
  have l1 := order2_lt' lt d s hx hy
  have s1 := order2_swaps' lt d x y s
  have l2 := order2_lt' lt d (order2 lt d x y s).2.2 l1.2 hz
  have s2 := order2_swaps' lt d (order2 lt d x y s).2.1 z (order2 lt d x y s).2.2
  have step := hide fun (w1 : World) (h : w.grownBy w1 (some q)) (a b t : Nat) (ha : a < n) (hb : b < n) (hC : Cnt q t w1) (ht : t < 4611686018427387904) => order2_ptr R (R.grown hS h (fun k e => by cases e; exact hq)) a b q t ha hb hC ht
  have c1 := step.out w (World.grownBy.refl w _) x y s hx hy hC (by omega)
  clear R hS hC
  go_enter Try.func43, Try.ntmps43
  go_wp2_with fail
  refine c1.mono ?_
  rintro e w1 ⟨rfl, g1, C1⟩
  have c2 := step.out w1 g1 _ _ _ l1.2 hz C1 (by omega)
  go_wp2_with fail
  refine c2.mono ?_
  rintro e w2 ⟨rfl, g2, C2⟩
  have c3 := step.out w2 (g1.trans g2) _ _ _ l1.1 l2.1 C2 (by omega)
  go_wp2_with fail
  refine c3.mono ?_
  rintro e w3 ⟨rfl, g3, C3⟩
  go_wp2
  go_ret
  exact ⟨rfl, (g1.trans g2).trans g3, C3⟩

set_option maxRecDepth 1000000 in
set_option maxHeartbeats 2000000 in
theorem medianAdjacent_ptr (R : Rig B n pb g A c lt St) {d : Array Nat} {w : World} (hS : St d w) (x q s : Nat) (hx : 1 ≤ x) (hx2 : x + 1 < n) (hC : Cnt q s w) (hq : B ≤ q) (hs : s + 3 < 4611686018427387904) :
    Calls Try.prog 42 #[.iface 44 (.pointer (some ⟨pb, 0, none⟩)), .int .i64 x, .pointer (some ⟨q, 0, none⟩)] w fun e w' =>
      e = .returned (.int .i64 (medianAdjacent lt d x s).1) ∧ w.grownBy w' (some q) ∧ Cnt q (medianAdjacent lt d x s).2 w' := by
  have hn := R.small
  have c1 := median_ptr R hS (x - 1) x (x + 1) q s (by omega) (by omega) hx2 hC hq hs
  rw [show ((x - 1 : Nat) : Int) = (x : Int) - 1 by omega, show ((x + 1 : Nat) : Int) = (x : Int) + 1 by omega] at c1
  clear R hS hC
  go_enter Try.func42, Try.ntmps42
  go_wp2_with fail
  refine c1.mono ?_
  rintro e w1 ⟨rfl, g1, C1⟩
  go_wp2
  go_ret
  exact ⟨rfl, g1, C1⟩

theorem grown_new {w w1 : World} {o : Obj} (h : (w.alloc o).grownBy w1 (some w.heap.size)) : w.grownBy w1 none :=
  ⟨h.os, h.tape, h.output, Nat.le_trans (by simp) h.size, fun i hi _ => (h.block i (by simp; omega) (fun e => by injection e with e; omega)).trans (Below.heap_alloc w o i hi)⟩

set_option maxRecDepth 1000000 in
set_option maxHeartbeats 4000000 in
theorem choosePivot_ptr (R : Rig B n pb g A c lt St) {d : Array Nat} {w : World} (hS : St d w) (a b : Nat) (hab : a < b) (hb : b ≤ n) :
    Calls Try.prog 34 #[.iface 44 (.pointer (some ⟨pb, 0, none⟩)), .int .i64 a, .int .i64 b] w fun e w' =>
      e = .returned (.tuple #[.int .i64 (choosePivot lt d a b).1, .int .i64 (hintCode (choosePivot lt d a b).2)]) ∧ St d w' := by
  have hn := R.small
  have hB := R.heap hS
  have RR := hide R
  have S1 := hide hS
  have MA := hide fun (x s : Nat) (w1 : World) (h : (w.alloc (.cells #[.int .i64 0] 3)).grownBy w1 (some w.heap.size)) (hC : Cnt w.heap.size s w1) (hx : 1 ≤ x) (hx2 : x + 1 < n) (hs : s + 3 < 4611686018427387904) => medianAdjacent_ptr R (R.grown hS (grown_new h) (fun _ e => by cases e)) x w.heap.size s hx hx2 hC hB hs
  have MD := hide fun (x y z s : Nat) (w1 : World) (h : (w.alloc (.cells #[.int .i64 0] 3)).grownBy w1 (some w.heap.size)) (hC : Cnt w.heap.size s w1) (hx : x < n) (hy : y < n) (hz : z < n) (hs : s + 3 < 4611686018427387904) => median_ptr R (R.grown hS (grown_new h) (fun _ e => by cases e)) x y z w.heap.size s hx hy hz hC hB hs
  have C0 : Hid (Cnt w.heap.size 0 (w.alloc (.cells #[.int .i64 0] 3))) := ⟨by simp, by simp⟩
  have G0 := hide (World.grownBy.refl (w.alloc (.cells #[.int .i64 0] 3)) (some w.heap.size))
  clear R hS
  rw [choosePivot_eq]
  obtain ⟨I, hI⟩ : ∃ I : Nat, I = a + (b - a) / 4 * 1 := ⟨_, rfl⟩
  obtain ⟨J, hJ⟩ : ∃ J : Nat, J = a + (b - a) / 4 * 2 := ⟨_, rfl⟩
  obtain ⟨K, hK⟩ : ∃ K : Nat, K = a + (b - a) / 4 * 3 := ⟨_, rfl⟩
  have eI : ((a : Int) + ((b : Int) - (a : Int)) / 4) = (I : Int) := by omega
  have eJ : ((a : Int) + ((b : Int) - (a : Int)) / 4 * 2) = (J : Int) := by omega
  have eK : ((a : Int) + ((b : Int) - (a : Int)) / 4 * 3) = (K : Int) := by omega
  by_cases h8 : b - a ≥ 8
  · by_cases h50 : b - a ≥ 50
    · obtain ⟨i1, s1, h1⟩ : ∃ i1 s1, medianAdjacent lt d I 0 = (i1, s1) := ⟨_, _, rfl⟩
      obtain ⟨j1, s2, h2⟩ : ∃ j1 s2, medianAdjacent lt d J s1 = (j1, s2) := ⟨_, _, rfl⟩
      obtain ⟨k1, s3, h3⟩ : ∃ k1 s3, medianAdjacent lt d K s2 = (k1, s3) := ⟨_, _, rfl⟩
      obtain ⟨p, s, h4⟩ : ∃ p s, median lt d i1 j1 k1 s3 = (p, s) := ⟨_, _, rfl⟩
      have hraw : rawPivot lt d a b = (p, s) := by simp only [rawPivot, if_pos h8, if_pos h50, ← hI, ← hJ, ← hK, h1, h2, h3, h4]
      have m1 := medianAdjacent_mem lt d I 0; rw [h1] at m1
      have m2 := medianAdjacent_mem lt d J s1; rw [h2] at m2
      have m3 := medianAdjacent_mem lt d K s2; rw [h3] at m3
      have n1 := medianAdjacent_count lt d I 0; rw [h1] at n1
      have n2 := medianAdjacent_count lt d J s1; rw [h2] at n2
      have n3 := medianAdjacent_count lt d K s2; rw [h3] at n3
      simp only [] at m1 m2 m3 n1 n2 n3
      have c1 := MA.out I 0 _ G0.out C0.out (by omega) (by omega) (by omega)
      rw [h1] at c1
      have c2 := hide fun (w1 : World) h hC => MA.out J s1 w1 h hC (by omega) (by omega) (by omega)
      rw [h2] at c2
      have c3 := hide fun (w1 : World) h hC => MA.out K s2 w1 h hC (by omega) (by omega) (by omega)
      rw [h3] at c3
      have c4 := hide fun (w1 : World) h hC => MD.out i1 j1 k1 s3 w1 h hC (by omega) (by omega) (by omega) (by omega)
      rw [h4] at c4
      rw [hraw]
      obtain ⟨Hc, hHc⟩ : ∃ Hc : Int, Hc = hintCode (hintOf s) := ⟨_, rfl⟩
      have hh0 : s = 0 → Hc = 1 := fun h => by rw [hHc, h]; rfl
      have hh12 : s = 12 → Hc = 2 := fun h => by rw [hHc, h]; rfl
      have hhx : s ≠ 0 → s ≠ 12 → Hc = 0 := fun h1 h2 => by rw [hHc]; unfold hintOf; rw [if_neg h1, if_neg h2]; rfl
      show Calls Try.prog 34 _ w fun e w' => e = .returned (.tuple #[.int .i64 (p : Int), .int .i64 (hintCode (hintOf s))]) ∧ St d w'
      rw [← hHc]
      clear hHc hraw
      clear h1 h2 h3 h4 MA MD hI hJ hK m1 m2 m3 C0
      go_enter Try.func34, Try.ntmps34
      go_wp2_with fail
      refine c1.mono ?_
      rintro e w1 ⟨rfl, g1, C1⟩
      have c2 := c2.out w1 g1 C1
      have C1 := hide C1
      go_wp2_with fail
      refine c2.mono ?_
      rintro e w2 ⟨rfl, g2, C2⟩
      have g2 := g1.trans g2
      have c3 := c3.out w2 g2 C2
      have C2 := hide C2
      go_wp2_with fail
      refine c3.mono ?_
      rintro e w3 ⟨rfl, g3, C3⟩
      have g3 := g2.trans g3
      have c4 := c4.out w3 g3 C3
      have C3 := hide C3
      go_wp2_with fail
      refine c4.mono ?_
      rintro e w4 ⟨rfl, g4, hc4, hf4⟩
      have HG := hide (grown_new (g3.trans g4))
      go_wp2
      all_goals
        go_ret2
        refine ⟨?_, RR.out.grown S1.out (row := none) HG.out (fun _ h => by cases h)⟩
        first
          | (have e0 : (s : Int) = 0 := of_beq_int (by assumption)
             rw [hh0 (by omega)]; rfl)
          | (have e1 : (s : Int) = 12 := of_beq_int (by assumption)
             rw [hh12 (by omega)]; rfl)
          | (have e0 : (s : Int) ≠ 0 := of_bne_int (by assumption)
             have e1 : (s : Int) ≠ 12 := of_bne_int (by assumption)
             rw [hhx (by omega) (by omega)]; rfl)
          | (rw [hh0 (by omega)]; rfl)
    · obtain ⟨p, s, h4⟩ : ∃ p s, median lt d I J K 0 = (p, s) := ⟨_, _, rfl⟩
      have hraw : rawPivot lt d a b = (p, s) := by simp only [rawPivot, if_pos h8, if_neg h50, ← hI, ← hJ, ← hK, h4]
      have c4 := MD.out I J K 0 _ G0.out C0.out (by omega) (by omega) (by omega) (by omega)
      rw [h4] at c4
      rw [hraw]
      obtain ⟨Hc, hHc⟩ : ∃ Hc : Int, Hc = hintCode (hintOf s) := ⟨_, rfl⟩
      have hh0 : s = 0 → Hc = 1 := fun h => by rw [hHc, h]; rfl
      have hh12 : s = 12 → Hc = 2 := fun h => by rw [hHc, h]; rfl
      have hhx : s ≠ 0 → s ≠ 12 → Hc = 0 := fun h1 h2 => by rw [hHc]; unfold hintOf; rw [if_neg h1, if_neg h2]; rfl
      show Calls Try.prog 34 _ w fun e w' => e = .returned (.tuple #[.int .i64 (p : Int), .int .i64 (hintCode (hintOf s))]) ∧ St d w'
      rw [← hHc]
      clear hHc hraw
      clear h4 MA MD hI hJ hK C0
      go_enter Try.func34, Try.ntmps34
      go_wp2_with fail
      refine c4.mono ?_
      rintro e w4 ⟨rfl, g4, hc4, hf4⟩
      have HG := hide (grown_new g4)
      go_wp2
      all_goals
        go_ret2
        refine ⟨?_, RR.out.grown S1.out (row := none) HG.out (fun _ h => by cases h)⟩
        first
          | (have e0 : (s : Int) = 0 := of_beq_int (by assumption)
             rw [hh0 (by omega)]; rfl)
          | (have e1 : (s : Int) = 12 := of_beq_int (by assumption)
             rw [hh12 (by omega)]; rfl)
          | (have e0 : (s : Int) ≠ 0 := of_bne_int (by assumption)
             have e1 : (s : Int) ≠ 12 := of_bne_int (by assumption)
             rw [hhx (by omega) (by omega)]; rfl)
          | (rw [hh0 (by omega)]; rfl)
  · obtain ⟨p, hp⟩ : ∃ p : Nat, p = J := ⟨_, rfl⟩
    obtain ⟨s, hs⟩ : ∃ s : Nat, s = 0 := ⟨_, rfl⟩
    have hraw : rawPivot lt d a b = (p, s) := by simp only [rawPivot, if_neg h8, ← hJ, hp, hs]
    rw [hraw]
    obtain ⟨Hc, hHc⟩ : ∃ Hc : Int, Hc = hintCode (hintOf s) := ⟨_, rfl⟩
    have hh0 : s = 0 → Hc = 1 := fun h => by rw [hHc, h]; rfl
    have hh12 : s = 12 → Hc = 2 := fun h => by rw [hHc, h]; rfl
    have hhx : s ≠ 0 → s ≠ 12 → Hc = 0 := fun h1 h2 => by rw [hHc]; unfold hintOf; rw [if_neg h1, if_neg h2]; rfl
    show Calls Try.prog 34 _ w fun e w' => e = .returned (.tuple #[.int .i64 (p : Int), .int .i64 (hintCode (hintOf s))]) ∧ St d w'
    rw [← hHc]
    clear hHc hraw
    subst hp
    have HG := hide (grown_new G0.out)
    clear MA MD hI hJ hK C0
    go_enter Try.func34, Try.ntmps34
    go_wp2
    all_goals
      go_ret2
      refine ⟨?_, RR.out.grown S1.out (row := none) HG.out (fun _ h => by cases h)⟩
      first
        | (have e0 : (s : Int) = 0 := of_beq_int (by assumption)
           rw [hh0 (by omega)]; rfl)
        | (have e1 : (s : Int) = 12 := of_beq_int (by assumption)
           rw [hh12 (by omega)]; rfl)
        | (have e0 : (s : Int) ≠ 0 := of_bne_int (by assumption)
           have e1 : (s : Int) ≠ 12 := of_bne_int (by assumption)
           rw [hhx (by omega) (by omega)]; rfl)
        | (rw [hh0 (by omega)]; rfl)

end Go.Proofs.Ytdifjpcfmmipoaa
