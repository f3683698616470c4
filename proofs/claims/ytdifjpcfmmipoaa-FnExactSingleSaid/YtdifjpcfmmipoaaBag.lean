/-
  The walks of sameBag, reversed and spec.Before.
-/
import Derived.Test.YtdifjpcfmmipoaaCount
import Derived.Deep.RegionHeld3
import Derived.Deep.RegionWith
import Derived.Deep.DrawnRows
namespace Go.Proofs.Ytdifjpcfmmipoaa
open Go.RowKit
attribute [local go_sem ↓] Go.wp_at_zero Go.wp_at_succ

theorem count_perm {fs gs : List Fau} (h : fs.Perm gs) (f : Fau) : gs.count f = fs.count f := (h.count_eq f).symm

theorem keep3 {w w' w2 : World} {B q : Nat} {x y z : Value} (h : Below B w w') (hB : B ≤ w'.heap.size) (hz : q < w'.heap.size) (c0 : w'.cell? ⟨q, 0, none⟩ = some x) (c1 : w'.cell? ⟨q, 1, none⟩ = some y) (c2 : w'.cell? ⟨q, 2, none⟩ = some z) (hb : Below w'.heap.size w' w2) :
    Below B w w2 ∧ B ≤ w2.heap.size ∧ q < w2.heap.size ∧ w2.cell? ⟨q, 0, none⟩ = some x ∧ w2.cell? ⟨q, 1, none⟩ = some y ∧ w2.cell? ⟨q, 2, none⟩ = some z :=
  ⟨h.trans (hb.mono hB), Nat.le_trans hB hb.size, Nat.lt_of_lt_of_le hz hb.size, (hb.cell (p := ⟨q, 0, none⟩) hz).trans c0, (hb.cell (p := ⟨q, 1, none⟩) hz).trans c1, (hb.cell (p := ⟨q, 2, none⟩) hz).trans c2⟩

set_option maxRecDepth 100000 in
set_option maxHeartbeats 1600000 in
theorem sameBag_any (A A' : Option Addr) (n c c' : Nat) (fs gs : List Fau) (w : World) (hr : FRow w w.heap.size A n fs) (hr' : FRow w w.heap.size A' n gs) (hp : fs.Perm gs) (hn : n ≤ 2147483647) :
    Calls Try.prog 13 #[.slice A n c, .slice A' n c'] w fun e w' => e = .returned (.bool true) ∧ Below w.heap.size w w' := by
  have H1 := hide fun (f : Fau) (W : World) (hb : Below w.heap.size w W) => countOf_any A n c fs f W ((hr.below hb).more hb.size) hn
  have H2 := hide fun (f : Fau) (W : World) (hb : Below w.heap.size w W) => show Calls Try.prog 23 #[.slice A' n c', .agg #[.int .i64 f.line, .int .i64 f.col, .string f.msg]] W fun e w' => e = .returned (.int .i64 (fs.count f : Nat)) ∧ Below W.heap.size W w' from by
    have := countOf_any A' n c' gs f W ((hr'.below hb).more hb.size) hn
    rwa [count_perm hp f] at this
  clear hr' hp
  go_enter Try.func13, Try.ntmps13
  go_wp2
  go_loopw [14] (fun i wr => ∃ k : Nat, k ≤ n ∧ i = .int .i64 k ∧ Below w.heap.size w wr) (fun i _ => n - (intOf i).toNat)
  case atStart => exact ⟨0, Nat.zero_le _, rfl, Below.refl _ _⟩
  case round =>
    obtain ⟨k, hk, rfl, hb⟩ := hrel
    by_cases hlt : k < n
    · obtain ⟨b, o, g, rfl, hB, hf, hat⟩ := hr.at_ hlt
      have h0 : wr.cell? ⟨b, o + k * 3, none⟩ = some (.int .i64 g.line) := (hb.cell (p := ⟨b, _, none⟩) hB).trans hat.line
      have h1 : wr.cell? ⟨b, o + k * 3 + 1, none⟩ = some (.int .i64 g.col) := (hb.cell (p := ⟨b, _, none⟩) hB).trans hat.col
      have h2 : wr.cell? ⟨b, o + k * 3 + 2, none⟩ = some (.string g.msg) := (hb.cell (p := ⟨b, _, none⟩) hB).trans hat.msg
      have hz := hb.size
      have K1 := hide fun (W : World) hW => H1.out g W hW
      have K2 := hide fun (W : World) hW => H2.out g W hW
      clear hr hat hf H1 H2
      go_wp2
      have hbx : Below w.heap.size w (wr.alloc (.cells #[.int .i64 g.line, .int .i64 g.col, .string g.msg] 27)) := hb.alloc hz _
      have d0 : (wr.alloc (.cells #[.int .i64 g.line, .int .i64 g.col, .string g.msg] 27)).cell? ⟨wr.heap.size, 0, none⟩ = some (.int .i64 g.line) := by simp
      have d1 : (wr.alloc (.cells #[.int .i64 g.line, .int .i64 g.col, .string g.msg] 27)).cell? ⟨wr.heap.size, 1, none⟩ = some (.int .i64 g.col) := by simp
      have d2 : (wr.alloc (.cells #[.int .i64 g.line, .int .i64 g.col, .string g.msg] 27)).cell? ⟨wr.heap.size, 2, none⟩ = some (.string g.msg) := by simp
      have hlx : wr.heap.size < (wr.alloc (.cells #[.int .i64 g.line, .int .i64 g.col, .string g.msg] 27)).heap.size := by simp
      have hwx := hbx.size
      generalize wr.alloc (.cells #[.int .i64 g.line, .int .i64 g.col, .string g.msg] 27) = W at *
      generalize wr.heap.size = q at *
      go_region_held3 (fun w' => Below w.heap.size w w' ∧ w.heap.size ≤ w'.heap.size ∧ q < w'.heap.size ∧ w'.cell? ⟨q, 0, none⟩ = some (.int .i64 g.line) ∧ w'.cell? ⟨q, 1, none⟩ = some (.int .i64 g.col) ∧ w'.cell? ⟨q, 2, none⟩ = some (.string g.msg))
        (first
          | exact ⟨hbx.drew, hwx, hlx, d0, d1, d2⟩
          | (go_split_ands; refine keep3 ?_ ?_ ?_ ?_ ?_ ?_ hb2 <;> assumption))
        (first
          | (go_at_call_of 23 (Value.slice (some ⟨b, o, none⟩) n c); refine (K1.out _ (by go_split_ands; assumption)).mono ?_; rintro e w2 ⟨rfl, hb2⟩)
          | (go_at_call_of 23 (Value.slice A' n c'); refine (K2.out _ (by go_split_ands; assumption)).mono ?_; rintro e w2 ⟨rfl, hb2⟩))
      go_split_ands
      clear K1 K2
      go_wp2
      go_roundw
      case rel => exact ⟨k + 1, by omega, by go_num, by assumption⟩
      case measure => simp [intOf]; omega
    · obtain rfl : k = n := by omega
      clear hr H1 H2
      go_wp2
      go_ret
      exact ⟨rfl, hb⟩

theorem before_no {a b : Fau} (h : before a b = false) : ¬ a.line < b.line ∧ (a.line = b.line → ¬ a.col < b.col) := by
  unfold before at h
  by_cases h1 : a.line < b.line
  · rw [if_pos h1] at h; cases h
  · rw [if_neg h1] at h
    refine ⟨h1, fun h2 => ?_⟩
    rw [if_pos h2] at h
    simpa using h

theorem before_any (a b : Fau) (w : World) (h : before a b = false) :
    Calls Try.prog 12 #[.agg #[.int .i64 a.line, .int .i64 a.col, .string a.msg], .agg #[.int .i64 b.line, .int .i64 b.col, .string b.msg]] w fun e w' => e = .returned (.bool false) ∧ Below w.heap.size w w' := by
  obtain ⟨h1, h2⟩ := before_no h
  clear h
  by_cases h3 : a.line = b.line
  · have h4 := h2 h3
    have e1 : (a.line == b.line) = true := beq_iff_eq.2 h3
    clear h2 h3
    go_enter Try.func12, Try.ntmps12
    go_wp2
    go_ret
    exact ⟨rfl, ((Below.refl _ _).alloc (Nat.le_refl _) _).alloc (by simp) _⟩
  · have e1 : (a.line == b.line) = false := beq_eq_false_iff_ne.2 h3
    clear h2 h3
    go_enter Try.func12, Try.ntmps12
    go_wp2
    go_ret
    exact ⟨rfl, ((Below.refl _ _).alloc (Nat.le_refl _) _).alloc (by simp) _⟩

theorem drop_rev {fs : List Fau} {j : Nat} {f : Fau} (h : fs[j]? = some f) : (fs.drop j).reverse = (fs.drop (j + 1)).reverse ++ [f] := by
  obtain ⟨hj, rfl⟩ := List.getElem?_eq_some_iff.1 h
  rw [List.drop_eq_getElem_cons hj, List.reverse_cons]

set_option maxRecDepth 100000 in
set_option maxHeartbeats 1600000 in
theorem reversed_any (A : Option Addr) (n c : Nat) (fs : List Fau) (w : World) (hr : FRow w w.heap.size A n fs) (hn : n ≤ 2147483647) :
    Calls Try.prog 15 #[.slice A n c] w (Faulted fs.reverse n w) := by
  obtain ⟨i0, hi0, hz0, hz1, hz2⟩ := info_parts infoFault
  have H0 := hide (show fs.drop n = [] from List.drop_of_length_le (by rw [hr.1]; omega))
  go_enter Try.func15, Try.ntmps15
  go_wp2
  go_loopw [3, 4] (fun v i wr => ∃ (x : Int) (m : Nat), -1 ≤ x ∧ x < n ∧ (m : Int) + x + 1 = n ∧ i = .int .i64 x ∧ wr.ownsRow w.heap.size 27 3 v m (cellsOf (fs.drop (x + 1).toNat).reverse) ∧ Below w.heap.size w wr) (fun _ i _ => (intOf i + 1).toNat)
  case atStart =>
    refine ⟨(n : Int) - 1, 0, by omega, by omega, by omega, rfl, ?_, Below.refl _ _⟩
    rw [show ((n : Int) - 1 + 1).toNat = n by omega, H0.out]
    exact ⟨rfl, .inl ⟨rfl, rfl⟩⟩
  case round =>
    obtain ⟨x, m, hx1, hx2, hm, rfl, hownr, hb⟩ := hrel
    have HM := hide hm
    by_cases hx : 0 ≤ x
    · obtain ⟨j, rfl⟩ := Int.eq_ofNat_of_zero_le hx
      have hlt : j < n := by omega
      obtain ⟨b, o, g, rfl, hB, hf, hat⟩ := hr.at_ hlt
      have h0 : wr.cell? ⟨b, o + j * 3, none⟩ = some (.int .i64 g.line) := (hb.cell (p := ⟨b, _, none⟩) hB).trans hat.line
      have h1 : wr.cell? ⟨b, o + j * 3 + 1, none⟩ = some (.int .i64 g.col) := (hb.cell (p := ⟨b, _, none⟩) hB).trans hat.col
      have h2 : wr.cell? ⟨b, o + j * 3 + 2, none⟩ = some (.string g.msg) := (hb.cell (p := ⟨b, _, none⟩) hB).trans hat.msg
      have HD := hide (show cellsOf (fs.drop ((j : Int) - 1 + 1).toNat).reverse = cellsOf (fs.drop ((j : Int) + 1).toNat).reverse ++ [.int .i64 g.line, .int .i64 g.col, .string g.msg] by
        rw [show ((j : Int) - 1 + 1).toNat = j by omega, show ((j : Int) + 1).toNat = j + 1 by omega, drop_rev hf, cellsOf_snoc])
      have hz := hb.size
      have hmn : m + 1 ≤ n := by omega
      clear hr hat hf hm
      go_wp2_with (at_builtin; refine wpList_append_lies _ rfl _ _ _ rfl w.heap.size 27 i0 _ 3 32 Try.underlying22 hi0 hz0 hz1 hz2 rfl (by omega) u3 m (cellsOf (fs.drop ((j : Int) + 1).toNat).reverse) rfl (hownr.alloc _) ⟨wr.heap.size, 0, none⟩ 1 1 [.int .i64 g.line, .int .i64 g.col, .string g.msg] rfl rfl (World.news_of_block (cs := #[.int .i64 g.line, .int .i64 g.col, .string g.msg]) (t := 27) (fr := (0, 0)) (heap_alloc_new wr _)) (by simp [Value.oneCell']) (by omega) (by unfold maxLen; omega) (by omega) (by simp; omega) (wr.heap.size + 1) (by simp) ?_; intro gg cap w1 hown1 hgrow hat hlt2)
      have hm := HM.out
      exact ⟨⟨(j : Int) - 1, m + 1, by omega, by omega, by omega, rfl, by rw [HD.out]; exact hown1, (hb.alloc hz _).grown hgrow (Nat.le_trans hz (by simp)) (fun q hq => (hownr.lt q hq).1)⟩, by simp [intOf]⟩
    · obtain rfl : x = -1 := by omega
      obtain rfl : m = n := by omega
      have HF := hide (faulted (fs := fs.reverse) (by simpa using hownr) hb)
      clear hr hownr HM hm H0
      go_wp2
      go_ret
      exact HF.out

end Go.Proofs.Ytdifjpcfmmipoaa
