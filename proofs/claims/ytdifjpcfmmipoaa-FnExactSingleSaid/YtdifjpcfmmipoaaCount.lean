/-
  The walks of placed, sameFaults, countOf, sameBag, reversed and spec.Before over slices of faults.
-/
import Derived.Test.YtdifjpcfmmipoaaFaults
import Derived.Test.YtdifjpcfmmipoaaPlain
import Derived.Deep.QuietTactic
import Derived.BigQuiet
namespace Go.Proofs.Ytdifjpcfmmipoaa
open Go.RowKit

instance : DecidableEq Fau := fun a b =>
  if h : a.line = b.line ∧ a.col = b.col ∧ a.msg.data.toList = b.msg.data.toList then isTrue (Fau.eq_of h.1 h.2.1 h.2.2)
  else isFalse fun e => h (by subst e; exact ⟨rfl, rfl, rfl⟩)

theorem Fau.eq_ways {a b : Fau} (h1 : a.line = b.line) (h2 : a.col = b.col) (h3 : a.msg.toList = b.msg.toList) : a = b :=
  Fau.eq_of h1 h2 (by rwa [ByteArray.toList_eq, ByteArray.toList_eq] at h3)

theorem count_take {fs : List Fau} {k : Nat} {f g : Fau} (h : fs[k]? = some g) : (fs.take (k + 1)).count f = (fs.take k).count f + if g = f then 1 else 0 := by
  rw [List.take_add_one, h, List.count_append]
  by_cases e : g = f
  · subst e; simp
  · rw [if_neg e]; simp [e]
theorem count_take_le (fs : List Fau) (k : Nat) (f : Fau) : (fs.take k).count f ≤ k := Nat.le_trans List.count_le_length (List.length_take_le _ _)

/-- The state of countOf behind k rounds. -/
def CRel (w : World) (f : Fau) (fs : List Fau) (k : Nat) (m : Value) (wr : World) : Prop :=
  m = .int .i64 ((fs.take k).count f : Nat) ∧ Below w.heap.size w wr ∧ w.heap.size < wr.heap.size ∧ wr.cell? ⟨w.heap.size, 0, none⟩ = some (.int .i64 f.line) ∧ wr.cell? ⟨w.heap.size, 1, none⟩ = some (.int .i64 f.col) ∧ wr.cell? ⟨w.heap.size, 2, none⟩ = some (.string f.msg)

theorem CRel.step {w wr : World} {f g : Fau} {fs : List Fau} {k : Nat} {m m' : Value} {o : Obj} (h : CRel w f fs k m wr) (hg : fs[k]? = some g) (hm : m' = .int .i64 (((fs.take k).count f : Nat) + if g = f then 1 else 0)) : CRel w f fs (k + 1) m' (wr.alloc o) := by
  obtain ⟨_, hb, hz, b0, b1, b2⟩ := h
  refine ⟨?_, hb.alloc hb.size _, by simp; omega, by rw [World.cell?_alloc_lt _ _ _ hz]; exact b0, by rw [World.cell?_alloc_lt _ _ _ hz]; exact b1, by rw [World.cell?_alloc_lt _ _ _ hz]; exact b2⟩
  rw [hm, count_take hg]
  split <;> simp

set_option maxRecDepth 100000 in
set_option maxHeartbeats 1600000 in
theorem countOf_any (A : Option Addr) (n c : Nat) (fs : List Fau) (f : Fau) (w : World) (hr : FRow w w.heap.size A n fs) (hn : n ≤ 2147483647) :
    Calls Try.prog 23 #[.slice A n c, .agg #[.int .i64 f.line, .int .i64 f.col, .string f.msg]] w fun e w' => e = .returned (.int .i64 (fs.count f : Nat)) ∧ Below w.heap.size w w' := by
  have HN := hide (show fs.take n = fs from List.take_of_length_le (by rw [hr.1]; omega))
  go_enter Try.func23, Try.ntmps23
  go_wp2
  go_loopw [5, 10] (fun m i wr => ∃ k : Nat, k ≤ n ∧ i = .int .i64 k ∧ CRel w f fs k m wr) (fun _ i _ => n - (intOf i).toNat)
  case atStart => exact ⟨0, Nat.zero_le _, rfl, by simp, (Below.refl _ _).alloc (Nat.le_refl _) _, by simp, by simp, by simp, by simp⟩
  case round =>
    obtain ⟨k, hk, rfl, hR⟩ := hrel
    have hR' := hR
    obtain ⟨rfl, hb, hz, b0, b1, b2⟩ := hR'
    by_cases hlt : k < n
    · obtain ⟨b, o, g, rfl, hB, hf, hat⟩ := hr.at_ hlt
      have h0 : wr.cell? ⟨b, o + k * 3, none⟩ = some (.int .i64 g.line) := (hb.cell (p := ⟨b, _, none⟩) hB).trans hat.line
      have h1 : wr.cell? ⟨b, o + k * 3 + 1, none⟩ = some (.int .i64 g.col) := (hb.cell (p := ⟨b, _, none⟩) hB).trans hat.col
      have h2 : wr.cell? ⟨b, o + k * 3 + 2, none⟩ = some (.string g.msg) := (hb.cell (p := ⟨b, _, none⟩) hB).trans hat.msg
      have hc := count_take_le fs k f
      have HS := hide fun (m' : Value) (x : Obj) hm => CRel.step (m' := m') (o := x) hR hf hm
      clear hr hat hf hR
      by_cases hg : g = f
      · subst hg
        go_wp2
        go_roundw
        case rel => exact ⟨k + 1, by omega, by go_num, HS.out _ _ (by rw [if_pos rfl])⟩
        case measure => simp [intOf]; omega
      · have HG := hide hg
        go_wp2
        all_goals first
          | (exfalso; exact HG.out (Fau.eq_ways ‹_› ‹_› ‹_›))
          | (go_roundw
             case rel => exact ⟨k + 1, by omega, by go_num, HS.out _ _ (by rw [if_neg HG.out]; simp)⟩
             case measure => simp [intOf]; omega)
    · obtain rfl : k = n := by omega
      have HF := hide hR.1
      clear hr hR
      go_wp2
      go_ret
      rw [HN.out]
      exact ⟨rfl, hb⟩

/-- What placed asks of a fault. -/
def place1 (f : Fau) : Bool := decide (1 ≤ f.line) && decide (1 ≤ f.col)
theorem placed_of {fs : List Fau} (h : fs.all place1 = true) : Placed fs := fun f hf => by
  have := List.all_eq_true.1 h f hf
  simpa [place1] using this
theorem place_take {fs : List Fau} {k : Nat} {f : Fau} (h : fs[k]? = some f) : (fs.take (k + 1)).all place1 = ((fs.take k).all place1 && place1 f) := by
  rw [List.take_add_one, h]
  simp [List.all_append]
theorem place_no {fs : List Fau} {k : Nat} {f : Fau} (h : fs[k]? = some f) (hf : place1 f = false) : fs.all place1 = false :=
  List.all_eq_false.2 ⟨f, List.mem_of_getElem? h, by simp [hf]⟩

set_option maxRecDepth 100000 in
set_option maxHeartbeats 1600000 in
theorem placed_any (A : Option Addr) (n c : Nat) (fs : List Fau) (w : World) (hr : FRow w w.heap.size A n fs) (hn : n ≤ 2147483647) :
    Calls Try.prog 10 #[.slice A n c] w fun e w' => e = .returned (.bool (fs.all place1)) ∧ Below w.heap.size w w' := by
  have HN := hide (show fs.take n = fs from List.take_of_length_le (by rw [hr.1]; omega))
  go_enter Try.func10, Try.ntmps10
  go_wp2
  go_loopw [7] (fun i wr => ∃ k : Nat, k ≤ n ∧ i = .int .i64 k ∧ Below w.heap.size w wr ∧ Hid ((fs.take k).all place1 = true)) (fun i _ => n - (intOf i).toNat)
  case atStart => exact ⟨0, Nat.zero_le _, rfl, Below.refl _ _, rfl⟩
  case round =>
    obtain ⟨k, hk, rfl, hb, hH⟩ := hrel
    by_cases hlt : k < n
    · obtain ⟨b, o, g, rfl, hB, hf, hat⟩ := hr.at_ hlt
      have h0 : wr.cell? ⟨b, o + k * 3, none⟩ = some (.int .i64 g.line) := (hb.cell (p := ⟨b, _, none⟩) hB).trans hat.line
      have h1 : wr.cell? ⟨b, o + k * 3 + 1, none⟩ = some (.int .i64 g.col) := (hb.cell (p := ⟨b, _, none⟩) hB).trans hat.col
      have h2 : wr.cell? ⟨b, o + k * 3 + 2, none⟩ = some (.string g.msg) := (hb.cell (p := ⟨b, _, none⟩) hB).trans hat.msg
      have hz := hb.size
      by_cases hl : g.line < 1
      · have HF := hide (place_no hf (by simp [place1]; omega))
        clear hr hat hf hH
        go_wp2
        go_ret
        exact ⟨ret_bool HF.out.symm, hb.alloc hz _⟩
      · by_cases hc : g.col < 1
        · have HF := hide (place_no hf (by simp [place1]; omega))
          clear hr hat hf hH
          go_wp2
          go_ret
          exact ⟨ret_bool HF.out.symm, hb.alloc hz _⟩
        · have HS := hide (show (fs.take (k + 1)).all place1 = true by rw [place_take hf, hH.out]; simp [place1]; omega)
          clear hr hat hf hH
          go_wp2
          go_roundw
          case rel => exact ⟨k + 1, by omega, by go_num, hb.alloc hz _, HS⟩
          case measure => simp [intOf]; omega
    · obtain rfl : k = n := by omega
      have HF := hide (show fs.all place1 = true by rw [← HN.out]; exact hH.out)
      clear hr hH
      go_wp2
      go_ret
      exact ⟨ret_bool HF.out.symm, hb⟩

set_option maxRecDepth 100000 in
set_option maxHeartbeats 1600000 in
theorem sameFaults_any (A A' : Option Addr) (n c c' : Nat) (fs : List Fau) (w : World) (hr : FRow w w.heap.size A n fs) (hr' : FRow w w.heap.size A' n fs) (hn : n ≤ 2147483647) :
    Calls Try.prog 14 #[.slice A n c, .slice A' n c'] w fun e w' => e = .returned (.bool true) ∧ Below w.heap.size w w' := by
  go_enter Try.func14, Try.ntmps14
  go_wp2
  go_loopw [13] (fun i wr => ∃ k : Nat, k ≤ n ∧ i = .int .i64 k ∧ Below w.heap.size w wr) (fun i _ => n - (intOf i).toNat)
  case atStart => exact ⟨0, Nat.zero_le _, rfl, Below.refl _ _⟩
  case round =>
    obtain ⟨k, hk, rfl, hb⟩ := hrel
    by_cases hlt : k < n
    · obtain ⟨b, o, g, rfl, hB, hf, hat⟩ := hr.at_ hlt
      obtain ⟨b', o', g', rfl, hB', hf', hat'⟩ := hr'.at_ hlt
      obtain rfl : g = g' := by rw [hf] at hf'; exact Option.some.inj hf'
      have h0 : wr.cell? ⟨b, o + k * 3, none⟩ = some (.int .i64 g.line) := (hb.cell (p := ⟨b, _, none⟩) hB).trans hat.line
      have h1 : wr.cell? ⟨b, o + k * 3 + 1, none⟩ = some (.int .i64 g.col) := (hb.cell (p := ⟨b, _, none⟩) hB).trans hat.col
      have h2 : wr.cell? ⟨b, o + k * 3 + 2, none⟩ = some (.string g.msg) := (hb.cell (p := ⟨b, _, none⟩) hB).trans hat.msg
      have h0' : wr.cell? ⟨b', o' + k * 3, none⟩ = some (.int .i64 g.line) := (hb.cell (p := ⟨b', _, none⟩) hB').trans hat'.line
      have h1' : wr.cell? ⟨b', o' + k * 3 + 1, none⟩ = some (.int .i64 g.col) := (hb.cell (p := ⟨b', _, none⟩) hB').trans hat'.col
      have h2' : wr.cell? ⟨b', o' + k * 3 + 2, none⟩ = some (.string g.msg) := (hb.cell (p := ⟨b', _, none⟩) hB').trans hat'.msg
      have hlt' : (k : Int) < (n : Int) := by omega
      clear hr hat hf hr' hat' hf'
      go_wp2
      go_quiet (fail)
      go_wp2
      go_roundw
      case rel => exact ⟨k + 1, by omega, by go_num, below_drewN hb _⟩
      case measure => simp [intOf]; omega
    · obtain rfl : k = n := by omega
      clear hr hr'
      go_wp2
      go_ret
      exact ⟨rfl, hb⟩

end Go.Proofs.Ytdifjpcfmmipoaa
