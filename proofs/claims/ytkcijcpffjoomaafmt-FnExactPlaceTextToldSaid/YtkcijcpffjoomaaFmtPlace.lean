/-
  The walks of FnExactPlaceText and what it calls: a position told by its file, its line and its column, and the same by its definition.
-/
import Derived.Test.YtkcijcpffjoomaaFmtChecked
import Derived.Test.YtkcijcpffjoomaaFmtShelf
import Derived.Test.YtkcijcpffjoomaaFmtFmtFacts
import Derived.KernelRfl
import Derived.WalkKit
import Derived.WalkLawsBesides
import Derived.WalkSpells
namespace Go.Proofs.YtkcijcpffjoomaaFmt
open Go.RowKit Go.Shelf Go.Lib
open Go.Extern.Stop Go.Stop Go.Extern
attribute [local go_sem] call_sprintf guard_fmt printed_colon printed_colon0 fmt_colon fmt_colon0 op_int

theorem hide {p : Prop} (h : p) : Hid p := h
theorem ret_bool {a b : Bool} (h : a = b) : Ending.returned (.bool a) = .returned (.bool b) := by rw [h]

/-- A text out of its bytes. -/
def txt (l : List UInt8) : Value := .string ⟨l.toArray⟩

theorem decDigits_small {n : Nat} (h : n < 10) : decDigits n = [UInt8.ofNat (48 + n)] := by rw [decDigits]; simp [h]
theorem decDigits_big {n : Nat} (h : ¬ n < 10) : decDigits n = decDigits (n / 10) ++ [UInt8.ofNat (48 + n % 10)] := by rw [decDigits]; simp [h]

theorem conv1 (w : World) (x : Int) : (convert 31 9 (.slice (some ⟨w.heap.size, 0, none⟩) 1 1)).run Tryf.prog (w.alloc (.cells #[.int .u8 x] 5)) = .ok (.string ⟨#[UInt8.ofNat x.toNat]⟩) (w.alloc (.cells #[.int .u8 x] 5)) := by
  rw [run_convert_bytes_string _ _ _ _ _ _ _ Tryf.underlying31 Tryf.underlying5 Tryf.underlying9]
  rw [run_bytesToString _ _ 1 1 [x] (run_loadCells_list _ ⟨w.heap.size, 0, none⟩ [.int .u8 x] (by
    intro j v hj
    match j, hj with
    | 0, hj => obtain rfl : Value.int .u8 x = v := by simpa using hj
               simp [Addr.add]))]
  rfl

theorem decDigits_len : ∀ (k n : Nat), n < 10 ^ k → (decDigits n).length ≤ k + 1 := by
  intro k
  induction k with
  | zero => intro n h; obtain rfl : n = 0 := by omega
            rw [decDigits_small (by omega)]; simp
  | succ k ih =>
    intro n h
    by_cases h9 : n < 10
    · rw [decDigits_small h9]; simp
    · rw [decDigits_big h9, List.length_append]
      have := ih (n / 10) (by rw [Nat.pow_succ] at h; omega)
      simp; omega
theorem decDigits_le {n : Nat} (h : n ≤ 1099511627776) : (decDigits n).length ≤ 14 := decDigits_len 13 n (by omega)

set_option maxRecDepth 100000 in
theorem small_any : ∀ (k n : Nat) (w : World), n < k → n ≤ 1099511627776 →
    Calls Tryf.prog 7 #[.int .i64 n] w fun e w' => e = .returned (.string ⟨(decDigits n).toArray⟩) ∧ Below w.heap.size w w' := by
  intro k
  induction k with
  | zero => intro n w h; omega
  | succ k ih =>
    intro n w hk hn
    have hc := conv1 w (48 + (n : Int) % 10)
    by_cases h : n < 10
    · have HF := hide (decDigits_small h)
      clear ih
      go_enter Tryf.func7, Tryf.ntmps7
      go_wp2
      go_ret
      refine ⟨?_, (Below.refl _ _).alloc (Nat.le_refl _) _⟩
      rw [HF.out]
      show Ending.returned (.string ⟨#[UInt8.ofNat (48 + n % 10)]⟩) = _
      rw [Nat.mod_eq_of_lt h]
    · have HF := hide (decDigits_big h)
      have HI := hide fun (w1 : World) => ih (n / 10) w1 (by omega) (by omega)
      have hd : ((n / 10 : Nat) : Int) = (n : Int) / 10 := by omega
      have hl : (decDigits (n / 10)).length ≤ 14 := decDigits_le (by omega)
      rw [hd] at HI
      clear ih hd
      go_enter Tryf.func7, Tryf.ntmps7
      go_wp2_with (go_at_call 7; refine (HI.out _).mono ?_; rintro e w1 ⟨rfl, hb⟩)
      go_ret
      refine ⟨?_, ((Below.refl _ _).alloc (Nat.le_refl _) _).trans (hb.mono (by simp))⟩
      rw [HF.out]
      simp [ByteArray.ext_iff]

/-- A position as a text: its file, its line and its column, as far as it has them. -/
def placeText (file : List UInt8) (line col : Nat) : List UInt8 :=
  if line = 0 then (if file = [] then [45] else file)
  else (if file = [] then [] else file ++ [58]) ++ decDigits line ++ (if col = 0 then [] else 58 :: decDigits col)

theorem decDigits_ne (n : Nat) : decDigits n ≠ [] := by
  by_cases h : n < 10
  · rw [decDigits_small h]; simp
  · rw [decDigits_big h]; simp

theorem full_app (x y : ByteArray) (h : y.data.toList ≠ []) : (x ++ y).toList.isEmpty = false := by
  rw [toList_data, ByteArray.data_append, Array.toList_append]
  cases e : y.data.toList with
  | nil => exact absurd e h
  | cons a l => simp

theorem bytes_eq {s : ByteArray} {l : List UInt8} (h : s.data.toList = l) : Ending.returned (.string s) = .returned (.string ⟨l.toArray⟩) := by
  subst h
  cases s; rfl

set_option maxRecDepth 100000 in
theorem specPlace_any (file : ByteArray) (line col : Nat) (w : World) (hf : file.size ≤ 2147483647) (hl : line ≤ 1099511627776) (hc : col ≤ 1099511627776) :
    Calls Tryf.prog 5 #[.string file, .int .i64 line, .int .i64 col] w fun e w' => e = .returned (.string ⟨(placeText file.data.toList line col).toArray⟩) ∧ Below w.heap.size w w' := by
  have CS := hide fun (n : Nat) (w1 : World) (h : n ≤ 1099511627776) => small_any (n + 1) n w1 (by omega) h
  have l1 := decDigits_le hl
  have l2 := decDigits_le hc
  by_cases h0 : line = 0
  · by_cases he : file.data.toList = []
    · have e1 : file.toList.isEmpty = true := by rw [toList_data, he]; rfl
      have HF := hide (show placeText file.data.toList line col = [45] by unfold placeText; rw [if_pos h0, if_pos he])
      have h0' : ¬ (0 : Int) < (line : Int) := by omega
      clear CS h0 he
      go_enter Tryf.func5, Tryf.ntmps5
      go_wp2
      go_ret
      exact ⟨by rw [HF.out]; rfl, Below.refl _ _⟩
    · have e1 : file.toList.isEmpty = false := by rw [toList_data]; simpa using he
      have HF := hide (show placeText file.data.toList line col = file.data.toList by unfold placeText; rw [if_pos h0, if_neg he])
      have h0' : ¬ (0 : Int) < (line : Int) := by omega
      clear CS h0 he
      go_enter Tryf.func5, Tryf.ntmps5
      go_wp2
      go_ret
      exact ⟨by rw [HF.out]; exact bytes_eq rfl, Below.refl _ _⟩
  · have h0' : (0 : Int) < (line : Int) := by omega
    have n1 : ∀ x : ByteArray, (x ++ ⟨(decDigits line).toArray⟩).toList.isEmpty = false := fun x => full_app x _ (decDigits_ne line)
    have n2 : ∀ x : ByteArray, (x ++ (⟨#[58]⟩ ++ ⟨(decDigits col).toArray⟩)).toList.isEmpty = false := fun x => full_app x _ (by simp)
    by_cases he : file.data.toList = []
    · have e1 : file.toList.isEmpty = true := by rw [toList_data, he]; rfl
      by_cases hz : col = 0
      · have HF := hide (show file.data.toList ++ decDigits line = placeText file.data.toList line col by unfold placeText; rw [if_neg h0, if_pos he, if_pos hz, he]; simp)
        have hz' : ¬ (0 : Int) < (col : Int) := by omega
        clear h0 he hz
        go_enter Tryf.func5, Tryf.ntmps5
        go_wp2_with (go_at_call 7; refine (CS.out line _ hl).mono ?_; rintro e w1 ⟨rfl, hb⟩)
        go_ret
        exact ⟨bytes_eq (by rw [← HF.out]; simp), hb⟩
      · have HF := hide (show file.data.toList ++ decDigits line ++ (58 :: decDigits col) = placeText file.data.toList line col by unfold placeText; rw [if_neg h0, if_pos he, if_neg hz, he])
        have hz' : (0 : Int) < (col : Int) := by omega
        clear h0 he hz
        go_enter Tryf.func5, Tryf.ntmps5
        go_wp2_with fail
        refine (CS.out line _ hl).mono ?_
        rintro e w1 ⟨rfl, hb⟩
        go_wp2_with fail
        refine (CS.out col _ hc).mono ?_
        rintro e w2 ⟨rfl, hb2⟩
        go_wp2
        go_ret
        exact ⟨bytes_eq (by rw [← HF.out]; simp), hb.trans (hb2.mono hb.size)⟩
    · have e1 : file.toList.isEmpty = false := by rw [toList_data]; simpa using he
      by_cases hz : col = 0
      · have HF := hide (show file.data.toList ++ [58] ++ decDigits line = placeText file.data.toList line col by unfold placeText; rw [if_neg h0, if_neg he, if_pos hz]; simp)
        have hz' : ¬ (0 : Int) < (col : Int) := by omega
        clear h0 he hz
        go_enter Tryf.func5, Tryf.ntmps5
        go_wp2_with (go_at_call 7; refine (CS.out line _ hl).mono ?_; rintro e w1 ⟨rfl, hb⟩)
        go_ret
        exact ⟨bytes_eq (by rw [← HF.out]; simp), hb⟩
      · have HF := hide (show file.data.toList ++ [58] ++ decDigits line ++ (58 :: decDigits col) = placeText file.data.toList line col by unfold placeText; rw [if_neg h0, if_neg he, if_neg hz])
        have hz' : (0 : Int) < (col : Int) := by omega
        clear h0 he hz
        go_enter Tryf.func5, Tryf.ntmps5
        go_wp2_with fail
        refine (CS.out line _ hl).mono ?_
        rintro e w1 ⟨rfl, hb⟩
        go_wp2_with fail
        refine (CS.out col _ hc).mono ?_
        rintro e w2 ⟨rfl, hb2⟩
        go_wp2
        go_ret
        exact ⟨bytes_eq (by rw [← HF.out]; simp), hb.trans (hb2.mono hb.size)⟩

theorem itoa_any (n : Nat) (w : World) (hn : n ≤ 1099511627776) (htab : Lib.TabIs Tryf.prog w "internal/strconv.uint64pow10" .u64 Lib.pow10Tab) :
    Calls Tryf.prog 9 #[.int .i64 n] w fun e w' => e = .returned (.string ⟨(decDigits n).toArray⟩) ∧ Below w.heap.size w w' :=
  (Tryf.strconv_Itoa n (by omega) (by omega) w htab).mono fun e w' h => by
    obtain ⟨he, k, os, rfl⟩ := h
    refine ⟨by rw [he]; unfold itoa; rw [if_neg (by omega), Int.toNat_natCast], ⟨rfl, rfl, rfl, by simp, fun j hj => ?_⟩⟩
    exact Sort.heap_grow_old (w.drewN k) os hj

theorem tab_below {w w' : World} (h : Lib.TabIs Tryf.prog w "internal/strconv.uint64pow10" .u64 Lib.pow10Tab) (hb : Below w.heap.size w w') : Lib.TabIs Tryf.prog w' "internal/strconv.uint64pow10" .u64 Lib.pow10Tab := by
  have hg : Tryf.prog.globalNamed "internal/strconv.uint64pow10" = some 0 := by kernel_rfl
  have h0 := h.cell hg 0 (by rw [Lib.pow10Tab_length]; omega)
  exact var?_below hb hg (World.block_lt_of_cell? w _ h0) h

theorem reading_nat (col : Nat) : colonReading col = [[58, 37, 100], shapeInt, digits 8 (col % 18446744073709551616)] := by
  unfold colonReading
  rw [show ((col : Int) % 18446744073709551616).toNat = col % 18446744073709551616 by omega]

theorem isValid_yes (b line : Nat) (w : World) (hl : 0 < line) (hm : line ≤ 1099511627776) (hc : w.cell? ⟨b, 2, none⟩ = some (.int .i64 line)) : Calls Tryf.prog 8 #[.pointer (some ⟨b, 0, none⟩)] w fun e w' => e = .returned (.bool true) ∧ w = w' := by
  have h0 : (0 : Int) < (line : Int) := by omega
  go_enter Tryf.func8, Tryf.ntmps8
  go_wp2
  go_ret
  exact ⟨rfl, rfl⟩

set_option maxRecDepth 100000 in
theorem posString_any (F : Interp) (file : ByteArray) (at_ : Int) (line col : Nat) (w : World) (hF : F.answers w.tape) (hX : (FmtStop.textOf (F "fmt.Sprintf" (colonReading col) 0)).data.toList = 58 :: decDigits col)
    (htab : Lib.TabIs Tryf.prog w "internal/strconv.uint64pow10" .u64 Lib.pow10Tab) (hf : file.size ≤ 2147483647) (hl : line ≤ 1099511627776) (hc : col ≤ 1099511627776) :
    Calls Tryf.prog 6 #[.agg #[.string file, .int .i64 at_, .int .i64 line, .int .i64 col]] w fun e w' => e = .returned (.string ⟨(placeText file.data.toList line col).toArray⟩) ∧ Below w.heap.size w w' := by
  have CI := hide fun (w1 : World) (hb : Below w.heap.size w w1) => itoa_any line w1 hl (tab_below htab hb)
  have HA := hide fun (w1 : World) (hb : Below w.heap.size w w1) => answers_open (show F.answers w1.tape by rw [hb.tape]; exact hF)
  rw [reading_nat] at hX
  have HX := hide hX
  have hxs : (FmtStop.textOf (F "fmt.Sprintf" [[58, 37, 100], shapeInt, digits 8 (col % 18446744073709551616)] 0)).size ≤ 15 := by
    rw [Lib.size_eq, hX]; have := decDigits_le hc; simp; omega
  have l1 := decDigits_le hl
  clear hF hX htab
  by_cases h0 : line = 0
  · have h0' : ¬ (0 : Int) < (line : Int) := by omega
    by_cases he : file.data.toList = []
    · have e1 : file.toList.isEmpty = true := by rw [toList_data, he]; rfl
      have HF := hide (show placeText file.data.toList line col = [45] by unfold placeText; rw [if_pos h0, if_pos he])
      clear CI HA HX hxs h0 he
      go_enter Tryf.func6, Tryf.ntmps6
      go_wp2
      go_ret
      exact ⟨by rw [HF.out]; rfl, (Below.refl _ _).alloc (Nat.le_refl _) _⟩
    · have e1 : file.toList.isEmpty = false := by rw [toList_data]; simpa using he
      have HF := hide (show placeText file.data.toList line col = file.data.toList by unfold placeText; rw [if_pos h0, if_neg he])
      clear CI HA HX hxs h0 he
      go_enter Tryf.func6, Tryf.ntmps6
      go_wp2
      go_ret
      exact ⟨by rw [HF.out]; exact bytes_eq rfl, (Below.refl _ _).alloc (Nat.le_refl _) _⟩
  · have h0' : (0 : Int) < (line : Int) := by omega
    have n1 : ∀ x : ByteArray, (x ++ ⟨(decDigits line).toArray⟩).toList.isEmpty = false := fun x => full_app x _ (decDigits_ne line)
    have n2 : ∀ x : ByteArray, (x ++ FmtStop.textOf (F "fmt.Sprintf" [[58, 37, 100], shapeInt, digits 8 (col % 18446744073709551616)] 0)).toList.isEmpty = false := fun x => full_app x _ (by rw [HX.out]; simp)
    by_cases he : file.data.toList = []
    · have e1 : file.toList.isEmpty = true := by rw [toList_data, he]; rfl
      by_cases hz : col = 0
      · have HF := hide (show file.data.toList ++ decDigits line = placeText file.data.toList line col by unfold placeText; rw [if_neg h0, if_pos he, if_pos hz, he]; simp)
        have hz' : ((col : Int) != 0) = false := by rw [hz]; rfl
        clear h0 he hz HA hxs
        go_enter Tryf.func6, Tryf.ntmps6
        go_wp2_with fail
        refine (isValid_yes _ line _ (by omega) hl (by simp)).mono ?_
        rintro e wx ⟨rfl, rfl⟩
        go_wp2_with fail
        refine (CI.out _ ((Below.refl _ _).alloc (Nat.le_refl _) _)).mono ?_
        rintro e w1 ⟨rfl, hb⟩
        have c3 : w1.cell? ⟨w.heap.size, 3, none⟩ = some (.int .i64 col) := (hb.cell (p := ⟨w.heap.size, 3, none⟩) (by simp)).trans (by simp)
        go_wp2
        go_ret
        exact ⟨bytes_eq (by rw [← HF.out]; simp), ((Below.refl _ _).alloc (Nat.le_refl _) _).trans (hb.mono (by simp))⟩
      · have HF := hide (show file.data.toList ++ decDigits line ++ (58 :: decDigits col) = placeText file.data.toList line col by unfold placeText; rw [if_neg h0, if_pos he, if_neg hz, he])
        have hz' : ((col : Int) != 0) = true := by rw [bne_iff_ne]; omega
        clear h0 he hz
        go_enter Tryf.func6, Tryf.ntmps6
        go_wp2_with fail
        refine (isValid_yes _ line _ (by omega) hl (by simp)).mono ?_
        rintro e wx ⟨rfl, rfl⟩
        go_wp2_with fail
        refine (CI.out _ ((Below.refl _ _).alloc (Nat.le_refl _) _)).mono ?_
        rintro e w1 ⟨rfl, hb⟩
        have c3 : w1.cell? ⟨w.heap.size, 3, none⟩ = some (.int .i64 col) := (hb.cell (p := ⟨w.heap.size, 3, none⟩) (by simp)).trans (by simp)
        have hz1 : w.heap.size < w1.heap.size := by have := hb.size; simp at this; omega
        have hF1 := HA.out w1 (((Below.refl _ _).alloc (Nat.le_refl _) _).trans (hb.mono (by simp)))
        go_wp2
        go_ret
        exact ⟨bytes_eq (by rw [← HF.out]; simp [HX.out]), ((((Below.refl _ _).alloc (Nat.le_refl _) _).trans (hb.mono (by simp))).alloc (by omega) _).drew⟩
    · have e1 : file.toList.isEmpty = false := by rw [toList_data]; simpa using he
      by_cases hz : col = 0
      · have HF := hide (show file.data.toList ++ [58] ++ decDigits line = placeText file.data.toList line col by unfold placeText; rw [if_neg h0, if_neg he, if_pos hz]; simp)
        have hz' : ((col : Int) != 0) = false := by rw [hz]; rfl
        clear h0 he hz HA hxs
        go_enter Tryf.func6, Tryf.ntmps6
        go_wp2_with fail
        refine (isValid_yes _ line _ (by omega) hl (by simp)).mono ?_
        rintro e wx ⟨rfl, rfl⟩
        go_wp2_with fail
        refine (CI.out _ ((Below.refl _ _).alloc (Nat.le_refl _) _)).mono ?_
        rintro e w1 ⟨rfl, hb⟩
        have c3 : w1.cell? ⟨w.heap.size, 3, none⟩ = some (.int .i64 col) := (hb.cell (p := ⟨w.heap.size, 3, none⟩) (by simp)).trans (by simp)
        go_wp2
        go_ret
        exact ⟨bytes_eq (by rw [← HF.out]; simp), ((Below.refl _ _).alloc (Nat.le_refl _) _).trans (hb.mono (by simp))⟩
      · have HF := hide (show file.data.toList ++ [58] ++ decDigits line ++ (58 :: decDigits col) = placeText file.data.toList line col by unfold placeText; rw [if_neg h0, if_neg he, if_neg hz])
        have hz' : ((col : Int) != 0) = true := by rw [bne_iff_ne]; omega
        clear h0 he hz
        go_enter Tryf.func6, Tryf.ntmps6
        go_wp2_with fail
        refine (isValid_yes _ line _ (by omega) hl (by simp)).mono ?_
        rintro e wx ⟨rfl, rfl⟩
        go_wp2_with fail
        refine (CI.out _ ((Below.refl _ _).alloc (Nat.le_refl _) _)).mono ?_
        rintro e w1 ⟨rfl, hb⟩
        have c3 : w1.cell? ⟨w.heap.size, 3, none⟩ = some (.int .i64 col) := (hb.cell (p := ⟨w.heap.size, 3, none⟩) (by simp)).trans (by simp)
        have hz1 : w.heap.size < w1.heap.size := by have := hb.size; simp at this; omega
        have hF1 := HA.out w1 (((Below.refl _ _).alloc (Nat.le_refl _) _).trans (hb.mono (by simp)))
        go_wp2
        go_ret
        exact ⟨bytes_eq (by rw [← HF.out]; simp [HX.out]), ((((Below.refl _ _).alloc (Nat.le_refl _) _).trans (hb.mono (by simp))).alloc (by omega) _).drew⟩

end Go.Proofs.YtkcijcpffjoomaaFmt
