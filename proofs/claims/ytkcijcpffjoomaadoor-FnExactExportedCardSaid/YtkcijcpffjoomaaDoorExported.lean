/-
  The walks of FnExactExported and what it calls: whether a name begins with an upper-case letter, asked twice, is the same.
-/
import Derived.Test.YtkcijcpffjoomaaDoorChecked
import Derived.Test.YtkcijcpffjoomaaDoorShelf
import Derived.KernelRfl
import Derived.WalkKit
import Derived.WalkLawsBesides
namespace Go.Proofs.YtkcijcpffjoomaaDoor
open Go.RowKit Go.Shelf Go.Lib

theorem hide {p : Prop} (h : p) : Hid p := h
theorem ret_bool {a b : Bool} (h : a = b) : Ending.returned (.bool a) = .returned (.bool b) := by rw [h]

/-- What the four tables of the library hold. -/
def Tabs (w : World) : Prop := Lib.TabIs Tryd.prog w "unicode.properties" .u8 Lib.propertiesTab ∧ RVar 3 upperT w ∧ Lib.Utf8Tabs 0 1 w

theorem Tabs.below {w w' : World} (h : Tabs w) (hb : Below w.heap.size w w') : Tabs w' :=
  ⟨TabIs_below (g := 2) (by kernel_rfl) h.1 hb, RVar_below h.2.1 hb, Utf8Tabs_below h.2.2 hb⟩

/-- A bool comes back, and nothing that was there has turned. -/
def SomeBool (w : World) (e : Ending) (w' : World) : Prop := ∃ b, e = .returned (.bool b) ∧ Below w.heap.size w w'

theorem below_iter (w : World) (s : ByteArray) (pos : Nat) : Below w.heap.size w (w.iter s pos) := (Below.refl _ _).alloc (Nat.le_refl _) _

theorem width_pos (s : ByteArray) (pos : Nat) : 0 < (Utf8.decode s pos).2 := by
  simp only [Utf8.decode]
  repeat' split
  all_goals simp

set_option maxRecDepth 1000000 in
theorem doubt_any (s : ByteArray) (w : World) : Calls Tryd.prog 8 #[.string s] w (SomeBool w) := by
  go_enter Tryd.func8, Tryd.ntmps8
  go_wp2
  go_loopw [4] (fun _ w' => ∃ pos, w' = w.iter s pos) (fun _ w' => s.size - w'.iterPos w.heap.size)
  case atStart => exact ⟨0, rfl⟩
  case round =>
    obtain ⟨pos, rfl⟩ := hrel
    by_cases hp : pos < s.size
    · have hnx : ∀ ty, (Instr.next (.pointer (some ⟨w.heap.size, 0, none⟩)) true ty).run Tryd.prog (w.iter s pos) = _ := fun ty => run_next_any w s pos ty hp
      have hwd := width_pos s pos
      by_cases h0 : (Utf8.decode s pos).1 = 0
      · have i0 : (((Utf8.decode s pos).1 : Int) == 0) = true := by rw [beq_iff_eq]; omega
        clear h0
        go_wp2
        go_ret
        exact ⟨true, rfl, below_iter _ _ _⟩
      · have i0 : (((Utf8.decode s pos).1 : Int) == 0) = false := by rw [beq_eq_false_iff_ne]; omega
        by_cases h1 : (Utf8.decode s pos).1 = 65279
        · have i1 : (((Utf8.decode s pos).1 : Int) == 65279) = true := by rw [beq_iff_eq]; omega
          clear h0 h1
          go_wp2
          go_ret
          exact ⟨true, rfl, below_iter _ _ _⟩
        · have i1 : (((Utf8.decode s pos).1 : Int) == 65279) = false := by rw [beq_eq_false_iff_ne]; omega
          clear h0 h1
          go_wp2
          go_roundw
          case rel => exact ⟨_, rfl⟩
          case measure => simp; omega
    · have hnx : ∀ ty, (Instr.next (.pointer (some ⟨w.heap.size, 0, none⟩)) true ty).run Tryd.prog (w.iter s pos) = _ := fun ty => run_next_end w s pos ty hp
      go_wp2
      go_ret
      exact ⟨false, rfl, below_iter _ _ _⟩

theorem plain_any (s : ByteArray) (w : World) (hs : s.size ≤ 9223372036854775807) (hT : Tabs w) : Calls Tryd.prog 4 #[.string s] w (SomeBool w) := by
  have CV := hide (Tryd.utf8_ValidString s w hs hT.2.2)
  have CD := hide (doubt_any s)
  clear hT
  cases hv : Lib.validD s.data.toList with
  | false =>
    rw [hv] at CV
    clear hv
    go_enter Tryd.func4, Tryd.ntmps4
    go_wp2_with (go_at_call 7; refine CV.out.mono ?_; rintro e w1 ⟨rfl, hb⟩)
    go_ret
    exact ⟨false, rfl, hb⟩
  | true =>
    rw [hv] at CV
    clear hv
    go_enter Tryd.func4, Tryd.ntmps4
    go_wp2_with (go_at_call 7; refine CV.out.mono ?_; rintro e w1 ⟨rfl, hb⟩)
    go_wp2_with (go_at_call 8; refine (CD.out w1).mono ?_; rintro e w2 ⟨b, rfl, hb2⟩)
    go_ret
    exact ⟨_, rfl, hb.trans (hb2.mono hb.size)⟩

/-- The first rune of a word, as Go's decoder gives it. -/
def rn (s : ByteArray) : Nat := (Lib.decodeGo s).1
theorem rn_le (s : ByteArray) : rn s ≤ 2147483647 := by
  unfold rn Lib.decodeGo
  split
  · decide
  · exact decode_le s 0

theorem tokenIsExported_any (s : ByteArray) (w : World) (hT : Tabs w) : Calls Tryd.prog 9 #[.string s] w fun e w' => e = .returned (.bool (isUpperU (rn s))) ∧ Below w.heap.size w w' := by
  have hr := rn_le s
  have CR := hide (Tryd.utf8_DecodeRuneInString s w hT.2.2)
  have CU := hide fun (w1 : World) (hb : Below w.heap.size w w1) => Tryd.unicode_IsUpper_all (rn s) w1 (by omega) (by omega) (hT.below hb).1 (hT.below hb).2.1
  clear hT
  go_enter Tryd.func9, Tryd.ntmps9
  go_wp2_with (go_at_call 10; refine CR.out.mono ?_; rintro e w1 ⟨rfl, hb⟩)
  go_wp2_with (go_at_call 11; refine (CU.out w1 hb).mono ?_; rintro e w2 ⟨rfl, hb2⟩)
  go_ret
  exact ⟨rfl, hb.trans (hb2.mono hb.size)⟩

theorem isExported_any (s : ByteArray) (w : World) (hT : Tabs w) : Calls Tryd.prog 5 #[.string s] w fun e w' => e = .returned (.bool (isUpperU (rn s))) ∧ Below w.heap.size w w' := by
  have CT := hide (tokenIsExported_any s w hT)
  clear hT
  go_enter Tryd.func5, Tryd.ntmps5
  go_wp2_with (go_at_call 9; refine CT.out.mono ?_; rintro e w1 ⟨rfl, hb⟩)
  go_ret
  exact ⟨rfl, hb⟩

theorem upper_replacement : isUpperU 65533 = false := by kernel_rfl

theorem upper_any (s : ByteArray) (w : World) (hT : Tabs w) : Calls Tryd.prog 6 #[.string s] w fun e w' => e = .returned (.bool (isUpperU (rn s))) ∧ Below w.heap.size w w' := by
  have hr := rn_le s
  have CR := hide (Tryd.utf8_DecodeRuneInString s w hT.2.2)
  have CU := hide fun (w1 : World) (hb : Below w.heap.size w w1) => Tryd.unicode_IsUpper_all (rn s) w1 (by omega) (by omega) (hT.below hb).1 (hT.below hb).2.1
  clear hT
  by_cases h0 : s.size = 0
  · have e : Lib.decodeGo s = (65533, 0) := by unfold Lib.decodeGo; rw [if_pos h0]
    have HF : Hid (isUpperU (rn s) = false) := by unfold rn; rw [e]; exact upper_replacement
    rw [e] at CR
    clear h0 e CU hr
    go_enter Tryd.func6, Tryd.ntmps6
    go_wp2_with (go_at_call 10; refine CR.out.mono ?_; rintro e w1 ⟨rfl, hb⟩)
    go_ret
    exact ⟨ret_bool HF.out.symm, hb⟩
  · have h2 : 0 < (Lib.decodeGo s).2 := by unfold Lib.decodeGo; rw [if_neg h0]; exact width_pos s 0
    have h2' : (0 : Int) < ((Lib.decodeGo s).2 : Int) := by omega
    clear h0
    go_enter Tryd.func6, Tryd.ntmps6
    go_wp2_with (go_at_call 10; refine CR.out.mono ?_; rintro e w1 ⟨rfl, hb⟩)
    go_wp2_with (go_at_call 11; refine (CU.out w1 hb).mono ?_; rintro e w2 ⟨rfl, hb2⟩)
    go_ret
    exact ⟨rfl, hb.trans (hb2.mono hb.size)⟩

theorem law_any (s : ByteArray) (w : World) (hs : s.size ≤ maxLen) (hT : Tabs w) :
    Calls Tryd.prog 3 #[.string s] w fun e w' => e = .returned (.bool true) ∧ Below w.heap.size w w' := by
  unfold maxLen at hs
  have CP := hide (plain_any s w (by omega) hT)
  have C1 := hide fun (w1 : World) (hb : Below w.heap.size w w1) => isExported_any s w1 (hT.below hb)
  have C2 := hide fun (w1 : World) (hb : Below w.heap.size w w1) => upper_any s w1 (hT.below hb)
  clear hT
  by_cases hn : s.size ≤ 2147483647
  · have hn' : ¬ 2147483647 < s.size := by omega
    go_enter Tryd.func3, Tryd.ntmps3
    go_wp2_with fail
    refine CP.out.mono ?_
    rintro e w1 ⟨b, rfl, hb⟩
    cases b
    · go_wp2
      go_ret
      exact ⟨rfl, hb⟩
    · go_wp2_with (go_at_call 5; refine (C1.out w1 hb).mono ?_; rintro e w2 ⟨rfl, hb2⟩)
      have hb3 : Below w.heap.size w w2 := hb.trans (hb2.mono hb.size)
      go_wp2_with (go_at_call 6; refine (C2.out w2 hb3).mono ?_; rintro e w3 ⟨rfl, hb4⟩)
      go_ret
      exact ⟨ret_bool (by simp), hb3.trans (hb4.mono hb3.size)⟩
  · have hn' : 2147483647 < s.size := by omega
    go_enter Tryd.func3, Tryd.ntmps3
    go_wp2
    go_ret
    exact ⟨rfl, Below.refl _ _⟩

end Go.Proofs.YtkcijcpffjoomaaDoor
