/-
  The walks of impl.PlaceText and laws.FnExactPlaceText.
-/
import Derived.Test.YtkcijcpffjoomaaFmtPlace
import Derived.BigQuiet
namespace Go.Proofs.YtkcijcpffjoomaaFmt
open Go.RowKit Go.Shelf Go.Lib
open Go.Extern.Stop Go.Stop Go.Extern

theorem implPlace_any (F : Interp) (file : ByteArray) (at_ : Int) (line col : Nat) (w : World) (hF : F.answers w.tape) (hX : (FmtStop.textOf (F "fmt.Sprintf" (colonReading col) 0)).data.toList = 58 :: decDigits col)
    (htab : Lib.TabIs Tryf.prog w "internal/strconv.uint64pow10" .u64 Lib.pow10Tab) (hf : file.size ≤ 2147483647) (hl : line ≤ 1099511627776) (hc : col ≤ 1099511627776) :
    Calls Tryf.prog 4 #[.string file, .int .i64 at_, .int .i64 line, .int .i64 col] w fun e w' => e = .returned (.string ⟨(placeText file.data.toList line col).toArray⟩) ∧ Below w.heap.size w w' := by
  have CP := hide (posString_any F file at_ line col w hF hX htab hf hl hc)
  clear hF hX htab
  go_enter Tryf.func4, Tryf.ntmps4
  go_wp2_with (go_at_call 6; refine CP.out.mono ?_; rintro e w1 ⟨rfl, hb⟩)
  go_ret
  exact ⟨rfl, hb⟩

theorem placeLaw_any (F : Interp) (file : ByteArray) (at_ line col : Int) (w : World) (hF : F.answers w.tape) (hX : ∀ n : Nat, n ≤ 1099511627776 → (FmtStop.textOf (F "fmt.Sprintf" (colonReading n) 0)).data.toList = 58 :: decDigits n)
    (htab : Lib.TabIs Tryf.prog w "internal/strconv.uint64pow10" .u64 Lib.pow10Tab) (hs : file.size ≤ maxLen) (hl : -9223372036854775808 ≤ line ∧ line ≤ 9223372036854775807) (hc : -9223372036854775808 ≤ col ∧ col ≤ 9223372036854775807) :
    Calls Tryf.prog 3 #[.string file, .int .i64 at_, .int .i64 line, .int .i64 col] w fun e w' => e = .returned (.bool true) ∧ Below w.heap.size w w' := by
  unfold maxLen at hs
  by_cases hn : file.size ≤ 2147483647
  · have hn' : ¬ (2147483647 < file.size) := by omega
    by_cases h1 : line < 0
    · clear hF hX htab
      go_enter Tryf.func3, Tryf.ntmps3
      go_wp2
      go_ret
      exact ⟨rfl, Below.refl _ _⟩
    · by_cases h2 : col < 0
      · clear hF hX htab
        go_enter Tryf.func3, Tryf.ntmps3
        go_wp2
        go_ret
        exact ⟨rfl, Below.refl _ _⟩
      · by_cases h3 : 1099511627776 < line
        · clear hF hX htab
          go_enter Tryf.func3, Tryf.ntmps3
          go_wp2
          go_ret
          exact ⟨rfl, Below.refl _ _⟩
        · by_cases h4 : 1099511627776 < col
          · clear hF hX htab
            go_enter Tryf.func3, Tryf.ntmps3
            go_wp2
            go_ret
            exact ⟨rfl, Below.refl _ _⟩
          · obtain ⟨l, rfl⟩ := Int.eq_ofNat_of_zero_le (Int.not_lt.1 h1)
            obtain ⟨c, rfl⟩ := Int.eq_ofNat_of_zero_le (Int.not_lt.1 h2)
            have hl' : l ≤ 1099511627776 := by omega
            have hc' : c ≤ 1099511627776 := by omega
            have CI := hide (implPlace_any F file at_ l c w hF (hX c hc') htab hn hl' hc')
            have CS := hide fun (w1 : World) => specPlace_any file l c w1 hn hl' hc'
            clear hF hX htab
            go_enter Tryf.func3, Tryf.ntmps3
            go_wp2_with fail
            refine CI.out.mono ?_
            rintro e w1 ⟨rfl, hb⟩
            go_wp2_with fail
            refine (CS.out _).mono ?_
            rintro e w2 ⟨rfl, hb2⟩
            go_wp2
            go_ret
            exact ⟨ret_bool (by simp), hb.trans (hb2.mono hb.size)⟩
  · have hn' : 2147483647 < file.size := by omega
    clear hF hX htab
    go_enter Tryf.func3, Tryf.ntmps3
    go_wp2
    go_ret
    exact ⟨rfl, Below.refl _ _⟩

end Go.Proofs.YtkcijcpffjoomaaFmt
