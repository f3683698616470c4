/-
  The walks of zzFits2 and zzFits1: whether a list of faults, and each message in it, is no longer than 2^31 - 1.
-/
import Derived.Test.YtdifjpcfmmipoaaChecked
import Derived.Test.YtdifjpcfmmipoaaWords
import Derived.KernelRfl
import Derived.WalkLawsBesides
namespace Go.Proofs.Ytdifjpcfmmipoaa
open Go.RowKit

/-- What zzFits2 asks of one fault. -/
def fit1 (f : Fau) : Bool := decide (f.msg.size ≤ 2147483647)
/-- What zzFits1 asks of a list. -/
def fits (fs : List Fau) : Bool := decide (fs.length ≤ 2147483647) && fs.all fit1

theorem Try.cells27 : Try.prog.cellsOf 27 = 3 := by kernel_rfl

set_option maxHeartbeats 400000 in
theorem fits2_any (f : Fau) (w : World) (hs : f.msg.size ≤ maxLen) :
    Calls Try.prog 19 #[.agg #[.int .i64 f.line, .int .i64 f.col, .string f.msg]] w fun e w' => e = .returned (.bool (fit1 f)) ∧ Below w.heap.size w w' := by
  unfold maxLen at hs
  by_cases h : f.msg.size ≤ 2147483647
  · have h1 : fit1 f = true := by simp [fit1, h]
    rw [h1]
    clear h1
    have h' : ¬ 2147483647 < f.msg.size := by omega
    go_enter Try.func19, Try.ntmps19
    go_wp2
    go_ret
    exact ⟨rfl, (Below.refl _ _).alloc (Nat.le_refl _) _⟩
  · have h1 : fit1 f = false := by simp [fit1, h]
    rw [h1]
    clear h1
    have h' : 2147483647 < f.msg.size := by omega
    go_enter Try.func19, Try.ntmps19
    go_wp2
    go_ret
    exact ⟨rfl, (Below.refl _ _).alloc (Nat.le_refl _) _⟩


theorem fits_take {fs : List Fau} {k : Nat} {f : Fau} (h : fs[k]? = some f) : (fs.take (k + 1)).all fit1 = ((fs.take k).all fit1 && fit1 f) := by
  rw [List.take_add_one, h]
  simp [List.all_append]

theorem fits_no {fs : List Fau} {k : Nat} {f : Fau} (h : fs[k]? = some f) (hf : fit1 f = false) : fits fs = false := by
  have hm : f ∈ fs := List.mem_of_getElem? h
  have : fs.all fit1 = false := List.all_eq_false.2 ⟨f, hm, by simp [hf]⟩
  simp [fits, this]

theorem fits_long {fs : List Fau} (h : ¬ fs.length ≤ 2147483647) : fits fs = false := by simp [fits, h]

theorem fits_yes {fs : List Fau} {n : Nat} (h : fs.length = n) (hn : n ≤ 2147483647) (ha : (fs.take n).all fit1 = true) : fits fs = true := by
  subst h
  rw [List.take_length] at ha
  simp [fits, hn, ha]

set_option maxHeartbeats 400000 in
theorem fits1_any (A : Option Addr) (n c : Nat) (fs : List Fau) (w : World) (hr : FRow w w.heap.size A n fs) (hm : ∀ f ∈ fs, f.msg.size ≤ maxLen) (hmax : n ≤ maxLen) :
    Calls Try.prog 9 #[.slice A n c] w fun e w' => e = .returned (.bool (fits fs)) ∧ Below w.heap.size w w' := by
  unfold maxLen at hmax
  by_cases hn : n ≤ 2147483647
  · go_enter Try.func9, Try.ntmps9
    have hn' : ¬ 2147483647 < n := by omega
    go_wp2
    go_loopw [10] (fun i wr => ∃ k : Nat, k ≤ n ∧ i = .int .i64 k ∧ Below w.heap.size w wr ∧ Hid ((fs.take k).all fit1 = true)) (fun i _ => n - (intOf i).toNat)
    case atStart => exact ⟨0, Nat.zero_le _, rfl, Below.refl _ _, rfl⟩
    case round =>
      obtain ⟨k, hk, rfl, hb, hH⟩ := hrel
      by_cases hlt : k < n
      · obtain ⟨b, o, f, rfl, hB, hf, hat⟩ := hr.at_ hlt
        have hms : f.msg.size ≤ maxLen := hm f (List.mem_of_getElem? hf)
        have h0 : wr.cell? ⟨b, o + k * 3, none⟩ = some (.int .i64 f.line) := (hb.cell (p := ⟨b, _, none⟩) hB).trans hat.line
        have h1 : wr.cell? ⟨b, o + k * 3 + 1, none⟩ = some (.int .i64 f.col) := (hb.cell (p := ⟨b, _, none⟩) hB).trans hat.col
        have h2 : wr.cell? ⟨b, o + k * 3 + 2, none⟩ = some (.string f.msg) := (hb.cell (p := ⟨b, _, none⟩) hB).trans hat.msg
        have hz := hb.size
        cases hv : fit1 f with
        | true =>
          have hH2 : Hid ((fs.take (k + 1)).all fit1 = true) := by
            have h : (fs.take k).all fit1 = true := hH
            show (fs.take (k + 1)).all fit1 = true
            rw [fits_take hf, h, hv]; rfl
          have ct : ∀ W : World, Calls Try.prog 19 #[.agg #[.int .i64 f.line, .int .i64 f.col, .string f.msg]] W fun e w' => e = .returned (.bool true) ∧ Below W.heap.size W w' := fun W => by
            have := fits2_any f W hms
            rwa [hv] at this
          have CT := hide ct
          clear ct hv hf hat hr hm hms hH
          go_wp2_with (go_at_call 19; refine (CT.out _).mono ?_; rintro e w' ⟨rfl, hb2⟩)
          go_roundw
          case rel => exact ⟨k + 1, by omega, by go_num, (hb.alloc hz _).trans (hb2.mono (by simp; omega)), hH2⟩
          case measure => simp [intOf]; omega
        | false =>
          have hF := hide (fits_no hf hv)
          have ct : ∀ W : World, Calls Try.prog 19 #[.agg #[.int .i64 f.line, .int .i64 f.col, .string f.msg]] W fun e w' => e = .returned (.bool false) ∧ Below W.heap.size W w' := fun W => by
            have := fits2_any f W hms
            rwa [hv] at this
          have CT := hide ct
          clear ct hv hf hat hr hm hms hH
          go_wp2_with (go_at_call 19; refine (CT.out _).mono ?_; rintro e w' ⟨rfl, hb2⟩)
          go_ret
          exact ⟨ret_bool hF.out.symm, (hb.alloc hz _).trans (hb2.mono (by simp; omega))⟩
      · have hkn : k = n := by omega
        have hF := hide (fits_yes hr.1 hn (hkn ▸ hH.out))
        clear hr hm hH hkn
        go_wp2
        go_ret
        exact ⟨ret_bool hF.out.symm, hb⟩
  · have hF := hide (fits_long (fs := fs) (by have := hr.1; omega))
    have hn' : 2147483647 < n := by omega
    clear hr hm
    go_enter Try.func9, Try.ntmps9
    go_wp2
    go_ret
    exact ⟨ret_bool hF.out.symm, Below.refl _ _⟩
end Go.Proofs.Ytdifjpcfmmipoaa
