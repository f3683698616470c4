/-
  The walk of laws.FnExactSorted: no error lies ahead of the one before it, and the errors are the same bag.
-/
import Derived.Test.YtdifjpcfmmipoaaTwiceLaw
import Derived.Deep.RegionHeld3
import Derived.Deep.RegionWith
import Derived.Deep.DrawnRows
namespace Go.Proofs.Ytdifjpcfmmipoaa
open Go.RowKit
attribute [local go_sem ↓] Go.wp_at_zero Go.wp_at_succ

theorem keep6 {w w' w2 : World} {B b o o' : Nat} {x y z x' y' z' : Value} (h : Below B w w') (hB : B ≤ w'.heap.size) (hz : b < w'.heap.size) (c0 : w'.cell? ⟨b, o, none⟩ = some x) (c1 : w'.cell? ⟨b, o + 1, none⟩ = some y) (c2 : w'.cell? ⟨b, o + 2, none⟩ = some z)
    (d0 : w'.cell? ⟨b, o', none⟩ = some x') (d1 : w'.cell? ⟨b, o' + 1, none⟩ = some y') (d2 : w'.cell? ⟨b, o' + 2, none⟩ = some z') (hb : Below w'.heap.size w' w2) :
    Below B w w2 ∧ B ≤ w2.heap.size ∧ b < w2.heap.size ∧ w2.cell? ⟨b, o, none⟩ = some x ∧ w2.cell? ⟨b, o + 1, none⟩ = some y ∧ w2.cell? ⟨b, o + 2, none⟩ = some z ∧ w2.cell? ⟨b, o', none⟩ = some x' ∧ w2.cell? ⟨b, o' + 1, none⟩ = some y' ∧ w2.cell? ⟨b, o' + 2, none⟩ = some z' :=
  have k : ∀ i, w2.cell? ⟨b, i, none⟩ = w'.cell? ⟨b, i, none⟩ := fun i => hb.cell (p := ⟨b, i, none⟩) hz
  ⟨h.trans (hb.mono hB), Nat.le_trans hB hb.size, Nat.lt_of_lt_of_le hz hb.size, (k _).trans c0, (k _).trans c1, (k _).trans c2, (k _).trans d0, (k _).trans d1, (k _).trans d2⟩

set_option maxRecDepth 100000 in
set_option maxHeartbeats 1600000 in
theorem exact_any (A : Option Addr) (n c : Nat) (fs : List Fau) (w : World) (hr : FRow w w.heap.size A n fs) (hm : ∀ f ∈ fs, f.msg.size ≤ maxLen) (hmax : n ≤ maxLen) :
    Calls Try.prog 3 #[.slice A n c] w fun e w' => e = .returned (.bool true) ∧ Below w.heap.size w w' := by
  have CF := hide (fits1_any A n c fs w hr hm hmax)
  cases hv : fits fs with
  | false =>
    rw [hv] at CF
    clear hr hm hmax hv
    go_enter Try.func3, Try.ntmps3
    go_wp2_with (go_at_call 9; refine CF.out.mono ?_; rintro e w1 ⟨rfl, q⟩)
    go_ret
    exact ⟨rfl, q⟩
  | true =>
    rw [hv] at CF
    have hn := fits_len hv hr.1
    have CP := hide fun (w1 : World) (hb : Below w.heap.size w w1) => placed_any A n c fs w1 (hr.now hb) hn
    clear hm hmax hv
    cases hp : fs.all place1 with
    | false =>
      rw [hp] at CP
      clear hr hp
      go_enter Try.func3, Try.ntmps3
      go_wp2_with fail
      refine CF.out.mono ?_
      rintro e w1 ⟨rfl, b1⟩
      go_wp2_with fail
      refine (CP.out w1 b1).mono ?_
      rintro e w2 ⟨rfl, b2⟩
      go_wp2
      go_ret
      exact ⟨rfl, go_on b1 b2⟩
    | true =>
      rw [hp] at CP
      have CS := hide fun (w1 : World) (h : FRow w1 w1.heap.size A n fs) => sortImpl_any A n c fs w1 h hn
      have CE := hide fun (B : Option Addr) (d : Nat) (w1 : World) (h : FRow w1 w1.heap.size B n (srt fs)) (h' : FRow w1 w1.heap.size A n fs) => sameBag_any B A n d c (srt fs) fs w1 h h' (srt_perm fs) hn
      have HR := hide fun (w1 : World) (hb : Below w.heap.size w w1) => hr.now hb
      clear hp hr
      go_enter Try.func3, Try.ntmps3
      go_wp2_with fail
      refine CF.out.mono ?_
      rintro e w1 ⟨rfl, b1⟩
      go_wp2_with fail
      refine (CP.out w1 b1).mono ?_
      rintro e w2 ⟨rfl, b2⟩
      have b2 := go_on b1 b2
      go_wp2_with fail
      refine (CS.out w2 (HR.out w2 b2)).mono ?_
      rintro e w3 ⟨A3, c3, rfl, r3, b3⟩
      have b3 := go_on b2 b3
      have hbase := b3.size
      have hlen := r3.1
      have HN := hide fun (w1 : World) (hb : Below w3.heap.size w3 w1) => HR.out w1 (go_on b3 hb)
      have CB := hide fun (j : Nat) (f g : Fau) (w1 : World) (hf : (srt fs)[j + 1]? = some f) (hg : (srt fs)[j]? = some g) => before_any f g w1 (by
        obtain ⟨h1, rfl⟩ := List.getElem?_eq_some_iff.1 hf
        obtain ⟨h2, rfl⟩ := List.getElem?_eq_some_iff.1 hg
        exact asc_before (srt_asc fs) h1)
      clear CF CP CS b1 b2
      go_wp2
      go_loopw [4] (fun i wr => ∃ k : Nat, 1 ≤ k ∧ (k : Int) ≤ max (n : Int) 1 ∧ i = .int .i64 k ∧ Below w3.heap.size w3 wr) (fun i _ => n - (intOf i).toNat)
      case atStart => exact ⟨1, Nat.le_refl _, by omega, rfl, Below.refl _ _⟩
      case round =>
        obtain ⟨k, hk1, hk, rfl, hb⟩ := hrel
        by_cases hlt : k < n
        · obtain ⟨j, rfl⟩ : ∃ j, k = j + 1 := ⟨k - 1, by omega⟩
          obtain ⟨b, o, f, rfl, hB, hf, hat⟩ := r3.at_ hlt
          obtain ⟨b', o', g, e', hB', hg, hat'⟩ := r3.at_ (k := j) (by omega)
          cases e'
          have h0 : wr.cell? ⟨b, o + (j + 1) * 3, none⟩ = some (.int .i64 f.line) := (hb.cell (p := ⟨b, _, none⟩) hB).trans hat.line
          have h1 : wr.cell? ⟨b, o + (j + 1) * 3 + 1, none⟩ = some (.int .i64 f.col) := (hb.cell (p := ⟨b, _, none⟩) hB).trans hat.col
          have h2 : wr.cell? ⟨b, o + (j + 1) * 3 + 2, none⟩ = some (.string f.msg) := (hb.cell (p := ⟨b, _, none⟩) hB).trans hat.msg
          have d0 : wr.cell? ⟨b, o + j * 3, none⟩ = some (.int .i64 g.line) := (hb.cell (p := ⟨b, _, none⟩) hB).trans hat'.line
          have d1 : wr.cell? ⟨b, o + j * 3 + 1, none⟩ = some (.int .i64 g.col) := (hb.cell (p := ⟨b, _, none⟩) hB).trans hat'.col
          have d2 : wr.cell? ⟨b, o + j * 3 + 2, none⟩ = some (.string g.msg) := (hb.cell (p := ⟨b, _, none⟩) hB).trans hat'.msg
          have CB1 := hide fun (w1 : World) => CB.out j f g w1 hf hg
          have hz := hb.size
          clear r3 hat hat' hf hg CB CE HN
          have hj : ((j + 1 : Nat) : Int) = (j : Int) + 1 := by push_cast; rfl
          rw [hj]
          have hlb : b < wr.heap.size := by omega
          have q0 : (0 : Int) ≤ (j : Int) + 1 := by omega
          have q1 : (j : Int) + 1 < (n : Int) := by omega
          have q2 : IntKind.i64.wrap ((j : Int) + 1 - 1) = (j : Int) := by rw [IntKind.wrap_i64]; omega
          have q9 : IntKind.i64.wrap (j : Int) = (j : Int) := by rw [IntKind.wrap_i64]; omega
          have q6 : (0 : Int) ≤ (j : Int) + 1 - 1 := by omega
          have q7 : (j : Int) + 1 - 1 < (n : Int) := by omega
          have q8 : ((j : Int) + 1 - 1).toNat = j := by omega
          have q3 : (0 : Int) ≤ (j : Int) := by omega
          have q4 : (j : Int) < (n : Int) := by omega
          have q5 : ((j : Int) + 1).toNat = j + 1 := by omega
          go_wp2
          go_region_held3 (fun w' => Below w3.heap.size w3 w' ∧ w3.heap.size ≤ w'.heap.size ∧ b < w'.heap.size ∧ w'.cell? ⟨b, o + (j + 1) * 3, none⟩ = some (.int .i64 f.line) ∧ w'.cell? ⟨b, o + (j + 1) * 3 + 1, none⟩ = some (.int .i64 f.col) ∧ w'.cell? ⟨b, o + (j + 1) * 3 + 2, none⟩ = some (.string f.msg) ∧ w'.cell? ⟨b, o + j * 3, none⟩ = some (.int .i64 g.line) ∧ w'.cell? ⟨b, o + j * 3 + 1, none⟩ = some (.int .i64 g.col) ∧ w'.cell? ⟨b, o + j * 3 + 2, none⟩ = some (.string g.msg))
            (first
              | exact ⟨hb.drew, hz, hlb, h0, h1, h2, d0, d1, d2⟩
              | (go_split_ands; refine keep6 ?_ ?_ ?_ ?_ ?_ ?_ ?_ ?_ ?_ hb2 <;> assumption))
            ((go_at_call 12; refine (CB1.out _).mono ?_; rintro e w2 ⟨rfl, hb2⟩))
          go_split_ands
          clear CB1
          go_wp2
          go_roundw
          case rel => exact ⟨j + 1 + 1, by omega, by omega, by go_num, by assumption⟩
          case measure => simp [intOf]; omega
        · have R3 := hide (r3.now hb)
          have RN := hide (HN.out wr hb)
          clear r3 CB HN HR
          go_wp2_with fail
          refine (CE.out A3 c3 wr R3.out RN.out).mono ?_
          rintro e w4 ⟨rfl, b4⟩
          go_wp2
          go_ret
          exact ⟨rfl, go_on (go_on b3 hb) b4⟩

end Go.Proofs.Ytdifjpcfmmipoaa
