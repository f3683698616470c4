/-
  The walk of laws.FnExactSingle: of the errors of a line the first one is left.
-/
import Derived.Test.YtdifjpcfmmipoaaSingle
import Derived.Test.YtdifjpcfmmipoaaHas
import Derived.Test.YtdifjpcfmmipoaaExactLaw
import Derived.Deep.QuietTactic
namespace Go.Proofs.Ytdifjpcfmmipoaa
open Go.RowKit
attribute [local go_sem ↓] Go.wp_at_zero Go.wp_at_succ

theorem up_at {fs : List Fau} {j : Nat} {f g : Fau} (h : fs.Pairwise fun x y => x.line < y.line) (hg : fs[j]? = some g) (hf : fs[j + 1]? = some f) : g.line < f.line := by
  obtain ⟨h1, rfl⟩ := List.getElem?_eq_some_iff.1 hg
  obtain ⟨h2, rfl⟩ := List.getElem?_eq_some_iff.1 hf
  exact List.pairwise_iff_getElem.1 h j (j + 1) h1 h2 (by omega)

/-- What the law's loops lean on: the row of the list, the row of what is left, and the plain facts. -/
structure SFacts (w3 : World) (A A3 : Option Addr) (n m : Nat) (fs gs : List Fau) : Prop where
  row : FRow w3 w3.heap.size A n fs
  out : FRow w3 w3.heap.size A3 m gs
  up : gs.Pairwise fun x y => x.line < y.line
  mem : ∀ g ∈ gs, g ∈ fs
  line : ∀ f ∈ fs, ∃ g ∈ gs, g.line = f.line
  first : ∀ g ∈ gs, ∀ f ∈ fs, f.line = g.line → g.col ≤ f.col

/-- A world of a class. -/
structure GoodW (Good : World → Prop) where
  val : World
  ok : Good val

/-- A region that draws its order and leaves the world in a class: walked once, in the order of the text. -/
theorem region_in {P : Program} {Good : World → Prop} {id : Nat} {Q : Exit → Act → World → Prop} {a : Act} {w : World} {l : List Oper} (hm : P.follows .mixedOrders = true) (hB : Region.lexB .any l.toArray = true) (hC : Good w.drew)
    (h : wpQuiet P l.toArray (fun w' => ∃ u : GoodW Good, w' = u.val) (fun a' => ∀ w', (∃ u : GoodW Good, w' = u.val) → Q .normal a' w') l a) : (Code.region id l.toArray true).wp P Q a w :=
  wp_region_quiet (C := fun w' => ∃ u : GoodW Good, w' = u.val) hm hB ⟨⟨_, hC⟩, rfl⟩ (by simpa using h)

theorem below_drewN {B : Nat} {w w' : World} (h : Below B w w') (k : Nat) : Below B w (w'.drewN k) := ⟨h.os, h.tape, h.output, h.size, h.block⟩

set_option maxRecDepth 100000 in
set_option maxHeartbeats 3200000 in
theorem exactSingle_any (A : Option Addr) (n c : Nat) (fs : List Fau) (w : World) (hr : FRow w w.heap.size A n fs) (hm : ∀ f ∈ fs, f.msg.size ≤ maxLen) (hmax : n ≤ maxLen) :
    Calls Try.prog 5 #[.slice A n c] w fun e w' => e = .returned (.bool true) ∧ Below w.heap.size w w' := by
  have CF := hide (fits1_any A n c fs w hr hm hmax)
  cases hv : fits fs with
  | false =>
    rw [hv] at CF
    clear hr hm hmax hv
    go_enter Try.func5, Try.ntmps5
    go_wp2_with (go_at_call 9; refine CF.out.mono ?_; rintro e w1 ⟨rfl, q⟩)
    go_ret
    exact ⟨rfl, q⟩
  | true =>
    rw [hv] at CF
    have hn := fits_len hv hr.1
    have CP := hide fun (w1 : World) (hb : Below w.heap.size w w1) => placed_any A n c fs w1 (hr.now hb) hn
    clear hm hmax hv
    cases hp : fs.all place1 with
    | false =>
      rw [hp] at CP
      clear hr hp
      go_enter Try.func5, Try.ntmps5
      go_wp2_with fail
      refine CF.out.mono ?_
      rintro e w1 ⟨rfl, b1⟩
      go_wp2_with fail
      refine (CP.out w1 b1).mono ?_
      rintro e w2 ⟨rfl, b2⟩
      go_wp2
      go_ret
      exact ⟨rfl, go_on b1 b2⟩
    | true =>
      rw [hp] at CP
      have hP := placed_of hp
      have CS := hide fun (w1 : World) (h : FRow w1 w1.heap.size A n fs) => single_any A n c fs w1 h hn
      have HR := hide fun (w1 : World) (hb : Below w.heap.size w w1) => hr.now hb
      have hlen := sgl_length fs
      have hrl := hr.1
      rw [hrl] at hlen
      obtain ⟨gs, hgs⟩ : ∃ gs, gs = sgl fs := ⟨_, rfl⟩
      have HX := hide fun (w3 : World) (A3 : Option Addr) (m : Nat) (h1 : FRow w3 w3.heap.size A n fs) (h2 : FRow w3 w3.heap.size A3 m gs) => show SFacts w3 A A3 n m fs gs from
        ⟨h1, h2, by rw [hgs]; exact sgl_up hP, by rw [hgs]; exact fun g hg => sgl_mem hg, by rw [hgs]; exact fun f hf => sgl_line hP f hf, by rw [hgs]; exact fun g hg f hf he => sgl_first hP hg hf he⟩
      rw [← hgs] at CS hlen
      obtain ⟨m, hm⟩ : ∃ m, m = gs.length := ⟨_, rfl⟩
      rw [← hm] at CS hlen
      clear hp hr hP hm hgs hrl
      go_enter Try.func5, Try.ntmps5
      go_wp2_with fail
      refine CF.out.mono ?_
      rintro e w1 ⟨rfl, b1⟩
      go_wp2_with fail
      refine (CP.out w1 b1).mono ?_
      rintro e w2 ⟨rfl, b2⟩
      have b2 := go_on b1 b2
      go_wp2_with fail
      refine (CS.out w2 (HR.out w2 b2)).mono ?_
      rintro e w3 ⟨A3, c3, rfl, r3, b3⟩
      have b3 := hide (go_on b2 b3)
      have SF := hide (HX.out w3 A3 m (HR.out w3 b3.out) r3)
      clear r3 b1 b2 CF CP CS HR HX
      have CH := hide fun (w1 : World) (hb : Below w3.heap.size w3 w1) (g : Fau) (hg : g ∈ gs) => hasFault_any A n c fs g w1 (SF.out.row.now hb) (SF.out.mem g hg) hn
      have CL := hide fun (w1 : World) (hb : Below w3.heap.size w3 w1) (f : Fau) (hf : f ∈ fs) => hasLine_any A3 m c3 gs f.line w1 (SF.out.out.now hb) (SF.out.line f hf) (by omega)
      go_wp2
      go_loopw [19] (fun v wr => ∃ k : Nat, k ≤ m ∧ v = .int .i64 k ∧ Below w3.heap.size w3 wr) (fun v _ => m - (intOf v).toNat)
      case atStart => exact ⟨0, Nat.zero_le _, rfl, Below.refl _ _⟩
      case round =>
        obtain ⟨k, hk, rfl, hb⟩ := hrel
        by_cases hlt : k < m
        · have hltz : (k : Int) < (m : Int) := by omega
          obtain ⟨b, o, g, hA3, hB, hg, hat⟩ := SF.out.out.at_ hlt
          have h0 : wr.cell? ⟨b, o + k * 3, none⟩ = some (.int .i64 g.line) := (hb.cell (p := ⟨b, _, none⟩) hB).trans hat.line
          have h1 : wr.cell? ⟨b, o + k * 3 + 1, none⟩ = some (.int .i64 g.col) := (hb.cell (p := ⟨b, _, none⟩) hB).trans hat.col
          have h2 : wr.cell? ⟨b, o + k * 3 + 2, none⟩ = some (.string g.msg) := (hb.cell (p := ⟨b, _, none⟩) hB).trans hat.msg
          have HG := hide hg
          have hmem : Hid (g ∈ gs) := List.mem_of_getElem? hg
          have hz := hb.size
          have hlb : b < wr.heap.size := by omega
          have K1 : Hid (∀ u : GoodW fun w' => Below w3.heap.size w3 w', Calls Try.prog 17 #[.slice A n c, .agg #[.int .i64 g.line, .int .i64 g.col, .string g.msg]] u.val fun e w'' => e = .returned (.bool true) ∧ ∃ u' : GoodW fun w' => Below w3.heap.size w3 w', w'' = u'.val) := fun u =>
            (CH.out u.val u.ok g hmem.out).mono fun e w'' ⟨he, hb2⟩ => ⟨he, ⟨w'', go_on u.ok hb2⟩, rfl⟩
          have c0 : ∀ u : GoodW fun w' => Below w3.heap.size w3 w', u.val.cell? ⟨b, o + k * 3, none⟩ = some (.int .i64 g.line) := fun u => (u.ok.cell (p := ⟨b, _, none⟩) hB).trans hat.line
          have c1 : ∀ u : GoodW fun w' => Below w3.heap.size w3 w', u.val.cell? ⟨b, o + k * 3 + 1, none⟩ = some (.int .i64 g.col) := fun u => (u.ok.cell (p := ⟨b, _, none⟩) hB).trans hat.col
          have c2 : ∀ u : GoodW fun w' => Below w3.heap.size w3 w', u.val.cell? ⟨b, o + k * 3 + 2, none⟩ = some (.string g.msg) := fun u => (u.ok.cell (p := ⟨b, _, none⟩) hB).trans hat.msg
          have hne : Nonempty (GoodW fun w' => Below w3.heap.size w3 w') := ⟨⟨wr, hb⟩⟩
          subst hA3
          rcases Nat.eq_zero_or_pos k with hk0 | hk0
          · subst hk0
            simp only [Nat.zero_mul, Nat.add_zero] at c0 c1 c2
            have hm0 : (0 : Int) < (m : Int) := by omega
            clear hat hg h0 h1 h2 hltz
            rw [show ((0 : Nat) : Int) = 0 from rfl]
            go_wp2
            refine region_in (Good := fun w' => Below w3.heap.size w3 w') (by kernel_rfl) (by kernel_rfl) hb.drew ?_
            repeat (go_big_quiet_step ((go_at_call 17; exact K1.out _)))
            refine wpQuiet_nil ?_
            rintro _ ⟨u, rfl⟩
            obtain ⟨wu, hbu⟩ := u
            show Exit.then _ _ _ _ wu
            clear K1 hne hb
            go_wp2
            go_loopw [49] (fun v wr => ∃ x : Nat, x ≤ n ∧ v = .int .i64 x ∧ Below w3.heap.size w3 wr) (fun v _ => n - (intOf v).toNat)
            case atStart => exact ⟨0, Nat.zero_le _, rfl, hbu⟩
            case round =>
              obtain ⟨x, hx, rfl, hb2⟩ := hrel
              by_cases hxn : x < n
              · have hxz : (x : Int) < (n : Int) := by omega
                obtain ⟨b', o', f, hA, hB', hf, hat'⟩ := SF.out.row.at_ hxn
                have hfm : f ∈ fs := List.mem_of_getElem? hf
                have hfst := SF.out.first g hmem.out f hfm
                have f0 : wr.cell? ⟨b', o' + x * 3, none⟩ = some (.int .i64 f.line) := (hb2.cell (p := ⟨b', _, none⟩) hB').trans hat'.line
                have f1 : wr.cell? ⟨b', o' + x * 3 + 1, none⟩ = some (.int .i64 f.col) := (hb2.cell (p := ⟨b', _, none⟩) hB').trans hat'.col
                have f2 : wr.cell? ⟨b', o' + x * 3 + 2, none⟩ = some (.string f.msg) := (hb2.cell (p := ⟨b', _, none⟩) hB').trans hat'.msg
                have hbx : Below w3.heap.size w3 (wr.alloc (.cells #[.int .i64 f.line, .int .i64 f.col, .string f.msg] 27)) := hb2.alloc hb2.size _
                have k0 : (wr.alloc (.cells #[.int .i64 f.line, .int .i64 f.col, .string f.msg] 27)).cell? ⟨b, o, none⟩ = some (.int .i64 g.line) := c0 ⟨_, hbx⟩
                have k1 : (wr.alloc (.cells #[.int .i64 f.line, .int .i64 f.col, .string f.msg] 27)).cell? ⟨b, o + 1, none⟩ = some (.int .i64 g.col) := c1 ⟨_, hbx⟩
                have p0 : (wr.alloc (.cells #[.int .i64 f.line, .int .i64 f.col, .string f.msg] 27)).cell? ⟨wr.heap.size, 0, none⟩ = some (.int .i64 f.line) := by simp
                have p1 : (wr.alloc (.cells #[.int .i64 f.line, .int .i64 f.col, .string f.msg] 27)).cell? ⟨wr.heap.size, 1, none⟩ = some (.int .i64 f.col) := by simp
                subst hA
                have C0 := hide c0
                have C1 := hide c1
                clear hf hat' hfm c0 c1 c2 hb2
                by_cases hl : f.line = g.line
                · have e1 : (f.line == g.line) = true := beq_iff_eq.2 hl
                  have e2 : decide (f.col < g.col) = false := decide_eq_false (by have := hfst hl; omega)
                  clear hl hfst
                  go_wp2
                  generalize wr.alloc (.cells #[.int .i64 f.line, .int .i64 f.col, .string f.msg] 27) = W at *
                  generalize wr.heap.size = q at *
                  go_quiet (fail)
                  go_wp2
                  go_roundw
                  case rel => exact ⟨x + 1, by omega, by go_num, below_drewN hbx _⟩
                  case measure => simp [intOf]; omega
                · have e1 : (f.line == g.line) = false := beq_eq_false_iff_ne.2 hl
                  clear hl hfst
                  go_wp2
                  generalize wr.alloc (.cells #[.int .i64 f.line, .int .i64 f.col, .string f.msg] 27) = W at *
                  generalize wr.heap.size = q at *
                  go_quiet (fail)
                  go_wp2
                  go_roundw
                  case rel => exact ⟨x + 1, by omega, by go_num, below_drewN hbx _⟩
                  case measure => simp [intOf]; omega
              · obtain rfl : x = n := by omega
                clear c0 c1 c2
                go_wp2
                go_roundw
                case rel => exact ⟨1, by omega, by go_num, hb2⟩
                case measure => simp [intOf]; omega
          · obtain ⟨j, rfl⟩ : ∃ j, k = j + 1 := ⟨k - 1, by omega⟩
            obtain ⟨b2, o2, g2, hA2, hB2, hg2, hat2⟩ := SF.out.out.at_ (k := j) (by omega)
            cases hA2
            have d0 : ∀ u : GoodW fun w' => Below w3.heap.size w3 w', u.val.cell? ⟨b, o + j * 3, none⟩ = some (.int .i64 g2.line) := fun u => (u.ok.cell (p := ⟨b, _, none⟩) hB).trans hat2.line
            have hup := up_at SF.out.up hg2 hg
            have q0 : (0 : Int) ≤ (j : Int) + 1 := by omega
            have q1 : (j : Int) + 1 < (m : Int) := by omega
            have q2 : IntKind.i64.wrap ((j : Int) + 1 - 1) = (j : Int) := by rw [IntKind.wrap_i64]; omega
            have q9 : IntKind.i64.wrap (j : Int) = (j : Int) := by rw [IntKind.wrap_i64]; omega
            have q3 : (0 : Int) ≤ (j : Int) := by omega
            have q4 : (j : Int) < (m : Int) := by omega
            have q5 : ((j : Int) + 1).toNat = j + 1 := by omega
            have q6 : (0 : Int) < (j : Int) + 1 := by omega
            have q7 : decide (g.line ≤ g2.line) = false := decide_eq_false (by omega)
            have hj : ((j + 1 : Nat) : Int) = (j : Int) + 1 := by push_cast; rfl
            clear hat hg h0 h1 h2 hltz hat2 hg2 hup
            rw [hj]
            clear hj
            go_wp2
            refine region_in (Good := fun w' => Below w3.heap.size w3 w') (by kernel_rfl) (by kernel_rfl) hb.drew ?_
            repeat (go_big_quiet_step ((go_at_call 17; exact K1.out _)))
            refine wpQuiet_nil ?_
            rintro _ ⟨u, rfl⟩
            obtain ⟨wu, hbu⟩ := u
            show Exit.then _ _ _ _ wu
            clear K1 hne hb
            go_wp2
            go_loopw [49] (fun v wr => ∃ x : Nat, x ≤ n ∧ v = .int .i64 x ∧ Below w3.heap.size w3 wr) (fun v _ => n - (intOf v).toNat)
            case atStart => exact ⟨0, Nat.zero_le _, rfl, hbu⟩
            case round =>
              obtain ⟨x, hx, rfl, hb2⟩ := hrel
              by_cases hxn : x < n
              · have hxz : (x : Int) < (n : Int) := by omega
                obtain ⟨b', o', f, hA, hB', hf, hat'⟩ := SF.out.row.at_ hxn
                have hfm : f ∈ fs := List.mem_of_getElem? hf
                have hfst := SF.out.first g hmem.out f hfm
                have f0 : wr.cell? ⟨b', o' + x * 3, none⟩ = some (.int .i64 f.line) := (hb2.cell (p := ⟨b', _, none⟩) hB').trans hat'.line
                have f1 : wr.cell? ⟨b', o' + x * 3 + 1, none⟩ = some (.int .i64 f.col) := (hb2.cell (p := ⟨b', _, none⟩) hB').trans hat'.col
                have f2 : wr.cell? ⟨b', o' + x * 3 + 2, none⟩ = some (.string f.msg) := (hb2.cell (p := ⟨b', _, none⟩) hB').trans hat'.msg
                have hbx : Below w3.heap.size w3 (wr.alloc (.cells #[.int .i64 f.line, .int .i64 f.col, .string f.msg] 27)) := hb2.alloc hb2.size _
                have k0 : (wr.alloc (.cells #[.int .i64 f.line, .int .i64 f.col, .string f.msg] 27)).cell? ⟨b, o + (j + 1) * 3, none⟩ = some (.int .i64 g.line) := c0 ⟨_, hbx⟩
                have k1 : (wr.alloc (.cells #[.int .i64 f.line, .int .i64 f.col, .string f.msg] 27)).cell? ⟨b, o + (j + 1) * 3 + 1, none⟩ = some (.int .i64 g.col) := c1 ⟨_, hbx⟩
                have p0 : (wr.alloc (.cells #[.int .i64 f.line, .int .i64 f.col, .string f.msg] 27)).cell? ⟨wr.heap.size, 0, none⟩ = some (.int .i64 f.line) := by simp
                have p1 : (wr.alloc (.cells #[.int .i64 f.line, .int .i64 f.col, .string f.msg] 27)).cell? ⟨wr.heap.size, 1, none⟩ = some (.int .i64 f.col) := by simp
                subst hA
                have C0 := hide c0
                have C1 := hide c1
                clear hf hat' hfm c0 c1 c2 hb2
                by_cases hl : f.line = g.line
                · have e1 : (f.line == g.line) = true := beq_iff_eq.2 hl
                  have e2 : decide (f.col < g.col) = false := decide_eq_false (by have := hfst hl; omega)
                  clear hl hfst
                  go_wp2
                  generalize wr.alloc (.cells #[.int .i64 f.line, .int .i64 f.col, .string f.msg] 27) = W at *
                  generalize wr.heap.size = q at *
                  go_quiet (fail)
                  go_wp2
                  go_roundw
                  case rel => exact ⟨x + 1, by omega, by go_num, below_drewN hbx _⟩
                  case measure => simp [intOf]; omega
                · have e1 : (f.line == g.line) = false := beq_eq_false_iff_ne.2 hl
                  clear hl hfst
                  go_wp2
                  generalize wr.alloc (.cells #[.int .i64 f.line, .int .i64 f.col, .string f.msg] 27) = W at *
                  generalize wr.heap.size = q at *
                  go_quiet (fail)
                  go_wp2
                  go_roundw
                  case rel => exact ⟨x + 1, by omega, by go_num, below_drewN hbx _⟩
                  case measure => simp [intOf]; omega
              · obtain rfl : x = n := by omega
                clear c0 c1 c2
                go_wp2
                go_roundw
                case rel => exact ⟨j + 1 + 1, by omega, by go_num, hb2⟩
                case measure => simp [intOf]; omega
        · obtain rfl : k = m := by omega
          clear CH
          go_wp2
          go_loopw [75] (fun v wr => ∃ x : Nat, x ≤ n ∧ v = .int .i64 x ∧ Below w3.heap.size w3 wr) (fun v _ => n - (intOf v).toNat)
          case atStart => exact ⟨0, Nat.zero_le _, rfl, hb⟩
          case round =>
            obtain ⟨x, hx, rfl, hb2⟩ := hrel
            by_cases hxn : x < n
            · have hxz : (x : Int) < (n : Int) := by omega
              obtain ⟨b', o', f, hA, hB', hf, hat'⟩ := SF.out.row.at_ hxn
              have hfm : f ∈ fs := List.mem_of_getElem? hf
              have f0 : wr.cell? ⟨b', o' + x * 3, none⟩ = some (.int .i64 f.line) := (hb2.cell (p := ⟨b', _, none⟩) hB').trans hat'.line
              have f1 : wr.cell? ⟨b', o' + x * 3 + 1, none⟩ = some (.int .i64 f.col) := (hb2.cell (p := ⟨b', _, none⟩) hB').trans hat'.col
              have f2 : wr.cell? ⟨b', o' + x * 3 + 2, none⟩ = some (.string f.msg) := (hb2.cell (p := ⟨b', _, none⟩) hB').trans hat'.msg
              have HB := hide (hb2.alloc hb2.size (.cells #[.int .i64 f.line, .int .i64 f.col, .string f.msg] 27))
              have cl := CL.out _ HB.out f hfm
              subst hA
              clear hf hat' hfm hb2
              go_wp2_with fail
              refine cl.mono ?_
              rintro e w5 ⟨rfl, b5⟩
              go_wp2
              go_roundw
              case rel => exact ⟨x + 1, by omega, by go_num, go_on HB.out b5⟩
              case measure => simp [intOf]; omega
            · obtain rfl : x = n := by omega
              go_wp2
              go_ret
              exact ⟨rfl, go_on b3.out hb2⟩

end Go.Proofs.Ytdifjpcfmmipoaa
