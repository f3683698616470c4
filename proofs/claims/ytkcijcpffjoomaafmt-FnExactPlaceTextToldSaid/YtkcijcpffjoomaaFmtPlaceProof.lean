/-
  A position is told as its file, its line and its column, as far as it has them: laws.FnExactPlaceText returns true for every file, offset, line and column. Conditions: the three tables that it names read as their text lays them (tied to the program's text); fmt's text is told.
-/
import Derived.Test.YtkcijcpffjoomaaFmtRows
import Derived.Test.YtkcijcpffjoomaaFmtCards
import Derived.Test.YtkcijcpffjoomaaFmtTie
import Derived.Test.YtkcijcpffjoomaaFmtPlaceLaw
import Derived.ProofKit
import Derived.OpenShut
import Derived.ShutString
import Derived.Stop.JoinedAt
import Derived.Stop.Texts
import Derived.Stop.JoinedTold
import Derived.Stop.FmtTextKit
import Derived.SizedLaws
import Derived.Lib.LaidTab
import Derived.Lib.LaidU8
import Derived.Lay
import Derived.SevenToldRow
import Derived.SevenTiedAt
namespace Go.Proofs.YtkcijcpffjoomaaFmt
open Go.ChangeShapes Go.WideShapes Go.ChangeAt Go.RowKit Go.Lib Go.Kit
open Go.ChangeMaps (open_string shut_string)
open Go.Extern.Stop Go.Stop Go.Extern

theorem own : ownKnob Tryf.prog.godebug = none := by kernel_rfl

theorem tabIs_of_reads {P : Program} {W : World} {name : String} {k : IntKind} {zs : List Int} {g : Nat} {t e : TypeId} {n : Nat}
    (hg : P.globalNamed name = some g) (hty : (P.globals[g]?).map (·.type) = some t) (ht : P.underlying t = some (.array n e)) (he : P.underlying e = some (.int k)) (hce : P.cellsOf e = 1) (hct : P.cellsOf t = n)
    (h : VarReads P W name (tabData k zs)) : TabIs P W name k zs := by
  obtain ⟨g', t', cs, fuel, p, hg', ht', hvar, hd⟩ := h
  obtain rfl := Option.some.inj (hg.symm.trans hg')
  obtain rfl := Option.some.inj (hty.symm.trans ht')
  unfold TabIs
  rw [hvar, ← cells_of_tab ht he hce hct hd]

theorem powData : (Rows.laid_internal_strconv_uint64pow10 : DataW Unit) = tabData .u64 pow10Tab := by kernel_rfl

theorem tab_of {W : World} (h : laidMetH Tryf.prog Rows.fnExactPlaceTextRow.laid W) : TabIs Tryf.prog W "internal/strconv.uint64pow10" .u64 pow10Tab := by
  rw [MakeChecks.laidMetH_plain _ _ _ (by kernel_rfl)] at h
  have hP : VarReads Tryf.prog W "internal/strconv.uint64pow10" (tabData .u64 pow10Tab) := powData ▸ Lib.laidMet.reads h (.tail _ (.tail _ (.head _)))
  exact tabIs_of_reads (g := 0) (t := 42) (e := 35) (n := 20) (by kernel_rfl) (by kernel_rfl) Tryf.underlying42 Tryf.underlying35 (by kernel_rfl) (by kernel_rfl) hP

theorem laid_met (os : Os) (args : Array Value) : laidMetH Tryf.prog Rows.fnExactPlaceTextRow.laid ((World.laidAll Tryf.prog os Rows.fnExactPlaceTextRow.laid).forCall (fun _ _ => 0) ⟨#[], args, []⟩).memory := by
  rw [MakeChecks.laidMetH_plain _ _ _ (by kernel_rfl)]
  exact laidMet_laidAll _ (by kernel_rfl) (by kernel_rfl)

theorem witness_row (os : Os) {H : Type} (enc : TypeId × Value → H) :
    (OpenSpec.ofChange Rows.fnExactPlaceTextSpec).preRow enc Tryf.prog Tryf.f3 [] false Rows.fnExactPlaceTextRow.laid
      ((World.laidAll Tryf.prog os Rows.fnExactPlaceTextRow.laid).forCall (fun _ _ => 0) ⟨#[], #[.string ⟨#[]⟩, .int .i64 0, .int .i64 0, .int .i64 0], []⟩).memory #[.string ⟨#[]⟩, .int .i64 0, .int .i64 0, .int .i64 0] := by
  have hw : (DataW.whole enc Tryf.prog ((World.laidAll Tryf.prog os Rows.fnExactPlaceTextRow.laid).forCall (fun _ _ => 0) ⟨#[], #[.string ⟨#[]⟩, .int .i64 0, .int .i64 0, .int .i64 0], []⟩).memory Tryf.f3.params.toList
      (OpenSpec.ofChange Rows.fnExactPlaceTextSpec).vars false #[Value.string ⟨#[]⟩, .int .i64 0, .int .i64 0, .int .i64 0].toList 8).map (fun x => (x.1, x.2.1)) =
      some ([.lit (.string []), .lit (.int .i64 0), .lit (.int .i64 0), .lit (.int .i64 0)], []) := by kernel_rfl
  obtain ⟨⟨x1, x2, x3⟩, hx, hx1⟩ := Option.map_eq_some_iff.1 hw
  simp only [Prod.mk.injEq] at hx1
  obtain ⟨rfl, rfl⟩ := hx1
  exact OpenSpec.preRow_of_cond 8 hx (by kernel_rfl) (fun k hk => by cases hk) (by kernel_rfl) (laid_met os _)

/-- What fmt is told of a column. -/
theorem told_colon (F : Interp) (n : Nat) (hn : n ≤ 1099511627776) : (FmtStop.textOf (F.told "fmt.Sprintf" (colonReading n) 0)).data.toList = 58 :: decDigits n := by
  have hw : (Lit.int .i64 (n : Int)).wf = true := WalkArith.wf_i64 (by omega)
  have e : Lib.itoa (n : Int) = decDigits n := by unfold itoa; rw [if_neg (by omega), Int.toNat_natCast]
  have hl := decDigits_le hn
  have ht := told_string F (colon_text n hw) (by rw [e]; simp; omega)
  rw [textOf_list, ht, e]; rfl

set_option maxRecDepth 100000 in
theorem lifted (os : Os) (started : os.Started) (H : Type) (enc : TypeId × Value → H) :
    ReturnsInTold none {} Tryf.checked os 3 .any Input.okWide ((OpenSpec.ofChange Rows.fnExactPlaceTextSpec).preRow enc Tryf.prog Tryf.f3 [] false Rows.fnExactPlaceTextRow.laid)
      (fun F => ((OpenSpec.ofChange Rows.fnExactPlaceTextSpec).at F).post enc Tryf.prog Tryf.f3 false true false false) (aloneAtReturn Tryf.prog) nothingAlways := by
  refine returnsInTold_of_row (C := Tryf.checked) (s := OpenSpec.ofChange Rows.fnExactPlaceTextSpec) (by kernel_rfl) own started (by kernel_rfl) Tryf.func3
    (OpenSpec.witness_stopped_at (enc := enc) (C := Tryf.checked) false (World.laidAll Tryf.prog os Rows.fnExactPlaceTextRow.laid) #[.string ⟨#[]⟩, .int .i64 0, .int .i64 0, .int .i64 0] (World.laidAll_os _ _ _) (by kernel_rfl) (by kernel_rfl) (by kernel_rfl) (witness_row os enc)) ?_
  intro F W base args ds gs before _ hF hval0 hW _ _ _ hL _
  have hval : ∀ (j : Nat) t v, Tryf.f3.params[j]? = some t → args[j]? = some v → Value.okWide Tryf.prog W .any base t v := hval0
  have hW' := hW
  obtain ⟨p, q, hA0, hV, rfl, _, _⟩ := hW
  have hA : DataW.TrodAll enc Tryf.prog W 0 (fun _ => true) true Tryf.f3.params.toList args.toList ds p := hA0
  rw [Tryf.params3] at hA hval
  obtain ⟨v0, v1, v2, v3, d0, d1, d2, d3, p0, p1, p2, p3, rfl, rfl, rfl, h0, h1, h2, h3⟩ := trodAll_four hA
  obtain ⟨rfl, rfl⟩ := trodVars_none hV
  obtain ⟨file, rfl, rfl, rfl, wf⟩ := open_string Tryf.underlying9 (hval 0 9 v0 rfl rfl) h0
  obtain ⟨x1, rfl, rfl, rfl, w1⟩ := open_int Tryf.underlying3 (hval 1 3 v1 rfl rfl) h1
  obtain ⟨x2, rfl, rfl, rfl, w2⟩ := open_int Tryf.underlying3 (hval 2 3 v2 rfl rfl) h2
  obtain ⟨x3, rfl, rfl, rfl, w3⟩ := open_int Tryf.underlying3 (hval 3 3 v3 rfl rfl) h3
  clear hA0 hval0
  refine (placeLaw_any F.told file x1 x2 x3 W hF (fun n hn => told_colon F n hn) (tab_of hL) wf (bounds_i64 w2) (bounds_i64 w3)).mono fun e W' ⟨he, hb⟩ => ?_
  subst he
  exact ⟨_, rfl, _, _, _, [], [], [], hW', trodAll_mk1 (shut_bool Tryf.underlying4 _), trodAll_mk4 (shut_string Tryf.underlying9 wf) (shut_int Tryf.underlying3 w1) (shut_int Tryf.underlying3 w2) (shut_int Tryf.underlying3 w3), rfl, hb.frame _, fun h => by cases h⟩

theorem stopsAre : Tryf.pinned.checked.prog.stops = ["fmt.Sprintf"] := by kernel_rfl
theorem knobsAre : Tryf.pinned.checked.prog.stopKnobs = [] := by kernel_rfl
theorem laidOutP : laidOutB Tryf.pinned.checked.prog = true := by kernel_rfl
theorem quietAll (os : Os) : Stop.quiet Tryf.pinned.checked.prog os := by
  intro k hk
  rw [knobsAre] at hk
  cases hk

theorem placeText_holds : Rows.FnExactPlaceTextToldSaid :=
  Claim7.holds_of_told_tied_any_at .later 3 Tryf.f3 "fmt.Sprintf" [] [] _ _ _ _ _ (by kernel_rfl) rfl rfl rfl laidOutP (by kernel_rfl) rfl ⟨rfl, rfl, rfl, rfl, rfl, rfl, rfl⟩ rfl rfl (by kernel_rfl) (by kernel_rfl) Tryf.func3 (by kernel_rfl)
    (of_decide_eq_true (by kernel_rfl)) (of_decide_eq_true (by kernel_rfl)) stopsAre.symm rfl knobsAre.symm (by kernel_rfl)
    (by kernel_rfl) (by kernel_rfl) (by kernel_rfl) (by kernel_rfl) (by kernel_rfl) (by kernel_rfl) (by kernel_rfl) (by kernel_rfl) (by kernel_rfl) rfl (by kernel_rfl) rfl rfl
    rfl rfl
    rfl (by kernel_rfl) (by kernel_rfl) (by kernel_rfl) (by decide) (by kernel_rfl) fnExactPlaceText_row_tie
    (OpenClaim.moreEntering_of (by kernel_rfl) (by kernel_rfl) (by kernel_rfl) (by kernel_rfl) (by kernel_rfl) (by kernel_rfl) (by kernel_rfl) (by kernel_rfl) (by kernel_rfl) (by kernel_rfl))
    ⟨_, WideRow.started_initial, quietAll _⟩
    (fun os started _ H enc _ => lifted os started H enc)

#print axioms placeText_holds
end Go.Proofs.YtkcijcpffjoomaaFmt
