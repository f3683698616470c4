/-
  A name is exported if it begins with an upper-case letter: laws.FnExactExported returns true for every word. Condition: the four tables of Go's library that it names read as their text lays them (tied to the program's text).
-/
import Derived.Test.YtkcijcpffjoomaaDoorRows
import Derived.Test.YtkcijcpffjoomaaDoorCards
import Derived.Test.YtkcijcpffjoomaaDoorTie
import Derived.Test.YtkcijcpffjoomaaDoorExported
import Derived.ProofKit
import Derived.OpenShut
import Derived.ShutString
import Derived.PinnedBridge
import Derived.Lay
import Derived.LaidMore
import Derived.SevenTiedAt
import Derived.Stop.Joined
namespace Go.Proofs.YtkcijcpffjoomaaDoor
open Go.ChangeShapes Go.WideShapes Go.ChangeAt Go.RowKit Go.Shelf Go.Lib
open Go.ChangeMaps (open_string shut_string)

theorem tabIs_of_reads {P : Program} {W : World} {name : String} {k : IntKind} {zs : List Int} {g : Nat} {t e : TypeId} {n : Nat}
    (hg : P.globalNamed name = some g) (hty : (P.globals[g]?).map (·.type) = some t) (ht : P.underlying t = some (.array n e)) (he : P.underlying e = some (.int k)) (hce : P.cellsOf e = 1) (hct : P.cellsOf t = n)
    (h : VarReads P W name (tabData k zs)) : TabIs P W name k zs := by
  obtain ⟨g', t', cs, fuel, p, hg', ht', hvar, hd⟩ := h
  obtain rfl := Option.some.inj (hg.symm.trans hg')
  obtain rfl := Option.some.inj (hty.symm.trans ht')
  unfold TabIs
  rw [hvar, ← cells_of_tab ht he hce hct hd]

theorem propsData : (Rows.laid_unicode_properties : DataW Unit) = tabData .u8 propertiesTab := by kernel_rfl
theorem accData : (Rows.laid_unicode_utf8_acceptRanges : DataW Unit) = acceptData := by kernel_rfl
theorem xR : RExtra Tryd.prog Tryd.lays201_ren := ⟨by kernel_rfl, by kernel_rfl, by kernel_rfl, by kernel_rfl, by kernel_rfl, by kernel_rfl, by kernel_rfl, by kernel_rfl⟩
theorem xU : U8Extra Tryd.prog Tryd.lays197_ren := ⟨by kernel_rfl, by kernel_rfl, by kernel_rfl, by kernel_rfl, by kernel_rfl, by kernel_rfl, by kernel_rfl⟩

theorem tabs_of {W : World} (h : laidMetH Tryd.prog Rows.fnExactExportedRow.laid W) : Tabs W := by
  rw [MakeChecks.laidMetH_plain _ _ _ (by kernel_rfl)] at h
  have hA : VarReads Tryd.prog W "unicode/utf8.acceptRanges" acceptData := accData ▸ Lib.laidMet.reads h (.head _)
  have hP : VarReads Tryd.prog W "unicode.properties" (tabData .u8 propertiesTab) := propsData ▸ Lib.laidMet.reads h (.tail _ (.head _))
  have hU : VarReads Tryd.prog W "unicode.Upper" (rtabData upperT) := Pinned.upper_eq ▸ Lib.laidMet.reads h (.tail _ (.tail _ (.head _)))
  have hF : VarReads Tryd.prog W "unicode/utf8.first" firstData := Pinned.utf8First_eq ▸ Lib.laidMet.reads h (.tail _ (.tail _ (.tail _ (.head _))))
  exact ⟨tabIs_of_reads (g := 2) (t := 27) (e := 5) (n := 256) (by kernel_rfl) (by kernel_rfl) Tryd.underlying27 Tryd.underlying5 (by kernel_rfl) (by kernel_rfl) hP,
    rvar_of_reads { Tryd.lays201 with } xR (by kernel_rfl) (by kernel_rfl) hU, utf8Tabs_of_reads { Tryd.lays197 with } xU hF hA⟩

theorem own : ownKnob Tryd.prog.godebug = none := by kernel_rfl

set_option maxRecDepth 100000 in
theorem lifted (os : Os) (started : os.Started) (H : Type) (enc : TypeId × Value → H) :
    ReturnsInHanded {} Tryd.checked os 3 .any (fun w args => (Rows.fnExactExportedSpec.pre enc Tryd.prog Tryd.f3 [] false w args ∧ laidMetH Tryd.prog Rows.fnExactExportedRow.laid w) ∧ sizedMet enc Tryd.prog Tryd.f3 (OpenSpec.ofChange Rows.fnExactExportedSpec) false w args)
      (Rows.fnExactExportedSpec.post enc Tryd.prog Tryd.f3 false true false false) := by
  refine returnsInHanded_of_change_and (C := Tryd.checked) (X := fun w _ => laidMetH Tryd.prog Rows.fnExactExportedRow.laid w) (fun _ _ _ hh h => h.of_heap hh) own started (by kernel_rfl) Tryd.func3
    (ChangeSpec.witness_shaped (enc := enc) (C := Tryd.checked) (os := os) (X := fun w _ => laidMetH Tryd.prog Rows.fnExactExportedRow.laid w) false (World.laidAll Tryd.prog os Rows.fnExactExportedRow.laid) #[.string ⟨#[]⟩] 8 (World.laidAll_os _ _ _)
      (World.shaped_of_ZipB (by kernel_rfl) (by kernel_rfl)) (by kernel_rfl) (by kernel_rfl) (by kernel_rfl)
      (by rw [MakeChecks.laidMetH_plain _ _ _ (by kernel_rfl)]; exact laidMet_laidAll _ (by kernel_rfl) (by kernel_rfl))) ?_
  intro W base args ds gs before hval0 hW _ _ hL _
  have hval : ∀ (j : Nat) t v, Tryd.f3.params[j]? = some t → args[j]? = some v → Value.okWide Tryd.prog W .any base t v := hval0
  have hW' := hW
  obtain ⟨p, q, hA0, hV, rfl, _, _⟩ := hW
  have hA : DataW.TrodAll enc Tryd.prog W 0 (fun _ => true) true Tryd.f3.params.toList args.toList ds p := hA0
  rw [Tryd.params3] at hA hval
  obtain ⟨v0, d0, rfl, rfl, h0⟩ := trodAll_one hA
  obtain ⟨rfl, rfl⟩ := trodVars_none hV
  obtain ⟨s, rfl, rfl, rfl, ws⟩ := open_string Tryd.underlying9 (hval 0 9 v0 rfl rfl) h0
  simp only [List.append_nil] at hW'
  refine (law_any s W ws (tabs_of hL)).mono fun e W' ⟨he, hb⟩ => ?_
  subst he
  exact ⟨_, rfl, _, _, _, [], [], [], hW', trodAll_mk1 (shut_bool Tryd.underlying4 _), trodAll_mk1 (shut_string Tryd.underlying9 ws), rfl, hb.frame _, fun h => by cases h⟩

theorem exported_row : Rows.FnExactExportedSaid :=
  OpenClaim.holds_of_wide 3 Tryd.f3 rfl rfl rfl rfl rfl rfl rfl ⟨rfl, rfl, rfl, rfl, rfl⟩ rfl rfl rfl rfl rfl (by kernel_rfl) Tryd.func3 (by kernel_rfl)
    (of_decide_eq_true (by kernel_rfl)) (by unfold Func.isWrapper; first | (rw [if_pos (by decide +kernel)]; kernel_rfl) | (rw [if_neg (by decide +kernel)]; exact ⟨rfl, rfl⟩))
    (fun os started H enc _ => lifted os started H enc)

theorem exported_holds : Rows.FnExactExportedCardSaid :=
  Claim7.holds_tied_plain_at .later [] [.data, .data, .pinned, .pinned] true Rows.fnExactExportedCard.stood.harness false exported_row (fun _ h => by cases h) (by kernel_rfl) (fun _ h => by cases h) fnExactExported_row_tie rfl ⟨rfl, rfl⟩ (by kernel_rfl) rfl
    (fun f fn hf hfn => by
      obtain rfl : f = 3 := Option.some.inj ((show Tryd.prog.funcNamed "loop.example/pub-gotokens/laws.FnExactExported" = some 3 by kernel_rfl).symm.trans hf) |>.symm
      obtain rfl : fn = Tryd.f3 := (Option.some.inj (Tryd.func3.symm.trans hfn)).symm
      exact ⟨by kernel_rfl, fun j t ht => by
        rw [Tryd.params3] at ht
        have hm : t ∈ [9] := by simpa using Array.mem_of_getElem? ht
        have hall : ([9].all fun u => !Tryd.prog.wantsStandIn u) = true := by kernel_rfl
        exact (show Tryd.prog.wantsStandIn t = false by simpa using List.all_eq_true.1 hall t hm)⟩)
    (by kernel_rfl)
#print axioms exported_holds
end Go.Proofs.YtkcijcpffjoomaaDoor
