/-
  DERIVED. GIVEN WITH THE SEED: THE CARDS: each row of YtkcijcpffjoomaaFmtRows.lean that lists a variable, with what it lists TIED to the program's text (the seventh form; the later family's looks); each row that meets fmt, with fmt's text TOLD by the authors' own Lean function (tested against real Go, not proved from fmt's source: count such statements apart). THE CARD IS WHAT COUNTS. Prove the row's statement (the work); the ties are given (YtkcijcpffjoomaaFmtTie.lean); close each card by the builder's one call (the guide's Derived/Test/ToyasCard.lean, 'card_holds'). Laid BY PROGRAM, IN A SANDBOX (cutbox-door.mjs). By AI agents, Wed Nov 11 2026. No macro, syntax, notation, axiom, sorry.
-/
import Derived.Test.YtkcijcpffjoomaaFmtRows
import GoSem.ClaimSeven
namespace Go.Proofs.YtkcijcpffjoomaaFmt
namespace Rows

/-- THE TOLD AND TIED CARD OF 'laws.FnExactPlaceText'. -/
def fnExactPlaceTextCard : Claim7 := { stood := { row := fnExactPlaceTextRow, standIns := [], harness := (true, "74db34ad0caf8a10b1682bfac41168e6c959f11f7208e73525ee43c616d8f368"), looks := false }, told := true, laidByText := true, laidKinds := [.data, .data, .data], laidTests := true, laidLooks := .later, goes := false }
def FnExactPlaceTextToldSaid : Prop := Claim7.holds Tryf.pinned (.plain (OpenSpec.ofChange fnExactPlaceTextSpec)) fnExactPlaceTextCard
/-- ITS FALSE NEIGHBOUR. Refute it at one input. -/
def FnExactPlaceTextToldWrongFalsely : Prop := Claim7.holds Tryf.pinned (.plain (OpenSpec.ofChange fnExactPlaceTextWrong)) fnExactPlaceTextCard
end Rows
end Go.Proofs.YtkcijcpffjoomaaFmt
