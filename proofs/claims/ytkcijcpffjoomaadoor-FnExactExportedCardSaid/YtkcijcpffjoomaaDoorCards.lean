/-
  DERIVED. GIVEN WITH THE SEED: THE CARDS: each row of YtkcijcpffjoomaaDoorRows.lean that lists a variable, with what it lists TIED to the program's text (the seventh form; the later family's looks); each row that meets fmt, with fmt's text TOLD by the authors' own Lean function (tested against real Go, not proved from fmt's source: count such statements apart). THE CARD IS WHAT COUNTS. Prove the row's statement (the work); the ties are given (YtkcijcpffjoomaaDoorTie.lean); close each card by the builder's one call (the guide's Derived/Test/ToyasCard.lean, 'card_holds'). Laid BY PROGRAM, IN A SANDBOX (cutbox-door.mjs). By AI agents, Wed Nov 11 2026. No macro, syntax, notation, axiom, sorry.
-/
import Derived.Test.YtkcijcpffjoomaaDoorRows
import GoSem.ClaimSeven
namespace Go.Proofs.YtkcijcpffjoomaaDoor
namespace Rows

/-- THE TIED CARD OF 'laws.FnExactExported'. -/
def fnExactExportedCard : Claim7 := { stood := { row := fnExactExportedRow, standIns := [], harness := (true, "174c1cd646b583b27ad7c4fe012fefe7ca2ad4fc93555d094a6578debca30f48"), looks := false }, kinds := [], alts := [], laidByText := true, laidKinds := [.data, .data, .pinned, .pinned], laidTests := true, laidLooks := .later }
def FnExactExportedCardSaid : Prop := Claim7.holds Tryd.pinned (.plain (OpenSpec.ofChange fnExactExportedSpec)) fnExactExportedCard

/-- THE SECOND FORM's CARD OF 'laws.FnExactExported'. -/
def fnExactExportedUptoCard : Claim7 := { stood := { row := fnExactExportedUptoRow, standIns := [], harness := (true, "174c1cd646b583b27ad7c4fe012fefe7ca2ad4fc93555d094a6578debca30f48"), looks := false }, kinds := [], alts := [], laidByText := true, laidKinds := [.data, .data, .pinned, .pinned], laidTests := true, laidLooks := .later }
def FnExactExportedUptoCardSaid : Prop := Claim7.holds Tryd.pinned (.plain (OpenSpec.upto fnExactExportedSpec)) fnExactExportedUptoCard
end Rows
end Go.Proofs.YtkcijcpffjoomaaDoor
