/-
  No cell of these rows narrows 'for every input' (looked for: loops, veiled, ifaces, maps, wideKeys, modest, calm, conditions, laid).
  DERIVED. THE GIVEN ROWS OF THIS SEAT. 6 by the template 'for every input the law returns true; each argument reads behind the call as it read before'; 0 by the template 'total and deterministic' (their statements: YtdifjpcfmmipoaaTotals.lean).
  GIVEN WITH THE SEED: the statements are not yours to turn. If you find one false, say at which input.
  Laid BY PROGRAM, IN A SANDBOX (cutbox-rows.mjs): the forced cells as the released guide's own fill.sh prints them over the translation 7156b25e5dce209e… (all of the seat's roots in one cut). By AI agents, Wed Nov 11 2026. No macro, syntax, notation, axiom, sorry.
-/
import Derived.Test.YtdifjpcfmmipoaaChecked
import GoSem.Claim
import GoSem.ClaimJoined
import GoSem.ClaimMapViews
import Derived.JoinedTies
import Derived.KernelRfl
namespace Go.Proofs.Ytdifjpcfmmipoaa
/- THE CELL 'sum', in the pinned program and in every row, IS THE sha256 OF THE DUMP (.gsa) THAT YtdifjpcfmmipoaaProg.lean LOADS. Nothing in Lean hashes anything: it is a label: what it is worth is what the hold of that sum in a sandbox is worth. -/
noncomputable def Try.pinned : Pinned := { name := "ytdifjpcfmmipoaa", sum := "7156b25e5dce209e7663ca09e852fc23bbfa4a436f441707c98f9e67d6c51935", checked := Try.checked }
namespace Rows
def none {H : Type} : Left H := { results := [], args := [] }

/-- 'laws.FnExactSorted': WHATEVER THE INPUT: true; the input reads as it did. -/
def fnExactSortedSpec : ChangeSpec := { name := "fnExactSorted", fn := fun _ => fun
  | [d] => { results := [.lit (.bool true)], args := [d] }
  | _ => none }
def fnExactSortedRow : OpenClaim := { program := "ytdifjpcfmmipoaa", sum := "7156b25e5dce209e7663ca09e852fc23bbfa4a436f441707c98f9e67d6c51935", func := "loop.example/pub-gotokens/laws.FnExactSorted", spec := "fnExactSorted", unfollowed := true, recurses := true, apart := false }
def FnExactSortedSaid : Prop := fnExactSortedRow.holds Try.pinned (OpenSpec.ofChange fnExactSortedSpec)

/-- ITS FALSE NEIGHBOUR: 'it returns false'. Refute it at one input. -/
def fnExactSortedWrong : ChangeSpec := { name := "fnExactSorted", fn := fun _ => fun
  | [d] => { results := [.lit (.bool false)], args := [d] }
  | _ => none }
def FnExactSortedWrongFalsely : Prop := fnExactSortedRow.holds Try.pinned (OpenSpec.ofChange fnExactSortedWrong)

/-- 'laws.FnSortedTwice': WHATEVER THE INPUT: true; the input reads as it did. -/
def fnSortedTwiceSpec : ChangeSpec := { name := "fnSortedTwice", fn := fun _ => fun
  | [d] => { results := [.lit (.bool true)], args := [d] }
  | _ => none }
def fnSortedTwiceRow : OpenClaim := { program := "ytdifjpcfmmipoaa", sum := "7156b25e5dce209e7663ca09e852fc23bbfa4a436f441707c98f9e67d6c51935", func := "loop.example/pub-gotokens/laws.FnSortedTwice", spec := "fnSortedTwice", unfollowed := true, recurses := true, apart := false }
def FnSortedTwiceSaid : Prop := fnSortedTwiceRow.holds Try.pinned (OpenSpec.ofChange fnSortedTwiceSpec)

/-- ITS FALSE NEIGHBOUR: 'it returns false'. Refute it at one input. -/
def fnSortedTwiceWrong : ChangeSpec := { name := "fnSortedTwice", fn := fun _ => fun
  | [d] => { results := [.lit (.bool false)], args := [d] }
  | _ => none }
def FnSortedTwiceWrongFalsely : Prop := fnSortedTwiceRow.holds Try.pinned (OpenSpec.ofChange fnSortedTwiceWrong)

/-- 'laws.FnExactSingle': WHATEVER THE INPUT: true; the input reads as it did. -/
def fnExactSingleSpec : ChangeSpec := { name := "fnExactSingle", fn := fun _ => fun
  | [d] => { results := [.lit (.bool true)], args := [d] }
  | _ => none }
def fnExactSingleRow : OpenClaim := { program := "ytdifjpcfmmipoaa", sum := "7156b25e5dce209e7663ca09e852fc23bbfa4a436f441707c98f9e67d6c51935", func := "loop.example/pub-gotokens/laws.FnExactSingle", spec := "fnExactSingle", unfollowed := true, recurses := true, apart := false }
def FnExactSingleSaid : Prop := fnExactSingleRow.holds Try.pinned (OpenSpec.ofChange fnExactSingleSpec)

/-- ITS FALSE NEIGHBOUR: 'it returns false'. Refute it at one input. -/
def fnExactSingleWrong : ChangeSpec := { name := "fnExactSingle", fn := fun _ => fun
  | [d] => { results := [.lit (.bool false)], args := [d] }
  | _ => none }
def FnExactSingleWrongFalsely : Prop := fnExactSingleRow.holds Try.pinned (OpenSpec.ofChange fnExactSingleWrong)

/-- 'laws.FnSingleFewer': WHATEVER THE INPUT: true; the input reads as it did. -/
def fnSingleFewerSpec : ChangeSpec := { name := "fnSingleFewer", fn := fun _ => fun
  | [d] => { results := [.lit (.bool true)], args := [d] }
  | _ => none }
def fnSingleFewerRow : OpenClaim := { program := "ytdifjpcfmmipoaa", sum := "7156b25e5dce209e7663ca09e852fc23bbfa4a436f441707c98f9e67d6c51935", func := "loop.example/pub-gotokens/laws.FnSingleFewer", spec := "fnSingleFewer", unfollowed := true, recurses := true, apart := false }
def FnSingleFewerSaid : Prop := fnSingleFewerRow.holds Try.pinned (OpenSpec.ofChange fnSingleFewerSpec)

/-- ITS FALSE NEIGHBOUR: 'it returns false'. Refute it at one input. -/
def fnSingleFewerWrong : ChangeSpec := { name := "fnSingleFewer", fn := fun _ => fun
  | [d] => { results := [.lit (.bool false)], args := [d] }
  | _ => none }
def FnSingleFewerWrongFalsely : Prop := fnSingleFewerRow.holds Try.pinned (OpenSpec.ofChange fnSingleFewerWrong)

/-- 'laws.FnSingleOfSorted': WHATEVER THE INPUT: true; the input reads as it did. -/
def fnSingleOfSortedSpec : ChangeSpec := { name := "fnSingleOfSorted", fn := fun _ => fun
  | [d] => { results := [.lit (.bool true)], args := [d] }
  | _ => none }
def fnSingleOfSortedRow : OpenClaim := { program := "ytdifjpcfmmipoaa", sum := "7156b25e5dce209e7663ca09e852fc23bbfa4a436f441707c98f9e67d6c51935", func := "loop.example/pub-gotokens/laws.FnSingleOfSorted", spec := "fnSingleOfSorted", unfollowed := true, recurses := true, apart := false }
def FnSingleOfSortedSaid : Prop := fnSingleOfSortedRow.holds Try.pinned (OpenSpec.ofChange fnSingleOfSortedSpec)

/-- ITS FALSE NEIGHBOUR: 'it returns false'. Refute it at one input. -/
def fnSingleOfSortedWrong : ChangeSpec := { name := "fnSingleOfSorted", fn := fun _ => fun
  | [d] => { results := [.lit (.bool false)], args := [d] }
  | _ => none }
def FnSingleOfSortedWrongFalsely : Prop := fnSingleOfSortedRow.holds Try.pinned (OpenSpec.ofChange fnSingleOfSortedWrong)

/-- 'laws.FnSingleTwice': WHATEVER THE INPUT: true; the input reads as it did. -/
def fnSingleTwiceSpec : ChangeSpec := { name := "fnSingleTwice", fn := fun _ => fun
  | [d] => { results := [.lit (.bool true)], args := [d] }
  | _ => none }
def fnSingleTwiceRow : OpenClaim := { program := "ytdifjpcfmmipoaa", sum := "7156b25e5dce209e7663ca09e852fc23bbfa4a436f441707c98f9e67d6c51935", func := "loop.example/pub-gotokens/laws.FnSingleTwice", spec := "fnSingleTwice", unfollowed := true, recurses := true, apart := false }
def FnSingleTwiceSaid : Prop := fnSingleTwiceRow.holds Try.pinned (OpenSpec.ofChange fnSingleTwiceSpec)

/-- ITS FALSE NEIGHBOUR: 'it returns false'. Refute it at one input. -/
def fnSingleTwiceWrong : ChangeSpec := { name := "fnSingleTwice", fn := fun _ => fun
  | [d] => { results := [.lit (.bool false)], args := [d] }
  | _ => none }
def FnSingleTwiceWrongFalsely : Prop := fnSingleTwiceRow.holds Try.pinned (OpenSpec.ofChange fnSingleTwiceWrong)

/- THE SECOND FORM. 'bulk': how many values and letters a reading holds, each counted each time it is reached (what is shared counts as often as it is met; a slice's spare places count too). A statement '..UptoSaid' is the law's where the arguments, and the package variables that the reading takes, are together of bulk at most 1048576: NARROWER than '..Said'. Prove '..Said' where nothing that the law and all that it calls make is longer than what came in: it says more and counts as full. Else prove '..UptoSaid'. A law counts once. -/
mutual
def uptoBulk {H : Type} : DataW H → Nat
  | .lit (.string bytes) => bytes.length + 1
  | .lit _ => 1
  | .nil => 1
  | .ptr d => uptoBulk d + 1
  | .slice elems spare => uptoBulkAll elems + uptoBulkAll spare + 1
  | .agg parts => uptoBulkAll parts + 1
  | .iface _ d => uptoBulk d + 1
  | .map entries => uptoBulkEntries entries + 1
  | .held _ => 1
def uptoBulkAll {H : Type} : List (DataW H) → Nat
  | [] => 0
  | d :: r => uptoBulk d + uptoBulkAll r
def uptoBulkEntries {H : Type} : List (Lit × DataW H) → Nat
  | [] => 0
  | x :: r => uptoBulkEntry x + uptoBulkEntries r
def uptoBulkEntry {H : Type} : Lit × DataW H → Nat
  | (.string bytes, d) => bytes.length + uptoBulk d + 1
  | (_, d) => uptoBulk d + 1
 end
def uptoSmall : (H : Type) → List (DataW H) → Bool := fun _ ds => decide (uptoBulkAll ds ≤ 1048576)
def OpenSpec.upto (s : _root_.Go.ChangeSpec) : _root_.Go.OpenSpec := { _root_.Go.OpenSpec.ofChange s with cond := some uptoSmall }

/-- 'laws.FnExactSorted', WHERE WHAT IT READS IS OF BULK AT MOST 1048576: true; the input reads as it did. -/
def fnExactSortedUptoRow : OpenClaim := { program := "ytdifjpcfmmipoaa", sum := "7156b25e5dce209e7663ca09e852fc23bbfa4a436f441707c98f9e67d6c51935", func := "loop.example/pub-gotokens/laws.FnExactSorted", spec := "fnExactSorted", unfollowed := true, recurses := true, apart := false, narrowed := true }
def FnExactSortedUptoSaid : Prop := fnExactSortedUptoRow.holds Try.pinned (OpenSpec.upto fnExactSortedSpec)

/-- 'laws.FnSortedTwice', WHERE WHAT IT READS IS OF BULK AT MOST 1048576: true; the input reads as it did. -/
def fnSortedTwiceUptoRow : OpenClaim := { program := "ytdifjpcfmmipoaa", sum := "7156b25e5dce209e7663ca09e852fc23bbfa4a436f441707c98f9e67d6c51935", func := "loop.example/pub-gotokens/laws.FnSortedTwice", spec := "fnSortedTwice", unfollowed := true, recurses := true, apart := false, narrowed := true }
def FnSortedTwiceUptoSaid : Prop := fnSortedTwiceUptoRow.holds Try.pinned (OpenSpec.upto fnSortedTwiceSpec)

/-- 'laws.FnExactSingle', WHERE WHAT IT READS IS OF BULK AT MOST 1048576: true; the input reads as it did. -/
def fnExactSingleUptoRow : OpenClaim := { program := "ytdifjpcfmmipoaa", sum := "7156b25e5dce209e7663ca09e852fc23bbfa4a436f441707c98f9e67d6c51935", func := "loop.example/pub-gotokens/laws.FnExactSingle", spec := "fnExactSingle", unfollowed := true, recurses := true, apart := false, narrowed := true }
def FnExactSingleUptoSaid : Prop := fnExactSingleUptoRow.holds Try.pinned (OpenSpec.upto fnExactSingleSpec)

/-- 'laws.FnSingleFewer', WHERE WHAT IT READS IS OF BULK AT MOST 1048576: true; the input reads as it did. -/
def fnSingleFewerUptoRow : OpenClaim := { program := "ytdifjpcfmmipoaa", sum := "7156b25e5dce209e7663ca09e852fc23bbfa4a436f441707c98f9e67d6c51935", func := "loop.example/pub-gotokens/laws.FnSingleFewer", spec := "fnSingleFewer", unfollowed := true, recurses := true, apart := false, narrowed := true }
def FnSingleFewerUptoSaid : Prop := fnSingleFewerUptoRow.holds Try.pinned (OpenSpec.upto fnSingleFewerSpec)

/-- 'laws.FnSingleOfSorted', WHERE WHAT IT READS IS OF BULK AT MOST 1048576: true; the input reads as it did. -/
def fnSingleOfSortedUptoRow : OpenClaim := { program := "ytdifjpcfmmipoaa", sum := "7156b25e5dce209e7663ca09e852fc23bbfa4a436f441707c98f9e67d6c51935", func := "loop.example/pub-gotokens/laws.FnSingleOfSorted", spec := "fnSingleOfSorted", unfollowed := true, recurses := true, apart := false, narrowed := true }
def FnSingleOfSortedUptoSaid : Prop := fnSingleOfSortedUptoRow.holds Try.pinned (OpenSpec.upto fnSingleOfSortedSpec)

/-- 'laws.FnSingleTwice', WHERE WHAT IT READS IS OF BULK AT MOST 1048576: true; the input reads as it did. -/
def fnSingleTwiceUptoRow : OpenClaim := { program := "ytdifjpcfmmipoaa", sum := "7156b25e5dce209e7663ca09e852fc23bbfa4a436f441707c98f9e67d6c51935", func := "loop.example/pub-gotokens/laws.FnSingleTwice", spec := "fnSingleTwice", unfollowed := true, recurses := true, apart := false, narrowed := true }
def FnSingleTwiceUptoSaid : Prop := fnSingleTwiceUptoRow.holds Try.pinned (OpenSpec.upto fnSingleTwiceSpec)

end Rows
end Go.Proofs.Ytdifjpcfmmipoaa
