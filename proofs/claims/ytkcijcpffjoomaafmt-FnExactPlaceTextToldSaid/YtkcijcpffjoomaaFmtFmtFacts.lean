/-
  The closed facts for a walk over the stopped front fmt.Sprintf at the one format that the program gives it, and the text that it is told.
-/
import Derived.Test.YtkcijcpffjoomaaFmtProg
import Derived.KernelRfl
import Derived.Stop.CallBack
import Derived.Stop.IfaceNil
import Derived.Stop.FmtTextKit
import Derived.Stop.FmtTextVerbs
import Derived.Stop.Texts
import GoSem.ClaimData
namespace Go.Proofs.YtkcijcpffjoomaaFmt
open Go.Extern.Stop Go.Stop Go.Extern

theorem call_sprintf (args : Array Value) (w : World) : (callFunc 10 args).run Tryf.prog w = ((FmtStop.sprintf #[9, 65] #[9] args).run Tryf.prog w).andThen fun v w' => .ok (.value v) w' :=
  run_callFunc_extern Tryf.func10 (by kernel_rfl) (by kernel_rfl) (by kernel_rfl) (by kernel_rfl) args w
theorem guard_fmt (name : String) (w : World) : (FmtStop.guard name).run Tryf.prog w = .ok () w := by kernel_rfl
theorem printed_colon : FmtStop.printed? ⟨#[58, 37, 100]⟩ 1 = some [(0, 100, false)] := by kernel_rfl
theorem printed_colon0 : FmtStop.printed? ⟨#[58, 37, 100]⟩ 0 = some [] := by kernel_rfl
theorem fmt_colon (w : World) : (FmtDoors.printed ⟨#[58, 37, 100]⟩ 1).run Tryf.prog w = .ok [(0, 100, false)] w := by kernel_rfl
theorem fmt_colon0 (w : World) : (FmtDoors.printed ⟨#[58, 37, 100]⟩ 0).run Tryf.prog w = .ok [] w := by kernel_rfl
def shapeInt : List UInt8 := [5, 3, 0, 0, 0, 0, 0, 0, 0, 105, 110, 116]
theorem op_int (name : String) (x : Int) (w : World) : (FmtStop.operand name false 100 false (.iface 3 (.int .i64 x))).run Tryf.prog w = .ok (shapeInt, Go.Extern.Stop.digits 8 (x % 2 ^ 64).toNat) w := by kernel_rfl

/-- What fmt is asked. -/
def colonReading (n : Int) : List (List UInt8) := [[58, 37, 100], shapeInt, digits 8 (n % 18446744073709551616).toNat]

theorem colon_parse : (FmtText.parse [58, 37, 100]).map FmtText.glue = some [.lit [58], .verb {} 100] := by rfl

theorem colon_text (n : Int) (hw : (Lit.int .i64 n).wf = true) : FmtText.text "fmt.Sprintf" (colonReading n) = some ([58] ++ Lib.itoa n) := by
  have hi := FmtText.operand_int_at (sh := shapeInt) (k := .i64) rfl rfl n hw
  rw [colonReading, FmtText.text_sprintf_glued colon_parse (FmtText.operands_cons hi FmtText.operands_nil)]
  simp [FmtText.render, FmtText.printArg_d _ _ hw]

end Go.Proofs.YtkcijcpffjoomaaFmt
