/-
  FROM THE ROW's CONDITION ('laid') TO THE TABLE THAT strconv READS.
-/
import Derived.Test.Qxb6627473aDoorForm
import Derived.ProofKit
import Derived.OpenShut
import Derived.ShutString
import Derived.LaidLaws
import Derived.Handed
import Derived.Stop.LaidErr
import Derived.Lib.LaidTab
namespace Go.Proofs.Qxb6627473aDoor
open Go.RowKit

theorem own : ownKnob Tryd.prog.godebug = none := by kernel_rfl
theorem cells32 : Tryd.prog.cellsOf 32 = 1 := by kernel_rfl
theorem cells42 : Tryd.prog.cellsOf 42 = 20 := by kernel_rfl
theorem tab_is0 : Tryd.prog.globalNamed tabName = some 0 := by kernel_rfl
theorem tab_type : (Tryd.prog.globals[0]?).map (·.type) = some 42 := by kernel_rfl

/-- The cells of a listed array of integers. -/
def cellsOfLaid : DataW Unit → Array Value
  | .agg l => (l.map fun | .lit (.int k z) => Value.int k z | _ => undef).toArray
  | _ => #[]

/-- A variable's block, its cells laid. -/
def putCells (cs : Array Value) : Obj → Obj
  | .cells _ t frozen => .cells cs t frozen
  | o => o
/-- The three variables laid. -/
def laidHeap (h : Array Obj) : Array Obj :=
  ((h.modify 0 (putCells (cellsOfLaid Rows.laid_internal_strconv_uint64pow10))).modify 1 (putCells (cellsOfLaid Rows.laid_math_bits_deBruijn32tab))).modify 2 (putCells (cellsOfLaid Rows.laid_math_bits_deBruijn64tab))

theorem tab_of_laid {W : World} (h : laidMet Tryd.prog Rows.fnOpStringAgreesWithReadFormRow.laid W) : Tab W :=
  Lib.tabIs_of_head (rest := []) tab_is0 tab_type Tryd.underlying42 Tryd.underlying32 cells32 cells42
    (show laidMet Tryd.prog ((tabName, Lib.tabData .u64 Lib.pow10Tab) :: []) W from
      (show laidMet Tryd.prog (Rows.fnOpStringAgreesWithReadFormRow.laid) W from h).tail.tail)
end Go.Proofs.Qxb6627473aDoor
