/-
  The start at which the three listed tables hold what the program's text lays: it is there.
-/
import Derived.Test.Qxb6627960aFmtRows
import Derived.Lib.LaidIn
import Derived.Lib.LaidTab
import Derived.Lib.ItoaNum
import Derived.Stop.LaidErr
import Derived.Stop.Joined
import Derived.ProofKit
namespace Go.Proofs.Qxb6627960aFmt
open Go.Lib

def t32 : List Int := [0, 1, 28, 2, 29, 14, 24, 3, 30, 22, 20, 15, 25, 17, 4, 8, 31, 27, 13, 23, 21, 19, 16, 7, 26, 12, 18, 6, 11, 5, 10, 9]
def t64 : List Int := [0, 1, 56, 2, 57, 49, 28, 3, 61, 58, 42, 50, 38, 29, 17, 4, 62, 47, 59, 36, 45, 43, 51, 22, 53, 39, 33, 30, 24, 18, 12, 5, 63, 55, 48, 27, 60, 41, 37, 16, 46, 35, 44, 21, 52, 32, 23, 11, 54, 26, 40, 15, 34, 20, 31, 10, 25, 14, 19, 9, 13, 8, 7, 6]
def p10 : List Int := [1, 10, 100, 1000, 10000, 100000, 1000000, 10000000, 100000000, 1000000000, 10000000000, 100000000000, 1000000000000, 10000000000000, 100000000000000, 1000000000000000, 10000000000000000, 100000000000000000, 1000000000000000000, 10000000000000000000]

/-- A world whose first three variables (the tables) hold the listed numbers. -/
def laidOn (w0 : World) : World :=
  { w0 with heap := ((w0.heap.modify 0 fun
      | .cells _ t frozen => .cells (p10.map fun z => Value.int .u64 z).toArray t frozen
      | o => o).modify 1 fun
      | .cells _ t frozen => .cells (t32.map fun z => Value.int .u8 z).toArray t frozen
      | o => o).modify 2 fun
      | .cells _ t frozen => .cells (t64.map fun z => Value.int .u8 z).toArray t frozen
      | o => o }

set_option maxRecDepth 1000000 in
theorem laid_met (os : Os) (args : Array Value) : laidMet Tryf.prog Rows.fnDollarsAgreesWithStringAndReadsBackToMRow.laid ((laidOn (World.holding Tryf.prog os ⟨#[], #[], []⟩)).forCall (fun _ _ => 0) ⟨#[], args, []⟩).memory :=
  (LaidIn.of_run [1, 2, 0] 8 (by kernel_rfl) (by kernel_rfl) (by kernel_rfl) (by kernel_rfl)).met

theorem gT : Tryf.prog.globalNamed "internal/strconv.uint64pow10" = some 0 := by kernel_rfl
theorem gTType : (Tryf.prog.globals[0]?).map (·.type) = some 43 := by kernel_rfl

theorem tab_of_laid {W : World} (hL : laidMet Tryf.prog Rows.fnDollarsAgreesWithStringAndReadsBackToMRow.laid W) : Lib.TabIs Tryf.prog W "internal/strconv.uint64pow10" .u64 Lib.pow10Tab := by
  have h2 : laidMet Tryf.prog (("internal/strconv.uint64pow10", tabData .u64 Lib.pow10Tab) :: []) W := hL.tail.tail
  exact Lib.tabIs_of_head gT gTType Tryf.underlying43 Tryf.underlying26 (by kernel_rfl) (by kernel_rfl) h2
end Go.Proofs.Qxb6627960aFmt
