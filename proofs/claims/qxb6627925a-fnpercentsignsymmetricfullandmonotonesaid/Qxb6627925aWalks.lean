/-
  result.Percent (function 5) by its contract.
-/
import Derived.Test.Qxb6627925aRows
import Derived.Test.Qxb6627925aPct
import Derived.WalkKit
import Derived.WalkLawsBesides
namespace Go.Proofs.Qxb6627925a
open Go.RowKit

/-- What Percent divides by 100. -/
def hund (p w : Int) : Int := (p * 10000 * 2 + w).tdiv (2 * w)

theorem percent_zero (p : Int) (w : World) :
    Calls Try.prog 5 #[.int .i64 p, .int .i64 0] w fun e w' => e = .returned (.float .f64 0) ∧ w' = w := by
  go_enter Try.func5, Try.ntmps5
  go_wp2
  go_ret
  exact ⟨rfl, rfl⟩

theorem hund_abs (p w : Int) (h1 : -4398046511104 ≤ p) (h2 : p ≤ 4398046511104) (h3 : -4398046511104 ≤ w) (h4 : w ≤ 4398046511104) : (hund p w).natAbs ≤ 2 ^ 60 := by
  unfold hund
  have h : ((p * 10000 * 2 + w).tdiv (2 * w)).natAbs ≤ (p * 10000 * 2 + w).natAbs := by
    rw [Int.natAbs_tdiv]; exact Nat.div_le_self ..
  omega

theorem hund_wrap (p w : Int) (h1 : -4398046511104 ≤ p) (h2 : p ≤ 4398046511104) (h3 : -4398046511104 ≤ w) (h4 : w ≤ 4398046511104) : wrap64 ((p * 10000 * 2 + w).tdiv (2 * w)) = hund p w := by
  have h := hund_abs p w h1 h2 h3 h4
  show wrap64 (hund p w) = hund p w
  generalize hund p w = x at *
  unfold wrap64
  omega

theorem run_quo (p w : Int) (h1 : -4398046511104 ≤ p) (h2 : p ≤ 4398046511104) (h3 : -4398046511104 ≤ w) (h4 : w ≤ 4398046511104) (W : World) :
    Sem.run Try.prog (binOp BinOp.quo 22 (Value.float FloatKind.f64 (floatOfInt FloatKind.f64 (wrap64 ((p * 10000 * 2 + w).tdiv (2 * w))))) (Value.float FloatKind.f64 4636737291354636288)) W = .ok (.float .f64 (Fl.pct (hund p w))) W := by
  rw [hund_wrap p w h1 h2 h3 h4]
  exact run_float_arith W _ _ _ _ _ _ (Fl.div_eq (hund_abs p w h1 h2 h3 h4))

set_option maxHeartbeats 400000 in
theorem percent_any (p w : Int) (W : World) (h1 : -4398046511104 ≤ p) (h2 : p ≤ 4398046511104) (h3 : -4398046511104 ≤ w) (h4 : w ≤ 4398046511104) (h0 : (w == 0) = false) :
    Calls Try.prog 5 #[.int .i64 p, .int .i64 w] W fun e w' => e = .returned (.float .f64 (Fl.pct (hund p w))) ∧ w' = W := by
  have hq := run_quo p w h1 h2 h3 h4
  have hn : ¬ 2 * w = 0 := by have : w ≠ 0 := by simpa using h0
                              omega
  go_enter Try.func5, Try.ntmps5
  go_wp2
  go_ret
  exact ⟨rfl, rfl⟩
end Go.Proofs.Qxb6627925a
