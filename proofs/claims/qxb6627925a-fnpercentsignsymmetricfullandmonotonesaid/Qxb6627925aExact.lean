import Derived.Test.Qxb6627925aWalks
namespace Go.Proofs.Qxb6627925a
open Go.RowKit

/-- The contract of Percent at one pair of arguments. -/
def PercentIs (p w : Int) (X : Nat) : Prop := ∀ W : World, Calls Try.prog 5 #[.int .i64 p, .int .i64 w] W fun e w' => e = .returned (.float .f64 X) ∧ w' = W

/-- 'float64(q) / 100' is X. -/
def QuoIs (q : Int) (X : Nat) : Prop := ∀ W : World, Sem.run Try.prog (binOp BinOp.quo 22 (Value.float FloatKind.f64 (floatOfInt FloatKind.f64 q)) (Value.float FloatKind.f64 4636737291354636288)) W = .ok (.float .f64 X) W

set_option maxHeartbeats 1000000 in
theorem exact_pos (p w k : Int) (X : Nat) (W : World) (h1 : 0 ≤ p) (h2 : p ≤ 1099511627776) (h3 : 0 < w) (h4 : w ≤ 1099511627776) (h5 : 1 ≤ k) (h6 : k ≤ 65536)
   (h7 : 0 ≤ p * k) (h8 : p * k ≤ 1099511627776) (h9 : 0 ≤ w * k) (h10 : w * k ≤ 1099511627776)
   (h12 : (w != 0) = true)
   (b1 : 0 ≤ p * 10000 / w) (b2 : p * 10000 / w ≤ 10995116277760000) (b3 : 0 ≤ p * 10000 % w) (b4 : p * 10000 % w < w)
   (c1 : PercentIs p w X) (c2 : PercentIs (p * k) (w * k) X) (ho : FloatKind.f64.format.order X X = some .eq)
   (hq : w ≤ 2 * (p * 10000 % w) → QuoIs (p * 10000 / w + 1) X) (hq' : ¬ w ≤ 2 * (p * 10000 % w) → QuoIs (p * 10000 / w) X) :
    Calls Try.prog 3 #[.int .i64 p, .int .i64 w, .int .i64 k] W fun e w' => e = .returned (.bool true) ∧ w' = W := by
  by_cases c : w ≤ 2 * (p * 10000 % w)
  · have q := hq c
    unfold QuoIs at q
    clear hq hq'
    go_enter Try.func3, Try.ntmps3
    go_wp2_with fail
    all_goals
      refine (c1 _).mono ?_
      rintro e w' ⟨rfl, rfl⟩
      go_wp2_with fail
      refine (c2 _).mono ?_
      rintro e w' ⟨rfl, rfl⟩
      go_wp2
      go_ret
      exact ⟨rfl, rfl⟩
  · have q := hq' c
    unfold QuoIs at q
    clear hq hq'
    go_enter Try.func3, Try.ntmps3
    go_wp2_with fail
    all_goals
      refine (c1 _).mono ?_
      rintro e w' ⟨rfl, rfl⟩
      go_wp2_with fail
      refine (c2 _).mono ?_
      rintro e w' ⟨rfl, rfl⟩
      go_wp2
      go_ret
      exact ⟨rfl, rfl⟩

end Go.Proofs.Qxb6627925a
