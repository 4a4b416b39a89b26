import Derived.Test.Qxb6627925aExact
namespace Go.Proofs.Qxb6627925a
open Go.RowKit

set_option maxHeartbeats 1000000 in
theorem mono_range (p w d : Int) (W : World) (h : 1099511627776 < p ∨ p < -1099511627776 ∨ 1099511627776 < w ∨ w < -1099511627776) :
    Calls Try.prog 4 #[.int .i64 p, .int .i64 w, .int .i64 d] W fun e w' => e = .returned (.bool true) ∧ w' = W := by
  rcases h with h | h | h | h
  all_goals
    go_enter Try.func4, Try.ntmps4
    go_wp2_with fail
    all_goals
      go_ret
      exact ⟨rfl, rfl⟩

set_option maxHeartbeats 1000000 in
theorem mono_d (p w d : Int) (W : World) (h1 : -1099511627776 ≤ p) (h2 : p ≤ 1099511627776) (h3 : -1099511627776 ≤ w) (h4 : w ≤ 1099511627776) (h : d < 0 ∨ 1099511627776 < d) :
    Calls Try.prog 4 #[.int .i64 p, .int .i64 w, .int .i64 d] W fun e w' => e = .returned (.bool true) ∧ w' = W := by
  rcases h with h | h
  all_goals
    go_enter Try.func4, Try.ntmps4
    go_wp2_with fail
    all_goals
      go_ret
      exact ⟨rfl, rfl⟩

set_option maxHeartbeats 1000000 in
theorem mono_zero (p d : Int) (W : World) (h1 : -1099511627776 ≤ p) (h2 : p ≤ 1099511627776) (h5 : 0 ≤ d) (h6 : d ≤ 1099511627776)
    (c1 : PercentIs p 0 0) (c2 : PercentIs (p + d) 0 0) (ho : FloatKind.f64.format.order 0 0 = some .eq) :
    Calls Try.prog 4 #[.int .i64 p, .int .i64 0, .int .i64 d] W fun e w' => e = .returned (.bool true) ∧ w' = W := by
  go_enter Try.func4, Try.ntmps4
  go_wp2_with fail
  all_goals
    refine (c1 _).mono ?_
    rintro e w' ⟨rfl, rfl⟩
    go_wp2_with fail
    refine (c2 _).mono ?_
    rintro e w' ⟨rfl, rfl⟩
    go_wp2
    go_ret
    exact ⟨rfl, rfl⟩

set_option maxHeartbeats 1000000 in
theorem mono_pos (p w d : Int) (X Y : Nat) (W : World) (h1 : -1099511627776 ≤ p) (h2 : p ≤ 1099511627776) (h3 : 0 < w) (h4 : w ≤ 1099511627776) (h5 : 0 ≤ d) (h6 : d ≤ 1099511627776)
    (h0 : (w == 0) = false)
    (c0 : PercentIs w w 4636737291354636288) (c1 : PercentIs p w X) (c2 : PercentIs (-p) (-w) X) (c3 : PercentIs (p + d) w Y)
    (h100 : FloatKind.f64.format.order 4636737291354636288 4636737291354636288 = some .eq) (ho : FloatKind.f64.format.order X X = some .eq)
    (hm : (FloatKind.f64.format.order X Y == some .lt || FloatKind.f64.format.order X Y == some .eq) = true) :
    Calls Try.prog 4 #[.int .i64 p, .int .i64 w, .int .i64 d] W fun e w' => e = .returned (.bool true) ∧ w' = W := by
  go_enter Try.func4, Try.ntmps4
  go_wp2_with fail
  refine (c0 _).mono ?_
  rintro e w' ⟨rfl, rfl⟩
  go_wp2_with fail
  refine (c1 _).mono ?_
  rintro e w' ⟨rfl, rfl⟩
  go_wp2_with fail
  refine (c2 _).mono ?_
  rintro e w' ⟨rfl, rfl⟩
  go_wp2_with fail
  refine (c3 _).mono ?_
  rintro e w' ⟨rfl, rfl⟩
  go_wp2
  go_ret
  exact ⟨rfl, rfl⟩

set_option maxHeartbeats 1000000 in
theorem mono_neg (p w d : Int) (X Y : Nat) (W : World) (h1 : -1099511627776 ≤ p) (h2 : p ≤ 1099511627776) (h3 : w < 0) (h4 : -1099511627776 ≤ w) (h5 : 0 ≤ d) (h6 : d ≤ 1099511627776)
    (h0 : (w == 0) = false)
    (c0 : PercentIs w w 4636737291354636288) (c1 : PercentIs p w X) (c2 : PercentIs (-p) (-w) X) (c3 : PercentIs (p + d) w Y)
    (h100 : FloatKind.f64.format.order 4636737291354636288 4636737291354636288 = some .eq) (ho : FloatKind.f64.format.order X X = some .eq)
    (hm : (FloatKind.f64.format.order X Y == some .gt || FloatKind.f64.format.order X Y == some .eq) = true) :
    Calls Try.prog 4 #[.int .i64 p, .int .i64 w, .int .i64 d] W fun e w' => e = .returned (.bool true) ∧ w' = W := by
  go_enter Try.func4, Try.ntmps4
  go_wp2_with fail
  refine (c0 _).mono ?_
  rintro e w' ⟨rfl, rfl⟩
  go_wp2_with fail
  refine (c1 _).mono ?_
  rintro e w' ⟨rfl, rfl⟩
  go_wp2_with fail
  refine (c2 _).mono ?_
  rintro e w' ⟨rfl, rfl⟩
  go_wp2_with fail
  refine (c3 _).mono ?_
  rintro e w' ⟨rfl, rfl⟩
  go_wp2
  go_ret
  exact ⟨rfl, rfl⟩
end Go.Proofs.Qxb6627925a
