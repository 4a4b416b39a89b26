import Derived.Test.Qxb6627925aWalks
namespace Go.Proofs.Qxb6627925a
open Go.RowKit

set_option maxHeartbeats 1000000 in
theorem exit_range (p w k : Int) (W : World) (h : 1099511627776 < p ∨ p < -1099511627776 ∨ 1099511627776 < w ∨ w < -1099511627776) :
    Calls Try.prog 3 #[.int .i64 p, .int .i64 w, .int .i64 k] W fun e w' => e = .returned (.bool true) ∧ w' = W := by
  rcases h with h | h | h | h
  all_goals
    go_enter Try.func3, Try.ntmps3
    go_wp2_with fail
    all_goals
      go_ret
      exact ⟨rfl, rfl⟩

set_option maxHeartbeats 1000000 in
theorem exit_k (p w k : Int) (W : World) (h1 : -1099511627776 ≤ p) (h2 : p ≤ 1099511627776) (h3 : -1099511627776 ≤ w) (h4 : w ≤ 1099511627776) (h : k < 1 ∨ 65536 < k) :
    Calls Try.prog 3 #[.int .i64 p, .int .i64 w, .int .i64 k] W fun e w' => e = .returned (.bool true) ∧ w' = W := by
  rcases h with h | h
  all_goals
    go_enter Try.func3, Try.ntmps3
    go_wp2_with fail
    all_goals
      go_ret
      exact ⟨rfl, rfl⟩

set_option maxHeartbeats 1000000 in
theorem exit_sign (p w k : Int) (W : World) (h1 : -1099511627776 ≤ p) (h2 : p ≤ 1099511627776) (h3 : -1099511627776 ≤ w) (h4 : w ≤ 1099511627776) (h5 : 1 ≤ k) (h6 : k ≤ 65536) (h : p < 0 ∧ 0 < w ∨ 0 < p ∧ w < 0) :
    Calls Try.prog 3 #[.int .i64 p, .int .i64 w, .int .i64 k] W fun e w' => e = .returned (.bool true) ∧ w' = W := by
  rcases h with ⟨h, h'⟩ | ⟨h, h'⟩
  all_goals
    go_enter Try.func3, Try.ntmps3
    go_wp2_with fail
    all_goals
      go_ret
      exact ⟨rfl, rfl⟩

set_option maxHeartbeats 1000000 in
theorem exit_pos (p w k : Int) (W : World) (h1 : 0 ≤ p) (h2 : p ≤ 1099511627776) (h3 : 0 ≤ w) (h4 : w ≤ 1099511627776) (h5 : 1 ≤ k) (h6 : k ≤ 65536)
    (b1 : 0 ≤ p * k) (b2 : p * k ≤ 72057594037927936) (b3 : 0 ≤ w * k) (b4 : w * k ≤ 72057594037927936) (h : 1099511627776 < p * k ∨ 1099511627776 < w * k) :
    Calls Try.prog 3 #[.int .i64 p, .int .i64 w, .int .i64 k] W fun e w' => e = .returned (.bool true) ∧ w' = W := by
  rcases h with h | h
  all_goals
    go_enter Try.func3, Try.ntmps3
    go_wp2_with fail
    all_goals
      go_ret
      exact ⟨rfl, rfl⟩

set_option maxHeartbeats 1000000 in
theorem exit_neg (p w k : Int) (W : World) (h1 : 0 < p) (h2 : p ≤ 1099511627776) (h3 : 0 < w) (h4 : w ≤ 1099511627776) (h5 : 1 ≤ k) (h6 : k ≤ 65536)
    (b1 : 0 ≤ p * k) (b2 : p * k ≤ 72057594037927936) (b3 : 0 ≤ w * k) (b4 : w * k ≤ 72057594037927936) (h : 1099511627776 < p * k ∨ 1099511627776 < w * k) :
    Calls Try.prog 3 #[.int .i64 (-p), .int .i64 (-w), .int .i64 k] W fun e w' => e = .returned (.bool true) ∧ w' = W := by
  rcases h with h | h
  all_goals
    go_enter Try.func3, Try.ntmps3
    go_wp2_with fail
    all_goals
      go_ret
      exact ⟨rfl, rfl⟩

set_option maxHeartbeats 1000000 in
theorem exit_neg0 (w k : Int) (W : World) (h3 : 0 < w) (h4 : w ≤ 1099511627776) (h5 : 1 ≤ k) (h6 : k ≤ 65536)
    (b3 : 0 ≤ w * k) (b4 : w * k ≤ 72057594037927936) (h : 1099511627776 < w * k) :
    Calls Try.prog 3 #[.int .i64 0, .int .i64 (-w), .int .i64 k] W fun e w' => e = .returned (.bool true) ∧ w' = W := by
  go_enter Try.func3, Try.ntmps3
  go_wp2_with fail
  all_goals
    go_ret
    exact ⟨rfl, rfl⟩

set_option maxHeartbeats 1000000 in
theorem exit_zero_neg (p k : Int) (W : World) (h1 : 0 < p) (h2 : p ≤ 1099511627776) (h5 : 1 ≤ k) (h6 : k ≤ 65536)
    (b1 : 0 ≤ p * k) (b2 : p * k ≤ 72057594037927936) (h : 1099511627776 < p * k) :
    Calls Try.prog 3 #[.int .i64 (-p), .int .i64 0, .int .i64 k] W fun e w' => e = .returned (.bool true) ∧ w' = W := by
  go_enter Try.func3, Try.ntmps3
  go_wp2_with fail
  all_goals
    go_ret
    exact ⟨rfl, rfl⟩
end Go.Proofs.Qxb6627925a
