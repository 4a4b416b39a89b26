/-
  The walk of joinStripped (10).
-/
import Derived.Test.Qxb6627960aFmtRows
import Derived.WalkKit
import Derived.WalkSpells
import Derived.WalkLawsBesides
namespace Go.Proofs.Qxb6627960aFmt
open Go.RowKit

set_option maxHeartbeats 1000000 in
theorem join_pos (I Fr A O : ByteArray) (z : Nat) (w : World) (hI : I.size ≤ 13) (hF : Fr.size ≤ 6) (hA : I ++ Fr = A)
    (hs : A.size ≤ 19) (hz : z + 1 ≤ A.size) (h0 : ∀ (j : Nat) (h : j < A.size), j < z → ((A[j].toNat : Int) == 48) = true)
    (h1 : z + 1 = A.size ∨ ∀ h : z < A.size, ((A[z].toNat : Int) == 48) = false) (hO : A.extract z A.size = O) :
    Calls Tryf.prog 10 #[.bool false, .string I, .string Fr] w fun x w' => x = .returned (.string O) ∧ w' = w := by
  have HO : Hid (A.extract z A.size = O) := hO
  clear hO
  go_enter Tryf.func10, Tryf.ntmps10
  go_wp2
  go_loop [8] (fun i => ∃ k : Nat, i = .int .i64 k ∧ k ≤ z) (fun i => z - (intOf i).toNat)
  case atStart => exact ⟨0, rfl, by omega⟩
  case round =>
    obtain ⟨k, rfl, hk⟩ := hrel
    by_cases hlt : k < z
    · have hd := h0 k (by omega) hlt
      have hks : k < A.size := by omega
      have hks' : (k : Int) < (A.size : Int) - 1 := by omega
      clear h1
      go_wp2
      go_round
      case rel => exact ⟨k + 1, by go_num, by omega⟩
      case measure => simp [intOf]; omega
    · obtain rfl : k = z := by omega
      have hO2 := HO.out
      have hks : k < A.size := by omega
      clear h0
      by_cases hc : k + 1 = A.size
      · have hks' : ¬ (k : Int) < (A.size : Int) - 1 := by omega
        have hc' : A.size ≤ k + 1 := by omega
        clear h1 hc
        go_wp2
        go_ret
        exact ⟨rfl, rfl⟩
      · have hd := (h1.resolve_left hc) hks
        have hks' : (k : Int) < (A.size : Int) - 1 := by omega
        clear h1 hc
        go_wp2
        go_ret
        exact ⟨rfl, rfl⟩

set_option maxHeartbeats 1000000 in
theorem join_neg (I Fr A O : ByteArray) (z : Nat) (w : World) (hI : I.size ≤ 13) (hF : Fr.size ≤ 6) (hA : I ++ Fr = A)
    (hs : A.size ≤ 19) (hz : z + 1 ≤ A.size) (h0 : ∀ (j : Nat) (h : j < A.size), j < z → ((A[j].toNat : Int) == 48) = true)
    (h1 : z + 1 = A.size ∨ ∀ h : z < A.size, ((A[z].toNat : Int) == 48) = false) (hO : A.extract z A.size = O) (hOs : O.size ≤ 19) :
    Calls Tryf.prog 10 #[.bool true, .string I, .string Fr] w fun x w' => x = .returned (.string ({ data := #[45] } ++ O)) ∧ w' = w := by
  have HO : Hid (A.extract z A.size = O) := hO
  clear hO
  go_enter Tryf.func10, Tryf.ntmps10
  go_wp2
  go_loop [8] (fun i => ∃ k : Nat, i = .int .i64 k ∧ k ≤ z) (fun i => z - (intOf i).toNat)
  case atStart => exact ⟨0, rfl, by omega⟩
  case round =>
    obtain ⟨k, rfl, hk⟩ := hrel
    by_cases hlt : k < z
    · have hd := h0 k (by omega) hlt
      have hks : k < A.size := by omega
      have hks' : (k : Int) < (A.size : Int) - 1 := by omega
      clear h1
      go_wp2
      go_round
      case rel => exact ⟨k + 1, by go_num, by omega⟩
      case measure => simp [intOf]; omega
    · obtain rfl : k = z := by omega
      have hO2 := HO.out
      have hks : k < A.size := by omega
      clear h0
      by_cases hc : k + 1 = A.size
      · have hks' : ¬ (k : Int) < (A.size : Int) - 1 := by omega
        have hc' : A.size ≤ k + 1 := by omega
        clear h1 hc
        go_wp2
        go_ret
        exact ⟨rfl, rfl⟩
      · have hd := (h1.resolve_left hc) hks
        have hks' : (k : Int) < (A.size : Int) - 1 := by omega
        clear h1 hc
        go_wp2
        go_ret
        exact ⟨rfl, rfl⟩

end Go.Proofs.Qxb6627960aFmt
