/-
  The two functions that only bound the input (9: zzBytes_FnActionNeededSplitAtAnyCut; 6: zzBytesOver): they answer a bool and turn nothing.
-/
import Derived.Test.Qxb6627990aRows
import Derived.WalkKit
import Derived.WalkSpells
import Derived.WalkLawsBesides
import Derived.Deep.QuietTactic
import Derived.BigQuiet
namespace Go.Proofs.Qxb6627990a
open Go.RowKit

/-- WHAT A WALK IS TOLD OF A SLICE OF CLASSES: element i's two cells hold the strings 'C i', 'V i'. -/
def Cl (w : World) (a : Option Addr) (n : Nat) (C V : Nat → ByteArray) : Prop :=
  ∀ i, i < n → ∃ b off, a = some ⟨b, off, none⟩ ∧ w.cell? ⟨b, off + i * 2, none⟩ = some (.string (C i)) ∧ w.cell? ⟨b, off + i * 2 + 1, none⟩ = some (.string (V i))

def IsBool (e : Ending) : Prop := e = .returned (.bool true) ∨ e = .returned (.bool false)

set_option maxHeartbeats 1000000 in
theorem bytes9 (fund tier : ByteArray) (sh : Bool) (k : Int) (a : Option Addr) (n cap : Nat) (C V : Nat → ByteArray) (w : World) (hc : Cl w a n C V) :
    Calls Try.prog 9 #[.string fund, .bool sh, .string tier, .slice a n cap, .int .i64 k] w fun e w' => IsBool e ∧ w' = w := by
  go_enter Try.func9, Try.ntmps9
  go_wp2_with fail
  all_goals try (go_ret; exact ⟨.inr rfl, rfl⟩)
  go_loop [11, 12] (fun z i => ∃ (s : Int) (j : Nat), z = .int .i64 s ∧ i = .int .i64 j ∧ j ≤ n ∧ 0 ≤ s ∧ s ≤ 1048576) (fun _ i => n - (intOf i).toNat)
  case atStart => exact ⟨_, 0, rfl, rfl, by omega, by omega, by omega⟩
  case round =>
    obtain ⟨s, j, rfl, rfl, hj, hs0, hs1⟩ := hrel
    by_cases hlt : j < n
    · obtain ⟨b, off, rfl, hc0, hc1⟩ := hc j hlt
      clear hc
      go_wp2
      all_goals first
        | (go_ret; exact ⟨.inr rfl, rfl⟩)
        | (go_round
           case rel => exact ⟨_, j + 1, rfl, by go_num, by omega, by omega, by omega⟩
           case measure => simp [intOf]; omega)
    · go_wp2
      go_ret
      exact ⟨.inl rfl, rfl⟩

set_option maxHeartbeats 1000000 in
theorem bytes5 (fund tier name verdict : ByteArray) (sh : Bool) (k : Int) (a : Option Addr) (n cap : Nat) (C V : Nat → ByteArray) (w : World) (hc : Cl w a n C V) :
    Calls Try.prog 5 #[.string fund, .bool sh, .string tier, .slice a n cap, .int .i64 k, .string name, .string verdict] w fun e w' => IsBool e ∧ w' = w := by
  go_enter Try.func5, Try.ntmps5
  go_wp2_with fail
  all_goals try (go_ret; exact ⟨.inr rfl, rfl⟩)
  go_loop [15, 16] (fun z i => ∃ (s : Int) (j : Nat), z = .int .i64 s ∧ i = .int .i64 j ∧ j ≤ n ∧ 0 ≤ s ∧ s ≤ 1048576) (fun _ i => n - (intOf i).toNat)
  case atStart => exact ⟨_, 0, rfl, rfl, by omega, by omega, by omega⟩
  case round =>
    obtain ⟨s, j, rfl, rfl, hj, hs0, hs1⟩ := hrel
    by_cases hlt : j < n
    · obtain ⟨b, off, rfl, hc0, hc1⟩ := hc j hlt
      clear hc
      go_wp2
      all_goals first
        | (go_ret; exact ⟨.inr rfl, rfl⟩)
        | (go_round
           case rel => exact ⟨_, j + 1, rfl, by go_num, by omega, by omega, by omega⟩
           case measure => simp [intOf]; omega)
    · go_wp2
      all_goals
        go_ret
        first
          | exact ⟨.inl rfl, rfl⟩
          | exact ⟨.inr rfl, rfl⟩

set_option maxHeartbeats 1000000 in
theorem over6 (fund tier name verdict : ByteArray) (a : Option Addr) (n cap : Nat) (C V : Nat → ByteArray) (w : World) (hc : Cl w a n C V)
    (h1 : fund.size ≤ 65536) (h2 : tier.size ≤ 65536) (h3 : name.size ≤ 65536) (h4 : verdict.size ≤ 65536) (hn : n ≤ 65536) :
    Calls Try.prog 6 #[.string fund, .string tier, .string name, .string verdict, .slice a n cap] w fun e w' => IsBool e ∧ ∃ q, w' = w.drewN q := by
  go_enter Try.func6, Try.ntmps6
  go_wp2_with fail
  go_loopw [11, 12] (fun z i wr => ∃ (s : Int) (j q : Nat), z = .int .i64 s ∧ i = .int .i64 j ∧ j ≤ n ∧ wr = w.drewN q) (fun _ i _ => n - (intOf i).toNat)
  case atStart => exact ⟨_, 0, 0, rfl, rfl, by omega, rfl⟩
  case round =>
    obtain ⟨s, j, q, rfl, rfl, hj, rfl⟩ := hrel
    by_cases hlt : j < n
    · obtain ⟨b, off, rfl, hc0, hc1⟩ := hc j hlt
      clear hc
      have hj0 : (0 : Int) ≤ (j : Int) := by omega
      have hj1 : (j : Int) < (n : Int) := by omega
      go_wp2_with fail
      go_quiet (fail)
      all_goals go_wp2
      all_goals first
        | (go_ret; exact ⟨.inl rfl, _, rfl⟩)
        | (go_roundw
           case rel => exact ⟨_, j + 1, _, rfl, by go_num, by omega, rfl⟩
           case measure => simp [intOf]; omega)
    · go_wp2
      go_ret
      exact ⟨.inr rfl, _, rfl⟩
end Go.Proofs.Qxb6627990a
