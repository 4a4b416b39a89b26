/-
  The functions that only bound the input (5, 13: zzBytes_..; 6: zzBytesWithin): they answer a bool and turn nothing.
-/
import Derived.Test.Qxb6634845aRows
import Derived.WalkKit
import Derived.WalkSpells
import Derived.WalkLawsBesides
import Derived.Deep.QuietTactic
import Derived.BigQuiet
import Derived.Below
namespace Go.Proofs.Qxb6634845a
open Go.RowKit
set_option linter.unusedVariables false

/-- A finding's six strings. -/
structure Fd where
  verdict : ByteArray
  rule : ByteArray
  crd : ByteArray
  version : ByteArray
  path : ByteArray
  detail : ByteArray

/-- WHAT A WALK IS TOLD OF A SLICE OF ALL-CRD ROWS: element i's two cells hold the strings 'R i', 'V i'. -/
def Ru (w : World) (a : Option Addr) (n : Nat) (R V : Nat → ByteArray) : Prop :=
  ∀ i, i < n → ∃ b off, a = some ⟨b, off, none⟩ ∧ w.cell? ⟨b, off + i * 2, none⟩ = some (.string (R i)) ∧ w.cell? ⟨b, off + i * 2 + 1, none⟩ = some (.string (V i))

/-- .. of a slice of one-CRD rows. -/
def Kr (w : World) (a : Option Addr) (n : Nat) (C R V : Nat → ByteArray) : Prop :=
  ∀ i, i < n → ∃ b off, a = some ⟨b, off, none⟩ ∧ w.cell? ⟨b, off + i * 3, none⟩ = some (.string (C i)) ∧ w.cell? ⟨b, off + i * 3 + 1, none⟩ = some (.string (R i)) ∧ w.cell? ⟨b, off + i * 3 + 2, none⟩ = some (.string (V i))

/-- .. of a slice of findings, the given ones or the program's. -/
def Fs (w : World) (a : Option Addr) (n : Nat) (F : Nat → Fd) : Prop :=
  ∀ i, i < n → ∃ b off, a = some ⟨b, off, none⟩ ∧ w.cell? ⟨b, off + i * 6, none⟩ = some (.string (F i).verdict) ∧ w.cell? ⟨b, off + i * 6 + 1, none⟩ = some (.string (F i).rule) ∧ w.cell? ⟨b, off + i * 6 + 2, none⟩ = some (.string (F i).crd) ∧
    w.cell? ⟨b, off + i * 6 + 3, none⟩ = some (.string (F i).version) ∧ w.cell? ⟨b, off + i * 6 + 4, none⟩ = some (.string (F i).path) ∧ w.cell? ⟨b, off + i * 6 + 5, none⟩ = some (.string (F i).detail)

def IsBool (e : Ending) : Prop := e = .returned (.bool true) ∨ e = .returned (.bool false)

set_option maxRecDepth 100000 in
set_option maxHeartbeats 4000000 in
theorem bytes5 (a b' c : Option Addr) (n nk nf cap cap2 cap3 : Nat) (R V C K L : Nat → ByteArray) (F : Nat → Fd) (w : World) (hr : Ru w a n R V) (hk : Kr w b' nk C K L) (hf : Fs w c nf F) :
    Calls Try.prog 5 #[.slice a n cap, .slice b' nk cap2, .slice c nf cap3] w fun e w' => IsBool e ∧ w' = w := by
  go_enter Try.func5, Try.ntmps5
  go_wp2_with fail
  all_goals try (go_ret; exact ⟨.inr rfl, rfl⟩)
  go_loop [7, 8] (fun z i => ∃ (s : Int) (j : Nat), z = .int .i64 s ∧ i = .int .i64 j ∧ j ≤ n ∧ 0 ≤ s ∧ s ≤ 1048576) (fun _ i => n - (intOf i).toNat)
  case atStart => exact ⟨_, 0, rfl, rfl, by omega, by omega, by omega⟩
  case round =>
    obtain ⟨s, j, rfl, rfl, hj, hs0, hs1⟩ := hrel
    by_cases hlt : j < n
    · obtain ⟨b, off, rfl, hc0, hc1⟩ := hr j hlt
      clear hr hk hf
      go_wp2
      all_goals first
        | (go_ret; exact ⟨.inr rfl, rfl⟩)
        | (go_round
           case rel => exact ⟨_, j + 1, rfl, by go_num, by omega, by omega, by omega⟩
           case measure => simp [intOf]; omega)
    · clear hr
      go_wp2_with fail
      all_goals try (go_ret; exact ⟨.inr rfl, rfl⟩)
      go_loop [7, 9] (fun z i => ∃ (s : Int) (j : Nat), z = .int .i64 s ∧ i = .int .i64 j ∧ j ≤ nk ∧ 0 ≤ s ∧ s ≤ 1048576) (fun _ i => nk - (intOf i).toNat)
      case atStart => exact ⟨_, 0, rfl, rfl, by omega, by omega, by omega⟩
      case round =>
        obtain ⟨s2, j2, rfl, rfl, hj2, hs20, hs21⟩ := hrel
        by_cases hlt2 : j2 < nk
        · obtain ⟨b, off, rfl, hc0, hc1, hc2⟩ := hk j2 hlt2
          clear hk hf
          go_wp2
          all_goals first
            | (go_ret; exact ⟨.inr rfl, rfl⟩)
            | (go_round
               case rel => exact ⟨_, j2 + 1, rfl, by go_num, by omega, by omega, by omega⟩
               case measure => simp [intOf]; omega)
        · clear hk
          go_wp2_with fail
          all_goals try (go_ret; exact ⟨.inr rfl, rfl⟩)
          go_loop [7, 10] (fun z i => ∃ (s : Int) (j : Nat), z = .int .i64 s ∧ i = .int .i64 j ∧ j ≤ nf ∧ 0 ≤ s ∧ s ≤ 1048576) (fun _ i => nf - (intOf i).toNat)
          case atStart => exact ⟨_, 0, rfl, rfl, by omega, by omega, by omega⟩
          case round =>
            obtain ⟨s3, j3, rfl, rfl, hj3, hs30, hs31⟩ := hrel
            by_cases hlt3 : j3 < nf
            · obtain ⟨b, off, rfl, hc0, hc1, hc2, hc3, hc4, hc5⟩ := hf j3 hlt3
              clear hf
              go_wp2
              all_goals first
                | (go_ret; exact ⟨.inr rfl, rfl⟩)
                | (go_round
                   case rel => exact ⟨_, j3 + 1, rfl, by go_num, by omega, by omega, by omega⟩
                   case measure => simp [intOf]; omega)
            · go_wp2
              all_goals
                go_ret
                first
                  | exact ⟨.inl rfl, rfl⟩
                  | exact ⟨.inr rfl, rfl⟩

set_option maxRecDepth 100000 in
set_option maxHeartbeats 4000000 in
theorem bytes13 (a b' c : Option Addr) (n nk nf cap cap2 cap3 : Nat) (R V C K L : Nat → ByteArray) (F : Nat → Fd) (k : Int) (w : World) (hr : Ru w a n R V) (hk : Kr w b' nk C K L) (hf : Fs w c nf F) :
    Calls Try.prog 13 #[.slice a n cap, .slice b' nk cap2, .slice c nf cap3, .int .i64 k] w fun e w' => IsBool e ∧ w' = w := by
  go_enter Try.func13, Try.ntmps13
  go_wp2_with fail
  all_goals try (go_ret; exact ⟨.inr rfl, rfl⟩)
  go_loop [9, 10] (fun z i => ∃ (s : Int) (j : Nat), z = .int .i64 s ∧ i = .int .i64 j ∧ j ≤ n ∧ 0 ≤ s ∧ s ≤ 1048576) (fun _ i => n - (intOf i).toNat)
  case atStart => exact ⟨_, 0, rfl, rfl, by omega, by omega, by omega⟩
  case round =>
    obtain ⟨s, j, rfl, rfl, hj, hs0, hs1⟩ := hrel
    by_cases hlt : j < n
    · obtain ⟨b, off, rfl, hc0, hc1⟩ := hr j hlt
      clear hr hk hf
      go_wp2
      all_goals first
        | (go_ret; exact ⟨.inr rfl, rfl⟩)
        | (go_round
           case rel => exact ⟨_, j + 1, rfl, by go_num, by omega, by omega, by omega⟩
           case measure => simp [intOf]; omega)
    · clear hr
      go_wp2_with fail
      all_goals try (go_ret; exact ⟨.inr rfl, rfl⟩)
      go_loop [9, 11] (fun z i => ∃ (s : Int) (j : Nat), z = .int .i64 s ∧ i = .int .i64 j ∧ j ≤ nk ∧ 0 ≤ s ∧ s ≤ 1048576) (fun _ i => nk - (intOf i).toNat)
      case atStart => exact ⟨_, 0, rfl, rfl, by omega, by omega, by omega⟩
      case round =>
        obtain ⟨s2, j2, rfl, rfl, hj2, hs20, hs21⟩ := hrel
        by_cases hlt2 : j2 < nk
        · obtain ⟨b, off, rfl, hc0, hc1, hc2⟩ := hk j2 hlt2
          clear hk hf
          go_wp2
          all_goals first
            | (go_ret; exact ⟨.inr rfl, rfl⟩)
            | (go_round
               case rel => exact ⟨_, j2 + 1, rfl, by go_num, by omega, by omega, by omega⟩
               case measure => simp [intOf]; omega)
        · clear hk
          go_wp2_with fail
          all_goals try (go_ret; exact ⟨.inr rfl, rfl⟩)
          go_loop [9, 12] (fun z i => ∃ (s : Int) (j : Nat), z = .int .i64 s ∧ i = .int .i64 j ∧ j ≤ nf ∧ 0 ≤ s ∧ s ≤ 1048576) (fun _ i => nf - (intOf i).toNat)
          case atStart => exact ⟨_, 0, rfl, rfl, by omega, by omega, by omega⟩
          case round =>
            obtain ⟨s3, j3, rfl, rfl, hj3, hs30, hs31⟩ := hrel
            by_cases hlt3 : j3 < nf
            · obtain ⟨b, off, rfl, hc0, hc1, hc2, hc3, hc4, hc5⟩ := hf j3 hlt3
              clear hf
              go_wp2
              all_goals first
                | (go_ret; exact ⟨.inr rfl, rfl⟩)
                | (go_round
                   case rel => exact ⟨_, j3 + 1, rfl, by go_num, by omega, by omega, by omega⟩
                   case measure => simp [intOf]; omega)
            · go_wp2
              all_goals
                go_ret
                first
                  | exact ⟨.inl rfl, rfl⟩
                  | exact ⟨.inr rfl, rfl⟩
end Go.Proofs.Qxb6634845a
