/-
  zzBytesWithin (6).
-/
import Derived.Test.Qxb6634845aBounds
namespace Go.Proofs.Qxb6634845a
open Go.RowKit
set_option linter.unusedVariables false

set_option maxRecDepth 100000 in
set_option maxHeartbeats 4000000 in
theorem within6 (a b' c : Option Addr) (n nk nf cap cap2 cap3 : Nat) (R V C K L : Nat → ByteArray) (F : Nat → Fd) (w : World) (hr : Ru w a n R V) (hk : Kr w b' nk C K L) (hf : Fs w c nf F) (hn : n ≤ 4096) (hnk : nk ≤ 4096) (hnf : nf ≤ 4096) :
    Calls Try.prog 6 #[.slice a n cap, .slice b' nk cap2, .slice c nf cap3] w fun e w' => IsBool e ∧ Below w.heap.size w w' := by
  go_enter Try.func6, Try.ntmps6
  go_wp2_with fail
  go_loop [7, 8] (fun z i => ∃ (s : Int) (j : Nat), z = .int .i64 s ∧ i = .int .i64 j ∧ j ≤ n ∧ 0 ≤ s ∧ s ≤ 1048576) (fun _ i => n - (intOf i).toNat)
  case atStart => exact ⟨_, 0, rfl, rfl, by omega, by omega, by omega⟩
  case round =>
    obtain ⟨s, j, rfl, rfl, hj, hs0, hs1⟩ := hrel
    by_cases hlt : j < n
    · obtain ⟨b, off, rfl, hc0, hc1⟩ := hr j hlt
      clear hr hk hf
      go_wp2
      all_goals first
        | (go_ret; exact ⟨.inr rfl, Below.refl _ _⟩)
        | (go_round
           case rel => exact ⟨_, j + 1, rfl, by go_num, by omega, by omega, by omega⟩
           case measure => simp [intOf]; omega)
    · clear hr
      go_wp2_with fail
      go_loop [7, 11] (fun z i => ∃ (s : Int) (j : Nat), z = .int .i64 s ∧ i = .int .i64 j ∧ j ≤ nk ∧ 0 ≤ s ∧ s ≤ 1048576) (fun _ i => nk - (intOf i).toNat)
      case atStart => exact ⟨_, 0, rfl, rfl, by omega, by omega, by omega⟩
      case round =>
        obtain ⟨s2, j2, rfl, rfl, hj2, hs20, hs21⟩ := hrel
        by_cases hlt2 : j2 < nk
        · obtain ⟨b, off, rfl, hc0, hc1, hc2⟩ := hk j2 hlt2
          clear hk hf
          go_wp2
          all_goals first
            | (go_ret; exact ⟨.inr rfl, Below.refl _ _⟩)
            | (go_round
               case rel => exact ⟨_, j2 + 1, rfl, by go_num, by omega, by omega, by omega⟩
               case measure => simp [intOf]; omega)
        · clear hk
          go_wp2_with fail
          go_loopw [7, 15] (fun z i wr => ∃ (s : Int) (j : Nat), z = .int .i64 s ∧ i = .int .i64 j ∧ j ≤ nf ∧ 0 ≤ s ∧ s ≤ 1048576 ∧ Below w.heap.size w wr) (fun _ i _ => nf - (intOf i).toNat)
          case atStart => exact ⟨_, 0, rfl, rfl, by omega, by omega, by omega, Below.refl _ _⟩
          case round =>
            obtain ⟨s3, j3, rfl, rfl, hj3, hs30, hs31, hb⟩ := hrel
            by_cases hlt3 : j3 < nf
            · obtain ⟨b, off, rfl, hc0', hc1', hc2', hc3', hc4', hc5'⟩ := hf j3 hlt3
              clear hf
              have hc0 := (hb.cell (World.block_lt_of_cell? w _ hc0')).trans hc0'
              have hc1 := (hb.cell (World.block_lt_of_cell? w _ hc1')).trans hc1'
              have hc2 := (hb.cell (World.block_lt_of_cell? w _ hc2')).trans hc2'
              have hc3 := (hb.cell (World.block_lt_of_cell? w _ hc3')).trans hc3'
              have hc4 := (hb.cell (World.block_lt_of_cell? w _ hc4')).trans hc4'
              have hc5 := (hb.cell (World.block_lt_of_cell? w _ hc5')).trans hc5'
              clear hc0' hc1' hc2' hc3' hc4' hc5'
              have hsz := hb.size
              go_wp2
              all_goals first
                | (go_ret; exact ⟨.inr rfl, hb.alloc hsz _⟩)
                | (go_roundw
                   case rel => first | exact ⟨_, j3 + 1, rfl, by go_num, by omega, by omega, by omega, hb.alloc hsz _⟩ | ((repeat apply Exists.intro); exact ⟨⟨_, j3 + 1, rfl, by go_num, by omega, by omega, by omega, hb.alloc hsz _⟩, rfl⟩)
                   case measure => simp [intOf]; omega)
            · go_wp2
              all_goals
                go_ret
                first
                  | exact ⟨.inl rfl, hb⟩
                  | exact ⟨.inr rfl, hb⟩
end Go.Proofs.Qxb6634845a
