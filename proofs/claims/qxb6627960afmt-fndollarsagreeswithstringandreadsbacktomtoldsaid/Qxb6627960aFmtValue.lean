/-
  The walk of valueOf (8).
-/
import Derived.Test.Qxb6627960aFmtRows
import Derived.WalkKit
import Derived.WalkSpells
import Derived.WalkLawsBesides
namespace Go.Proofs.Qxb6627960aFmt
open Go.RowKit

/-- The number that a text of decimal digits stands for. -/
def val (l : List UInt8) : Nat := l.foldl (fun v c => v * 10 + (c.toNat - 48)) 0

theorem val_snoc (l : List UInt8) (c : UInt8) : val (l ++ [c]) = val l * 10 + (c.toNat - 48) := by
  simp [val, List.foldl_append]

theorem val_lt (n : Nat) : ∀ l : List UInt8, l.length ≤ n → (∀ c ∈ l, 48 ≤ c.toNat ∧ c.toNat ≤ 57) → val l < 10 ^ n := by
  induction n with
  | zero => intro l h _; obtain rfl : l = [] := List.length_eq_zero_iff.1 (by omega); decide
  | succ n ih =>
    intro l h hd
    rcases List.eq_nil_or_concat l with rfl | ⟨l', c, rfl⟩
    · exact Nat.pow_pos (by decide)
    · rw [List.concat_eq_append] at h hd ⊢
      rw [val_snoc]
      have h1 := ih l' (by simp at h; omega) (fun x hx => hd x (by simp [hx]))
      have h2 := hd c (by simp)
      rw [Nat.pow_succ]
      omega

theorem take_snoc (s : ByteArray) (k : Nat) (h : k < s.size) : s.data.toList.take (k + 1) = s.data.toList.take k ++ [s[k]] := by
  rw [List.take_succ_eq_append_getElem (by simpa using h)]; rfl

theorem take_all (s : ByteArray) : s.data.toList.take s.size = s.data.toList :=
  List.take_of_length_le (Nat.le_of_eq Array.length_toList)

theorem mem_take_digit (s : ByteArray) (hd : ∀ c ∈ s.data.toList, 48 ≤ c.toNat ∧ c.toNat ≤ 57) (k n : Nat) (h : k ≤ n) : val (s.data.toList.take k) < 10 ^ n := by
  refine val_lt n _ ?_ (fun c hc => hd c (List.mem_of_mem_take hc))
  have := List.length_take_le k s.data.toList
  omega

theorem at_digit (s : ByteArray) (hd : ∀ c ∈ s.data.toList, 48 ≤ c.toNat ∧ c.toNat ≤ 57) (k : Nat) (h : k < s.size) : 48 ≤ s[k].toNat ∧ s[k].toNat ≤ 57 :=
  hd _ (Array.getElem_mem_toList _)

set_option maxHeartbeats 1000000 in
theorem valueOf_any (I Fr : ByteArray) (w : World) (hI : I.size ≤ 13) (hF : Fr.size ≤ 6)
    (dI : ∀ c ∈ I.data.toList, 48 ≤ c.toNat ∧ c.toNat ≤ 57) (dF : ∀ c ∈ Fr.data.toList, 48 ≤ c.toNat ∧ c.toNat ≤ 57) :
    Calls Tryf.prog 8 #[.string I, .string Fr] w fun x w' => x = .returned (.int .u64 ((val I.data.toList * 1000000 + val Fr.data.toList : Nat) : Int)) ∧ w' = w := by
  go_enter Tryf.func8, Tryf.ntmps8
  go_wp2
  go_loop [5, 6] (fun v j => ∃ k a : Nat, j = .int .i64 k ∧ k ≤ I.size ∧ v = .int .u64 a ∧ Hid (a = val (I.data.toList.take k))) (fun _ j => I.size - (intOf j).toNat)
  case atStart => exact ⟨0, 0, rfl, by omega, rfl, rfl⟩
  case round =>
    obtain ⟨k, a, rfl, hk, rfl, H⟩ := hrel
    by_cases hlt : k < I.size
    · have hb : a < 10 ^ 12 := by have h1 := mem_take_digit I dI k 12 (by omega); have h2 : a = _ := H; omega
      have hb' : a ≤ 999999999999 := by omega
      have hd := at_digit I dI k hlt
      have H2 : Hid (a * 10 + (I[k].toNat - 48) = val (I.data.toList.take (k + 1))) := by
        show a * 10 + _ = _; rw [take_snoc I k hlt, val_snoc, ← (show a = _ from H)]
      clear hb
      go_wp2
      go_round
      case rel => exact ⟨k + 1, a * 10 + (I[k].toNat - 48), by go_num, by omega, by go_num, H2⟩
      case measure => simp [intOf]; omega
    · obtain rfl : k = I.size := by omega
      have hb : a < 10 ^ 13 := by have h1 := mem_take_digit I dI I.size 13 hI; have h2 : a = _ := H; omega
      have hb' : a ≤ 9999999999999 := by omega
      have H3 : Hid (a = val I.data.toList) := by
        show a = _; rw [(show a = _ from H), take_all]
      clear hb H
      go_wp2
      go_loop [7, 8] (fun v j => ∃ k b : Nat, j = .int .i64 k ∧ k ≤ Fr.size ∧ v = .int .u64 b ∧ Hid (b = val (Fr.data.toList.take k))) (fun _ j => Fr.size - (intOf j).toNat)
      case atStart => exact ⟨0, 0, rfl, by omega, rfl, rfl⟩
      case round =>
        obtain ⟨k, b, rfl, hk, rfl, H⟩ := hrel
        by_cases hlt : k < Fr.size
        · have hb : b < 10 ^ 5 := by have h1 := mem_take_digit Fr dF k 5 (by omega); have h2 : b = _ := H; omega
          have hb2 : b ≤ 99999 := by omega
          have hd := at_digit Fr dF k hlt
          have H2 : Hid (b * 10 + (Fr[k].toNat - 48) = val (Fr.data.toList.take (k + 1))) := by
            show b * 10 + _ = _; rw [take_snoc Fr k hlt, val_snoc, ← (show b = _ from H)]
          clear hb
          go_wp2
          go_round
          case rel => exact ⟨k + 1, b * 10 + (Fr[k].toNat - 48), by go_num, by omega, by go_num, H2⟩
          case measure => simp [intOf]; omega
        · obtain rfl : k = Fr.size := by omega
          have hb : b < 10 ^ 6 := by have h1 := mem_take_digit Fr dF Fr.size 6 hF; have h2 : b = _ := H; omega
          have hb2 : b ≤ 999999 := by omega
          have H4 : Hid (b = val Fr.data.toList) := by
            show b = _; rw [(show b = _ from H), take_all]
          clear hb H
          go_wp2
          go_ret
          refine ⟨?_, rfl⟩
          rw [← (show a = _ from H3), ← (show b = _ from H4)]
          go_num
end Go.Proofs.Qxb6627960aFmt
