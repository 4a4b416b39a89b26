/-
  The walks of isDigit (14), parseDollars (7).
-/
import Derived.Test.Qxb6627960aFmtRows
import Derived.WalkKit
import Derived.WalkSpells
import Derived.WalkLawsBesides
namespace Go.Proofs.Qxb6627960aFmt
open Go.RowKit

set_option maxHeartbeats 400000 in
theorem isDigit_yes (c : Int) (w : World) (h0 : 48 ≤ c) (h1 : c ≤ 57) :
    Calls Tryf.prog 14 #[.int .u8 c] w fun e w' => e = .returned (.bool true) ∧ w' = w := by
  go_enter Tryf.func14, Tryf.ntmps14
  go_wp2
  go_ret
  exact ⟨rfl, rfl⟩

set_option maxHeartbeats 400000 in
theorem isDigit_no (c : Int) (w : World) (h0 : c < 48) :
    Calls Tryf.prog 14 #[.int .u8 c] w fun e w' => e = .returned (.bool false) ∧ w' = w := by
  have h1 : ¬ 48 ≤ c := by omega
  go_enter Tryf.func14, Tryf.ntmps14
  go_wp2
  go_ret
  exact ⟨rfl, rfl⟩

set_option maxHeartbeats 1000000 in
theorem parse_pos (S I Fr : ByteArray) (e : Nat) (w : World)
    (hsz : S.size = e + 7) (he0 : 0 < e) (he : e ≤ 13 + 0)
    (h45 : ∀ h : 0 < S.size, ((S[0].toNat : Int) == 45) = false)
    (hdig : ∀ (j : Nat) (h : j < S.size), 0 ≤ j → j < e → 48 ≤ S[j].toNat ∧ S[j].toNat ≤ 57)
    (hdot : ∀ h : e < S.size, S[e].toNat = 46)
    (hI : S.extract 0 e = I) (hIs : I.size = e - 0) (hI0 : 1 < e - 0 → ∀ h : 0 < I.size, ((I[0].toNat : Int) == 48) = false)
    (hF : S.extract (e + 1) S.size = Fr) (hFs : Fr.size = 6) (hFd : ∀ (j : Nat) (h : j < Fr.size), 48 ≤ Fr[j].toNat ∧ Fr[j].toNat ≤ 57) :
    Calls Tryf.prog 7 #[.string S] w fun x w' => x = .returned (.tuple #[.bool false, .string I, .string Fr, .bool true]) ∧ w' = w := by
  have hs0 : 0 < S.size := by omega
  have h45' := h45 hs0
  have hle : S.size ≤ 21 := by omega
  have hle' : e + 7 ≤ S.size := by omega
  have HI : Hid (S.extract 0 e = I) := hI
  have HIS : Hid (I.size = e - 0) := hIs
  have HF : Hid (S.extract (e + 1) S.size = Fr) := hF
  have HFS : Hid (Fr.size = 6) := hFs
  clear hI hF hIs hFs hsz h45
  go_enter Tryf.func7, Tryf.ntmps7
  go_wp2_with fail
  go_loop [6] (fun i => ∃ k : Nat, i = .int .i64 k ∧ 0 ≤ k ∧ k ≤ e) (fun i => e - (intOf i).toNat)
  case atStart => exact ⟨0, rfl, by omega, by omega⟩
  case round =>
    obtain ⟨k, rfl, hk0, hk⟩ := hrel
    by_cases hlt : k < e
    · have hd := hdig k (by omega) hk0 hlt
      have hks : k < S.size := by omega
      go_wp2_with (go_at_call 14; refine (isDigit_yes _ _ (by omega) (by omega)).mono ?_; rintro x w' ⟨rfl, rfl⟩)
      go_round
      case rel => exact ⟨k + 1, by go_num, by omega, by omega⟩
      case measure => simp [intOf]; omega
    · obtain rfl : k = e := by omega
      have hd := hdot (by omega)
      have hd' : S[k].toNat < 48 := by omega
      have hd3 : ((S[k].toNat : Int) != 46) = false := by simp [hd]
      clear hd
      have hks : k < S.size := by omega
      have hI2 := HI.out
      have hF2 := HF.out
      have hge : ¬ S.size ≤ k := by omega
      have hi1 : 0 < I.size := by have := HIS.out; omega
      have hi2 : I.size ≤ 13 := by have := HIS.out; omega
      have hi3 : ((I.size : Int) == 0) = false := by rw [beq_eq_false_iff_ne]; omega
      have hf1 : 6 ≤ Fr.size := by have := HFS.out; omega
      have hf2 : Fr.size ≤ 6 := by have := HFS.out; omega
      have hf3 : ((Fr.size : Int) != 6) = false := by rw [bne_eq_false_iff_eq]; omega
      by_cases h1 : (1 : Int) < (I.size : Int)
      all_goals
        first | (have h48 := hI0 (by have := HIS.out; omega) hi1) | skip
        clear hI0 hdot hdig
        go_wp2_with (go_at_call 14; refine (isDigit_no _ _ (by omega)).mono ?_; rintro x w' ⟨rfl, rfl⟩)
        go_loop [8] (fun i => ∃ j : Nat, i = .int .i64 j ∧ j ≤ 6) (fun i => 6 - (intOf i).toNat)
        case atStart => exact ⟨0, rfl, by omega⟩
        case round =>
          obtain ⟨j, rfl, hj⟩ := hrel
          by_cases hlt2 : j < 6
          · have hd4 := hFd j (by omega)
            have hjs : j < Fr.size := by omega
            go_wp2_with (go_at_call 14; refine (isDigit_yes _ _ (by omega) (by omega)).mono ?_; rintro x w' ⟨rfl, rfl⟩)
            go_round
            case rel => exact ⟨j + 1, by go_num, by omega⟩
            case measure => simp [intOf]; omega
          · go_wp2_with fail
            exact bodyPost_ret (v := .tuple #[.bool false, .string I, .string Fr, .bool true]) (by simp [results, Tryf.results7, go_sem]) rfl ⟨rfl, rfl⟩

set_option maxHeartbeats 1000000 in
theorem parse_neg (S I Fr : ByteArray) (e : Nat) (w : World)
    (hsz : S.size = e + 7) (he0 : 1 < e) (he : e ≤ 13 + 1)
    (h45 : ∀ h : 0 < S.size, ((S[0].toNat : Int) == 45) = true)
    (hdig : ∀ (j : Nat) (h : j < S.size), 1 ≤ j → j < e → 48 ≤ S[j].toNat ∧ S[j].toNat ≤ 57)
    (hdot : ∀ h : e < S.size, S[e].toNat = 46)
    (hI : S.extract 1 e = I) (hIs : I.size = e - 1) (hI0 : 1 < e - 1 → ∀ h : 0 < I.size, ((I[0].toNat : Int) == 48) = false)
    (hF : S.extract (e + 1) S.size = Fr) (hFs : Fr.size = 6) (hFd : ∀ (j : Nat) (h : j < Fr.size), 48 ≤ Fr[j].toNat ∧ Fr[j].toNat ≤ 57) :
    Calls Tryf.prog 7 #[.string S] w fun x w' => x = .returned (.tuple #[.bool true, .string I, .string Fr, .bool true]) ∧ w' = w := by
  have hs0 : 0 < S.size := by omega
  have h45' := h45 hs0
  have hle : S.size ≤ 21 := by omega
  have hle' : e + 7 ≤ S.size := by omega
  have HI : Hid (S.extract 1 e = I) := hI
  have HIS : Hid (I.size = e - 1) := hIs
  have HF : Hid (S.extract (e + 1) S.size = Fr) := hF
  have HFS : Hid (Fr.size = 6) := hFs
  clear hI hF hIs hFs hsz h45
  go_enter Tryf.func7, Tryf.ntmps7
  go_wp2_with fail
  go_loop [6] (fun i => ∃ k : Nat, i = .int .i64 k ∧ 1 ≤ k ∧ k ≤ e) (fun i => e - (intOf i).toNat)
  case atStart => exact ⟨1, rfl, by omega, by omega⟩
  case round =>
    obtain ⟨k, rfl, hk0, hk⟩ := hrel
    by_cases hlt : k < e
    · have hd := hdig k (by omega) hk0 hlt
      have hks : k < S.size := by omega
      go_wp2_with (go_at_call 14; refine (isDigit_yes _ _ (by omega) (by omega)).mono ?_; rintro x w' ⟨rfl, rfl⟩)
      go_round
      case rel => exact ⟨k + 1, by go_num, by omega, by omega⟩
      case measure => simp [intOf]; omega
    · obtain rfl : k = e := by omega
      have hd := hdot (by omega)
      have hd' : S[k].toNat < 48 := by omega
      have hd3 : ((S[k].toNat : Int) != 46) = false := by simp [hd]
      clear hd
      have hks : k < S.size := by omega
      have hI2 := HI.out
      have hF2 := HF.out
      have hge : ¬ S.size ≤ k := by omega
      have hi1 : 0 < I.size := by have := HIS.out; omega
      have hi2 : I.size ≤ 13 := by have := HIS.out; omega
      have hi3 : ((I.size : Int) == 0) = false := by rw [beq_eq_false_iff_ne]; omega
      have hf1 : 6 ≤ Fr.size := by have := HFS.out; omega
      have hf2 : Fr.size ≤ 6 := by have := HFS.out; omega
      have hf3 : ((Fr.size : Int) != 6) = false := by rw [bne_eq_false_iff_eq]; omega
      by_cases h1 : (1 : Int) < (I.size : Int)
      all_goals
        first | (have h48 := hI0 (by have := HIS.out; omega) hi1) | skip
        clear hI0 hdot hdig
        go_wp2_with (go_at_call 14; refine (isDigit_no _ _ (by omega)).mono ?_; rintro x w' ⟨rfl, rfl⟩)
        go_loop [8] (fun i => ∃ j : Nat, i = .int .i64 j ∧ j ≤ 6) (fun i => 6 - (intOf i).toNat)
        case atStart => exact ⟨0, rfl, by omega⟩
        case round =>
          obtain ⟨j, rfl, hj⟩ := hrel
          by_cases hlt2 : j < 6
          · have hd4 := hFd j (by omega)
            have hjs : j < Fr.size := by omega
            go_wp2_with (go_at_call 14; refine (isDigit_yes _ _ (by omega) (by omega)).mono ?_; rintro x w' ⟨rfl, rfl⟩)
            go_round
            case rel => exact ⟨j + 1, by go_num, by omega⟩
            case measure => simp [intOf]; omega
          · go_wp2_with fail
            exact bodyPost_ret (v := .tuple #[.bool true, .string I, .string Fr, .bool true]) (by simp [results, Tryf.results7, go_sem]) rfl ⟨rfl, rfl⟩

end Go.Proofs.Qxb6627960aFmt
