/-
  Plain facts on the text of Dollars: no Go in sight.
-/
import Derived.Test.Qxb6627960aFmtWalks
namespace Go.Proofs.Qxb6627960aFmt
open Go.Extern

theorem digits_are (u : Nat) : ∀ c ∈ Lib.decDigits u, 48 ≤ c.toNat ∧ c.toNat ≤ 57 := by
  induction u using Nat.strongRecOn with
  | _ u ih =>
    intro c hc
    rw [Lib.decDigits] at hc
    split at hc
    · simp at hc
      subst hc
      simp
      omega
    · rename_i h
      rcases List.mem_append.1 hc with hc | hc
      · exact ih (u / 10) (by omega) c hc
      · simp at hc
        subst hc
        have : u % 10 < 10 := Nat.mod_lt _ (by decide)
        simp
        omega

theorem nDigits_le (k : Nat) : ∀ u, u < 10 ^ (k + 1) → Lib.nDigits u ≤ k + 1 := by
  induction k with
  | zero => intro u h; rw [Lib.nDigits_small (by simpa using h)]; omega
  | succ k ih =>
    intro u h
    by_cases c : u < 10
    · rw [Lib.nDigits_small c]; omega
    · rw [Lib.nDigits_big c]
      have := ih (u / 10) (by rw [Nat.pow_succ] at h; omega)
      omega

theorem zeros6_length (b : Nat) (h : b < 1000000) : (FmtText.zeros 6 (b : Int)).length = 6 := by
  have := nDigits_le 5 b (by simpa using h)
  rw [FmtText.zeros, if_neg (by omega)]
  simp [Lib.decDigits_length]
  omega

theorem itoa_nat (a : Nat) : Lib.itoa (a : Int) = Lib.decDigits a := by
  rw [Lib.itoa, if_neg (by omega)]; rfl

theorem dStr_size {m : Int} (h : 0 ≤ m) : (dStr m).size = 7 + Lib.nDigits (m.natAbs / 1000000) := by
  have hz := zeros6_length (m.natAbs % 1000000) (Nat.mod_lt _ (by decide))
  unfold dStr sgn dText
  rw [if_neg (by omega)]
  simp only [ByteArray.size, List.size_toArray, List.length_append, hz, itoa_nat, Lib.decDigits_length, List.length_nil, List.length_cons]
  omega

theorem dStr_first {m : Int} (h : 0 ≤ m) (hs : 0 < (dStr m).size) : (((dStr m)[0]'hs).toNat : Int) ≠ 45 := by
  have hne : Lib.decDigits (m.natAbs / 1000000) ≠ [] := by
    intro e
    have := congrArg List.length e
    rw [Lib.decDigits_length] at this
    have := Lib.nDigits_pos (m.natAbs / 1000000)
    simp at *
    omega
  obtain ⟨c, l, e⟩ := List.exists_cons_of_ne_nil hne
  have hc := digits_are (m.natAbs / 1000000) c (by rw [e]; simp)
  have e2 : (dStr m)[0]'hs = c := by
    show (dStr m).data[0]'hs = c
    unfold dStr sgn dText
    simp only [if_neg (show ¬ m < 0 by omega), itoa_nat, e, List.nil_append]
    rfl
  rw [e2]
  omega

theorem dStr_neg {m : Int} (h : 0 < m) : dStr (-m) = { data := #[45] } ++ dStr m := by
  apply ByteArray.ext
  rw [ByteArray.data_append]
  unfold dStr sgn dText
  rw [if_pos (by omega), if_neg (by omega), Int.natAbs_neg]
  simp
end Go.Proofs.Qxb6627960aFmt
