/-
  THE PLAIN LAW ON INTEGERS: what Percent divides by 100 is the nearest whole number, ties up; free of scale and of sign. No Go in sight.
-/
import Derived.Test.Qxb6627925aWalks
namespace Go.Proofs.Qxb6627925a

theorem hund_pos (p w : Int) (h1 : 0 ≤ p) (h2 : 0 < w) : hund p w = if w ≤ 2 * (p * 10000 % w) then p * 10000 / w + 1 else p * 10000 / w := by
  unfold hund
  rw [Int.tdiv_eq_ediv_of_nonneg (by omega)]
  have hd := Int.mul_ediv_add_emod (p * 10000) w
  have r0 := Int.emod_nonneg (p * 10000) (show w ≠ 0 by omega)
  have r1 := Int.emod_lt_of_pos (p * 10000) h2
  generalize p * 10000 / w = q at *
  generalize p * 10000 % w = r at *
  have e2 : 2 * w * q = 2 * (w * q) := Int.mul_assoc ..
  split
  · rename_i c
    refine ((Int.ediv_emod_unique (show 0 < 2 * w by omega)).2 ⟨?_, ?_, ?_⟩ : _ ∧ _ = 2 * r - w).1
    · rw [Int.mul_add, Int.mul_one, e2]; omega
    · omega
    · omega
  · rename_i c
    refine ((Int.ediv_emod_unique (show 0 < 2 * w by omega)).2 ⟨?_, ?_, ?_⟩ : _ ∧ _ = 2 * r + w).1
    · rw [e2]; omega
    · omega
    · omega

theorem hund_neg (p w : Int) : hund (-p) (-w) = hund p w := by
  unfold hund
  rw [show -p * 10000 * 2 + -w = -(p * 10000 * 2 + w) by omega, show 2 * -w = -(2 * w) by omega, Int.neg_tdiv_neg]

theorem hund_scale (p w k : Int) (h : 0 < k) : hund (p * k) (w * k) = hund p w := by
  unfold hund
  have e1 : p * k * 10000 * 2 + w * k = (p * 10000 * 2 + w) * k := by
    rw [Int.add_mul, Int.mul_right_comm p k 10000, Int.mul_right_comm (p * 10000) k 2]
  have e2 : 2 * (w * k) = 2 * w * k := (Int.mul_assoc ..).symm
  rw [e1, e2, Int.mul_comm _ k, Int.mul_comm (2 * w) k, Int.mul_tdiv_mul_of_pos _ _ h]

theorem hund_full (w : Int) (h : w ≠ 0) : hund w w = 10000 := by
  have key : ∀ v : Int, 0 < v → hund v v = 10000 := by
    intro v hv
    rw [hund_pos v v (by omega) hv]
    have e : v * 10000 / v = 10000 := Int.mul_ediv_cancel_left _ (by omega)
    have e' : v * 10000 % v = 0 := Int.mul_emod_right ..
    rw [e, e', if_neg (by omega)]
  rcases Int.lt_or_gt_of_ne h with h | h
  · have := key (-w) (by omega)
    rwa [hund_neg] at this
  · exact key w h

theorem tdiv_mono {a b c : Int} (h : a ≤ b) (hc : 0 < c) : a.tdiv c ≤ b.tdiv c := by
  by_cases ha : 0 ≤ a
  · rw [Int.tdiv_eq_ediv_of_nonneg ha, Int.tdiv_eq_ediv_of_nonneg (by omega)]
    exact Int.ediv_le_ediv hc h
  · by_cases hb : 0 ≤ b
    · rw [Int.tdiv_eq_ediv_of_nonneg hb]
      have h1 : 0 ≤ b / c := Int.ediv_nonneg hb (by omega)
      have h2 : a.tdiv c = -((-a).tdiv c) := by rw [Int.neg_tdiv, Int.neg_neg]
      rw [h2, Int.tdiv_eq_ediv_of_nonneg (by omega)]
      have h3 : 0 ≤ -a / c := Int.ediv_nonneg (by omega) (by omega)
      omega
    · have h1 : a.tdiv c = -((-a).tdiv c) := by rw [Int.neg_tdiv, Int.neg_neg]
      have h2 : b.tdiv c = -((-b).tdiv c) := by rw [Int.neg_tdiv, Int.neg_neg]
      rw [h1, h2, Int.tdiv_eq_ediv_of_nonneg (by omega), Int.tdiv_eq_ediv_of_nonneg (by omega)]
      have := Int.ediv_le_ediv hc (show -b ≤ -a by omega)
      omega

theorem hund_mono (p q w : Int) (h : p ≤ q) (hw : 0 < w) : hund p w ≤ hund q w := by
  unfold hund
  exact tdiv_mono (by omega) (by omega)

theorem hund_anti (p q w : Int) (h : p ≤ q) (hw : w < 0) : hund q w ≤ hund p w := by
  have := hund_mono (-q) (-p) (-w) (by omega) (by omega)
  rwa [hund_neg, hund_neg] at this
end Go.Proofs.Qxb6627925a
