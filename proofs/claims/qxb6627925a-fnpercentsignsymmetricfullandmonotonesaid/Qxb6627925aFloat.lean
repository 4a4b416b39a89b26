/-
  THE PLAIN LAW ON FLOATS: 'float64(n) / 100' is no NaN and rises with n. Over Ieee's own functions; no Go in sight.
-/
import Derived.Laws.FloatArith
namespace Go.Proofs.Qxb6627925a.Fl
open Ieee

/-- k is n / g rounded to the nearest whole number, ties to even. -/
def Rhe (n g k : Nat) : Prop := 2 * n ≤ (2 * k + 1) * g ∧ 2 * k * g ≤ 2 * n + g ∧ (2 * n = (2 * k + 1) * g → k % 2 = 0) ∧ (2 * k * g = 2 * n + g → k % 2 = 0)

theorem rhe_mono {n1 g1 k1 n2 g2 k2 : Nat} (p1 : 0 < g1) (p2 : 0 < g2) (h1 : Rhe n1 g1 k1) (h2 : Rhe n2 g2 k2) (h : n1 * g2 ≤ n2 * g1) : k1 ≤ k2 := by
  obtain ⟨a1, b1, c1, d1⟩ := h1
  obtain ⟨a2, b2, c2, d2⟩ := h2
  refine Decidable.byContradiction fun hn => ?_
  have hk : k2 + 1 ≤ k1 := by omega
  -- (2k2+1) g1 ≤ 2 n1
  have e1 : (2 * k2 + 1) * g1 + g1 ≤ 2 * k1 * g1 := by
    have := Nat.mul_le_mul_right g1 (show 2 * k2 + 1 + 1 ≤ 2 * k1 by omega)
    rw [Nat.add_mul, Nat.one_mul] at this
    exact this
  have e2 : (2 * k2 + 1) * g1 ≤ 2 * n1 := by omega
  have f1 := Nat.mul_le_mul_right g2 e2
  have f2 := Nat.mul_le_mul_right g1 a2
  have f3 : (2 * k2 + 1) * g1 * g2 = (2 * k2 + 1) * g2 * g1 := Nat.mul_right_comm ..
  have f4 : 2 * n1 * g2 = 2 * (n1 * g2) := Nat.mul_assoc ..
  have f5 : 2 * n2 * g1 = 2 * (n2 * g1) := Nat.mul_assoc ..
  have q1 : 2 * n2 * g1 = (2 * k2 + 1) * g2 * g1 := by omega
  have q2 : 2 * n1 * g2 = (2 * k2 + 1) * g1 * g2 := by omega
  have r1 : 2 * n2 = (2 * k2 + 1) * g2 := Nat.eq_of_mul_eq_mul_right p1 q1
  have r2 : 2 * n1 = (2 * k2 + 1) * g1 := Nat.eq_of_mul_eq_mul_right p2 q2
  have s1 := c2 r1
  have s2 : 2 * k1 * g1 ≤ (2 * k2 + 1 + 1) * g1 := by rw [Nat.add_mul, Nat.one_mul]; omega
  have s3 : 2 * k1 ≤ 2 * k2 + 1 + 1 := Nat.le_of_mul_le_mul_right s2 p1
  have s4 : k1 = k2 + 1 := by omega
  subst s4
  have s5 := d1 (by rw [r2]; rw [show 2 * (k2 + 1) = 2 * k2 + 1 + 1 by omega, Nat.add_mul (2 * k2 + 1), Nat.one_mul])
  omega

theorem rhe_le {n g k c : Nat} (p : 0 < g) (h : Rhe n g k) (hc : n < c * g) : k ≤ c := by
  obtain ⟨-, b, -, -⟩ := h
  refine Decidable.byContradiction fun hn => ?_
  have h1 := Nat.mul_le_mul_right g (show 2 * c + 2 ≤ 2 * k by omega)
  have h2 : (2 * c + 2) * g = 2 * (c * g) + 2 * g := by rw [Nat.add_mul, Nat.mul_assoc]
  omega

theorem le_rhe {n g k c : Nat} (p : 0 < g) (h : Rhe n g k) (hc : c * g ≤ n) : c ≤ k := by
  obtain ⟨a, -, -, -⟩ := h
  refine Decidable.byContradiction fun hn => ?_
  have h1 := Nat.mul_le_mul_right g (show 2 * k + 2 ≤ 2 * c by omega)
  have h2 : (2 * k + 2) * g = (2 * k + 1) * g + g := by rw [show 2 * k + 2 = 2 * k + 1 + 1 by omega, Nat.add_mul (2 * k + 1), Nat.one_mul]
  have h3 : 2 * c * g = 2 * (c * g) := Nat.mul_assoc ..
  omega

theorem rhe_of {n g : Nat} (p : 0 < g) : Rhe n g (n / g + (decide (g < 2 * (n % g)) || (g == 2 * (n % g) && n / g % 2 == 1)).toNat) := by
  have hd := Nat.div_add_mod n g
  have hm := Nat.mod_lt n p
  generalize hq : n / g = q at *
  generalize hr : n % g = r at *
  have hqg : g * q = q * g := Nat.mul_comm ..
  unfold Rhe
  by_cases c1 : g < 2 * r
  · have : (decide (g < 2 * r) || (g == 2 * r && q % 2 == 1)).toNat = 1 := by simp [c1]
    rw [this]
    have e1 : (2 * (q + 1) + 1) * g = 2 * (q * g) + 3 * g := by rw [show 2 * (q + 1) + 1 = 2 * q + 3 by omega, Nat.add_mul, Nat.mul_assoc]
    have e2 : 2 * (q + 1) * g = 2 * (q * g) + 2 * g := by rw [show 2 * (q + 1) = 2 * q + 2 by omega, Nat.add_mul, Nat.mul_assoc]
    rw [e1, e2]
    refine ⟨by omega, by omega, fun h => by omega, fun h => by omega⟩
  · by_cases c2 : g = 2 * r
    · by_cases c3 : q % 2 = 1
      · have : (decide (g < 2 * r) || (g == 2 * r && q % 2 == 1)).toNat = 1 := by simp [c2, c3]
        rw [this]
        have e1 : (2 * (q + 1) + 1) * g = 2 * (q * g) + 3 * g := by rw [show 2 * (q + 1) + 1 = 2 * q + 3 by omega, Nat.add_mul, Nat.mul_assoc]
        have e2 : 2 * (q + 1) * g = 2 * (q * g) + 2 * g := by rw [show 2 * (q + 1) = 2 * q + 2 by omega, Nat.add_mul, Nat.mul_assoc]
        rw [e1, e2]
        refine ⟨by omega, by omega, fun h => by omega, fun h => by omega⟩
      · have : (decide (g < 2 * r) || (g == 2 * r && q % 2 == 1)).toNat = 0 := by simp [c1]; intro _; omega
        rw [this]
        have e1 : (2 * (q + 0) + 1) * g = 2 * (q * g) + g := by rw [show q + 0 = q from rfl, Nat.add_mul, Nat.mul_assoc, Nat.one_mul]
        have e2 : 2 * (q + 0) * g = 2 * (q * g) := by rw [show q + 0 = q from rfl, Nat.mul_assoc]
        rw [e1, e2]
        refine ⟨by omega, by omega, fun h => by omega, fun h => by omega⟩
    · have : (decide (g < 2 * r) || (g == 2 * r && q % 2 == 1)).toNat = 0 := by simp [c1, c2]
      rw [this]
      have e1 : (2 * (q + 0) + 1) * g = 2 * (q * g) + g := by rw [show q + 0 = q from rfl, Nat.add_mul, Nat.mul_assoc, Nat.one_mul]
      have e2 : 2 * (q + 0) * g = 2 * (q * g) := by rw [show q + 0 = q from rfl, Nat.mul_assoc]
      rw [e1, e2]
      refine ⟨by omega, by omega, fun h => by omega, fun h => by omega⟩

theorem cut_rhe (neg : Bool) (n drop : Nat) : Rhe n (2 ^ drop) (Toward.even.cut neg n drop) := by
  unfold Toward.cut
  dsimp only
  rw [Nat.one_shiftLeft]
  by_cases h : drop ≤ n.log2 + 2
  · rw [Nat.min_eq_left h]
    exact rhe_of (Nat.two_pow_pos _)
  · rw [Nat.min_eq_right (by omega)]
    have h1 : n < 2 ^ (n.log2 + 1) := Nat.lt_log2_self
    have h2 : 2 ^ (n.log2 + 2) = 2 * 2 ^ (n.log2 + 1) := by rw [show n.log2 + 2 = n.log2 + 1 + 1 by omega, Nat.pow_succ]; omega
    have h3 : 2 ^ (n.log2 + 2) ≤ 2 ^ drop := Nat.pow_le_pow_right (by omega) (by omega)
    rw [Nat.div_eq_of_lt (by omega), Nat.mod_eq_of_lt (by omega)]
    have : (decide (2 ^ (n.log2 + 2) < 2 * n) || (2 ^ (n.log2 + 2) == 2 * n && 0 % 2 == 1)).toNat = 0 := by simp; omega
    rw [this]
    unfold Rhe
    refine ⟨by omega, by omega, fun _ => by omega, fun _ => by omega⟩

/-- 'm * 2 ^ p' is at most 'm' * 2 ^ p''. -/
def Le (m : Nat) (p : Int) (m' : Nat) (p' : Int) : Prop := ∃ a b : Nat, (a : Int) - b = p - p' ∧ m * 2 ^ a ≤ m' * 2 ^ b

theorem Le.at {m m' : Nat} {p p' : Int} (h : Le m p m' p') (a b : Nat) (e : (a : Int) - b = p - p') : m * 2 ^ a ≤ m' * 2 ^ b := by
  obtain ⟨c, d, e', h⟩ := h
  rcases Nat.le_total c a with hc | hc
  · obtain ⟨k, rfl⟩ := Nat.exists_eq_add_of_le hc
    obtain rfl : b = d + k := by omega
    rw [Nat.pow_add, Nat.pow_add, ← Nat.mul_assoc, ← Nat.mul_assoc]
    exact Nat.mul_le_mul_right _ h
  · obtain ⟨k, rfl⟩ := Nat.exists_eq_add_of_le hc
    obtain rfl : d = b + k := by omega
    rw [Nat.pow_add, Nat.pow_add, ← Nat.mul_assoc, ← Nat.mul_assoc] at h
    exact Nat.le_of_mul_le_mul_right h (Nat.two_pow_pos k)

/-- The rung that 'nearest' finds. -/
def rung (f : Format) (mag : Nat) (place : Int) : Nat :=
  if mag = 0 then 0 else
    min ((max (place + mag.log2 - f.fractionBits) f.leastPlace - f.leastPlace).toNat * f.binade + Toward.even.cut false (mag <<< (place - max (place + mag.log2 - f.fractionBits) f.leastPlace).toNat) (max (place + mag.log2 - f.fractionBits) f.leastPlace - place).toNat) f.infRung

theorem cut_neg (neg : Bool) (n d : Nat) : Toward.even.cut neg n d = Toward.even.cut false n d := rfl

theorem nearest_eq (f : Format) (neg : Bool) (mag : Nat) (place : Int) : f.nearest neg mag place = f.word neg (rung f mag place) := by
  unfold Format.nearest rung
  split
  · rfl
  · dsimp only
    rw [cut_neg]

theorem rung_le (f : Format) (mag : Nat) (place : Int) : rung f mag place ≤ f.infRung := by
  unfold rung
  split
  · exact Nat.zero_le _
  · exact Nat.min_le_right ..

theorem rung_mono (f : Format) {m m' : Nat} {p p' : Int} (h : Le m p m' p') (hm' : m' ≠ 0) : rung f m p ≤ rung f m' p' := by
  by_cases hm : m = 0
  · unfold rung; rw [if_pos hm]; exact Nat.zero_le _
  unfold rung
  rw [if_neg hm, if_neg hm']
  -- the logarithms
  have l1 := Nat.log2_self_le hm
  have l2 : m' < 2 ^ (m'.log2 + 1) := Nat.lt_log2_self
  have l1' : m < 2 ^ (m.log2 + 1) := Nat.lt_log2_self
  have l2' := Nat.log2_self_le hm'
  have hlog : p + m.log2 ≤ p' + m'.log2 := by
    have h0 := h.at (p - min p p').toNat (p' - min p p').toNat (by omega)
    have h1 : 2 ^ (m.log2 + (p - min p p').toNat) < 2 ^ (m'.log2 + 1 + (p' - min p p').toNat) := by
      rw [Nat.pow_add, Nat.pow_add _ (m'.log2 + 1)]
      refine Nat.lt_of_le_of_lt (Nat.mul_le_mul_right _ l1) (Nat.lt_of_le_of_lt h0 ?_)
      exact Nat.mul_lt_mul_of_pos_right l2 (Nat.two_pow_pos _)
    have h2 := (Nat.pow_lt_pow_iff_right (by omega)).1 h1
    omega
  generalize hL : max (p + m.log2 - f.fractionBits) f.leastPlace = L
  generalize hL' : max (p' + m'.log2 - f.fractionBits) f.leastPlace = L'
  have hLL : L ≤ L' := by omega
  have r := cut_rhe false (m <<< (p - L).toNat) (L - p).toNat
  have r' := cut_rhe false (m' <<< (p' - L').toNat) (L' - p').toNat
  generalize Toward.even.cut false (m <<< (p - L).toNat) (L - p).toNat = k at *
  generalize Toward.even.cut false (m' <<< (p' - L').toNat) (L' - p').toNat = k' at *
  rw [Nat.shiftLeft_eq] at r r'
  have g0 := Nat.two_pow_pos (L - p).toNat
  have g0' := Nat.two_pow_pos (L' - p').toNat
  suffices hs : (L - f.leastPlace).toNat * f.binade + k ≤ (L' - f.leastPlace).toNat * f.binade + k' by omega
  by_cases hE : L = L'
  · subst hE
    have hk : k ≤ k' := by
      refine rhe_mono g0 g0' r r' ?_
      rw [Nat.mul_assoc, ← Nat.pow_add, Nat.mul_assoc, ← Nat.pow_add]
      exact h.at _ _ (by omega)
    omega
  · have hlt : L < L' := by omega
    -- k ≤ 2 binades
    have hk : k ≤ 2 * f.binade := by
      refine rhe_le g0 r ?_
      unfold Format.binade
      rw [show 2 * 2 ^ f.fractionBits = 2 ^ (f.fractionBits + 1) by rw [Nat.pow_succ]; omega, ← Nat.pow_add]
      refine Nat.lt_of_lt_of_le (Nat.mul_lt_mul_of_pos_right l1' (Nat.two_pow_pos _)) ?_
      rw [← Nat.pow_add]
      exact Nat.pow_le_pow_right (by omega) (by omega)
    have hk' : f.binade ≤ k' := by
      refine le_rhe g0' r' ?_
      unfold Format.binade
      rw [← Nat.pow_add]
      refine Nat.le_trans ?_ (Nat.mul_le_mul_right _ l2')
      rw [← Nat.pow_add]
      exact Nat.pow_le_pow_right (by omega) (by omega)
    have h1 : (L - f.leastPlace).toNat + 1 ≤ (L' - f.leastPlace).toNat := by omega
    have h2 := Nat.mul_le_mul_right f.binade h1
    rw [Nat.add_mul, Nat.one_mul] at h2
    omega

/-! ### double -/
/-- A rung below infinity's, read: its significand and its place. -/
def sig (r : Nat) : Nat := if r < 2 ^ 52 then r else 2 ^ 52 + r % 2 ^ 52
def pl (r : Nat) : Int := if r < 2 ^ 52 then -1074 else -1074 + (r / 2 ^ 52 - 1 : Nat)

theorem inf_eq : double.infRung = 9218868437227405312 := by decide
theorem bin_eq : double.binade = 4503599627370496 := by decide
theorem sw_eq : double.signWeight = 9223372036854775808 := by decide
theorem lp_eq : double.leastPlace = -1074 := by decide

theorem read_word (s : Bool) (r : Nat) (h : r < double.infRung) : double.read (double.word s r) = .number s (sig r) (pl r) := by
  have e1 : double.word s r / double.signWeight % 2 = s.toNat := by
    unfold Format.word; rw [inf_eq] at h; rw [sw_eq]; cases s <;> simp <;> omega
  have e2 : double.word s r % double.signWeight = r := by
    unfold Format.word; rw [inf_eq] at h; rw [sw_eq]; cases s <;> simp <;> omega
  unfold Format.read
  dsimp only
  rw [e1, e2, lp_eq, bin_eq]
  have e3 : (s.toNat == 1) = s := by cases s <;> rfl
  rw [e3]
  by_cases c : r < 4503599627370496
  · rw [if_pos c]; unfold sig pl; rw [if_pos c, if_pos c]
  · rw [if_neg c, if_pos h]; unfold sig pl; rw [if_neg c, if_neg c]

theorem read_inf (s : Bool) : double.read (double.word s double.infRung) = .infinity s := by
  cases s <;> decide

theorem sig_lt (r : Nat) : sig r < 2 ^ 53 := by
  unfold sig; split <;> omega

/-- Rungs are numbered upwards. -/
theorem sigpl_mono {r r' : Nat} (h : r ≤ r') : Le (sig r) (pl r) (sig r') (pl r') := by
  by_cases c : r < 2 ^ 52
  · by_cases c' : r' < 2 ^ 52
    · refine ⟨0, 0, ?_, ?_⟩
      · unfold pl; rw [if_pos c, if_pos c']; omega
      · unfold sig; rw [if_pos c, if_pos c']; omega
    · refine ⟨0, r' / 2 ^ 52 - 1, ?_, ?_⟩
      · unfold pl; rw [if_pos c, if_neg c']; omega
      · unfold sig; rw [if_pos c, if_neg c']
        have h1 := Nat.two_pow_pos (r' / 2 ^ 52 - 1)
        have h2 := Nat.le_mul_of_pos_right (2 ^ 52 + r' % 2 ^ 52) h1
        omega
  · have c' : ¬ r' < 2 ^ 52 := by omega
    by_cases e : r / 2 ^ 52 = r' / 2 ^ 52
    · refine ⟨0, 0, ?_, ?_⟩
      · unfold pl; rw [if_neg c, if_neg c', e]; omega
      · unfold sig; rw [if_neg c, if_neg c']; omega
    · have h1 : r / 2 ^ 52 < r' / 2 ^ 52 := by omega
      refine ⟨0, r' / 2 ^ 52 - r / 2 ^ 52, ?_, ?_⟩
      · unfold pl; rw [if_neg c, if_neg c']; omega
      · unfold sig; rw [if_neg c, if_neg c']
        have h2 : 2 ^ 1 ≤ 2 ^ (r' / 2 ^ 52 - r / 2 ^ 52) := Nat.pow_le_pow_right (by omega) (by omega)
        have h3 := Nat.mul_le_mul_left (2 ^ 52 + r' % 2 ^ 52) h2
        omega

theorem order_num {s : Bool} {m m' : Nat} {p p' : Int} (h : Le m p m' p') : Datum.order (.number s m p) (.number s m' p') = some .eq ∨ Datum.order (.number s m p) (.number s m' p') = some (if s then .gt else .lt) := by
  have h0 := h.at (p - min p p').toNat (p' - min p p').toNat (by omega)
  unfold Datum.order signed
  dsimp only
  rw [Nat.shiftLeft_eq, Nat.shiftLeft_eq]
  generalize m * 2 ^ (p - min p p').toNat = a at *
  generalize m' * 2 ^ (p' - min p p').toNat = b at *
  cases s
  · simp only [Bool.false_eq_true, if_false]
    rcases Nat.lt_or_eq_of_le h0 with h | h
    · right; rw [Int.compare_eq_lt.2 (by omega)]
    · left; rw [h, Int.compare_eq_eq.2 rfl]
  · simp only [if_true]
    rcases Nat.lt_or_eq_of_le h0 with h | h
    · right; rw [Int.compare_eq_gt.2 (by omega)]
    · left; rw [h, Int.compare_eq_eq.2 rfl]
end Go.Proofs.Qxb6627925a.Fl
