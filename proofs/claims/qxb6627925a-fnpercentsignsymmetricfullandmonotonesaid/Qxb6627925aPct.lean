/-
  'float64(n) / 100' as a plain function of n: its bits, that they order by n. No Go in sight.
-/
import Derived.Test.Qxb6627925aFloat
namespace Go.Proofs.Qxb6627925a.Fl
open Ieee

/-- The rung of 'float64(n)'. -/
def rOf (n : Nat) : Nat := rung double n 0
/-- The quotient's digits and the one that tells of a rest. -/
def gOf (m : Nat) : Nat := 2 * ((m <<< 54) / 7036874417766400) + ((m <<< 54) % 7036874417766400 != 0).toNat
/-- The rung of 'float64(n) / 100'. -/
def fOf (n : Nat) : Nat := if n = 0 then 0 else rung double (gOf (sig (rOf n))) (pl (rOf n) - (-46) - 54 - 1)
/-- The bits of 'float64(z) / 100'. -/
def pct (z : Int) : Nat := double.word (decide (z < 0)) (fOf z.natAbs)

theorem le_of_le {n n' : Nat} (h : n ≤ n') : Le n 0 n' 0 := ⟨0, 0, by omega, by omega⟩

theorem rOf_mono {n n' : Nat} (h : n ≤ n') (h0 : n' ≠ 0) : rOf n ≤ rOf n' := rung_mono _ (le_of_le h) h0

theorem rOf_one : rOf 1 = 4607182418800017408 := by decide
theorem rOf_top : rOf (2 ^ 60) = 4877398396442247168 := by decide

theorem rOf_bd {n : Nat} (h0 : n ≠ 0) (h : n ≤ 2 ^ 60) : 4607182418800017408 ≤ rOf n ∧ rOf n ≤ 4877398396442247168 := by
  have h1 := rOf_mono (show 1 ≤ n by omega) h0
  have h2 := rOf_mono h (by decide)
  rw [rOf_one] at h1
  rw [rOf_top] at h2
  exact ⟨h1, h2⟩

theorem digits_mono (d : Nat) {x y : Nat} (h : x ≤ y) : 2 * (x / d) + (x % d != 0).toNat ≤ 2 * (y / d) + (y % d != 0).toNat := by
  have h1 : x / d ≤ y / d := Nat.div_le_div_right h
  have ex := Nat.div_add_mod x d
  have ey := Nat.div_add_mod y d
  have hx : (x % d != 0).toNat ≤ 1 := Bool.toNat_le _
  rcases Nat.lt_or_eq_of_le h1 with h2 | h2
  · omega
  · rw [h2] at ex ⊢
    by_cases c : y % d = 0
    · have : x % d = 0 := by omega
      simp [c, this]
    · have : (y % d != 0).toNat = 1 := by simp [c]
      omega

theorem gOf_mono {m m' : Nat} (h : m ≤ m') : gOf m ≤ gOf m' := by
  unfold gOf
  rw [Nat.shiftLeft_eq, Nat.shiftLeft_eq]
  exact digits_mono _ (Nat.mul_le_mul_right _ h)

theorem gOf_pos {m : Nat} (h : 2 ^ 52 ≤ m) : gOf m ≠ 0 := by
  have h1 := gOf_mono h
  have h2 : gOf (2 ^ 52) = 23058430092136939 := by decide
  omega

theorem quot_le {r r' : Nat} (h : r ≤ r') (h0 : 2 ^ 52 ≤ r) : Le (gOf (sig r)) (pl r - (-46) - 54 - 1) (gOf (sig r')) (pl r' - (-46) - 54 - 1) := by
  have c : ¬ r < 2 ^ 52 := by omega
  have c' : ¬ r' < 2 ^ 52 := by omega
  by_cases e : r / 2 ^ 52 = r' / 2 ^ 52
  · refine ⟨0, 0, ?_, ?_⟩
    · unfold pl; rw [if_neg c, if_neg c', e]; omega
    · have hs : sig r ≤ sig r' := by unfold sig; rw [if_neg c, if_neg c']; omega
      have := gOf_mono hs
      omega
  · have h1 : r / 2 ^ 52 < r' / 2 ^ 52 := by omega
    refine ⟨0, r' / 2 ^ 52 - r / 2 ^ 52, ?_, ?_⟩
    · unfold pl; rw [if_neg c, if_neg c']; omega
    · have h2 : 2 ^ 1 ≤ 2 ^ (r' / 2 ^ 52 - r / 2 ^ 52) := Nat.pow_le_pow_right (by omega) (by omega)
      have h3 := Nat.mul_le_mul_left (gOf (sig r')) h2
      have b1 : sig r ≤ 2 ^ 53 - 1 := by have := sig_lt r; omega
      have b2 : 2 ^ 52 ≤ sig r' := by unfold sig; rw [if_neg c']; omega
      have g1 := gOf_mono b1
      have g2 := gOf_mono b2
      have e1 : gOf (2 ^ 53 - 1) = 46116860184273873 := by decide
      have e2 : gOf (2 ^ 52) = 23058430092136939 := by decide
      omega

theorem fOf_mono {n n' : Nat} (h : n ≤ n') (h' : n' ≤ 2 ^ 60) : fOf n ≤ fOf n' := by
  unfold fOf
  by_cases c : n = 0
  · rw [if_pos c]; exact Nat.zero_le _
  · have c' : n' ≠ 0 := by omega
    rw [if_neg c, if_neg c']
    have b := rOf_bd c (by omega)
    have b' := rOf_bd c' h'
    refine rung_mono _ (quot_le (rOf_mono h c') (by omega)) (gOf_pos ?_)
    unfold sig; rw [if_neg (by omega)]; omega

theorem fOf_lt {n : Nat} (h : n ≤ 2 ^ 60) : fOf n < double.infRung := by
  have h1 := fOf_mono h (Nat.le_refl _)
  have h2 : fOf (2 ^ 60) < double.infRung := by decide
  omega

theorem floatOfInt_eq (z : Int) : floatOfInt .f64 z = double.word (decide (z < 0)) (rOf z.natAbs) := nearest_eq double _ _ _

theorem read_hundred : double.read 4636737291354636288 = .number false 7036874417766400 (-46) := by decide

theorem log_sig {m : Nat} (h : 2 ^ 52 ≤ m) (h' : m < 2 ^ 53) : m.log2 = 52 := by
  have h1 := (Nat.le_log2 (n := m) (k := 52) (by omega)).2 h
  have h2 := (Nat.log2_lt (n := m) (k := 53) (by omega)).2 h'
  omega

theorem log_hundred : Nat.log2 7036874417766400 = 52 := log_sig (by decide) (by decide)

/-- 'float64(z) / 100' is valid, and these are its bits. -/
theorem div_eq {z : Int} (h : z.natAbs ≤ 2 ^ 60) : floatBits .quo .f64 (floatOfInt .f64 z) 4636737291354636288 = some (pct z) := by
  show double.div _ _ = _
  unfold Format.div
  rw [floatOfInt_eq, read_hundred]
  by_cases c : z.natAbs = 0
  · obtain rfl : z = 0 := by omega
    decide
  · have b := rOf_bd c h
    rw [read_word _ _ (by rw [inf_eq]; omega)]
    unfold Datum.quotient
    dsimp only
    have hs : 2 ^ 52 ≤ sig (rOf z.natAbs) := by unfold sig; rw [if_neg (by omega)]; omega
    rw [if_neg (by decide), log_hundred, log_sig hs (sig_lt _)]
    show Option.some (double.nearest _ _ _) = _
    rw [nearest_eq]
    unfold pct fOf gOf
    rw [if_neg c]
    show some (double.word (xor _ false) _) = _
    rw [Bool.xor_false]
    rfl

theorem order_self {z : Int} (h : z.natAbs ≤ 2 ^ 60) : double.order (pct z) (pct z) = some .eq := by
  unfold Format.order pct
  rw [read_word _ _ (fOf_lt h)]
  rcases order_num (s := decide (z < 0)) (sigpl_mono (Nat.le_refl (fOf z.natAbs))) with h | h
  · exact h
  · unfold Datum.order at h ⊢
    dsimp only at h ⊢
    rw [Int.compare_eq_eq.2 rfl]

theorem order_mono {a b : Int} (ha : a.natAbs ≤ 2 ^ 60) (hb : b.natAbs ≤ 2 ^ 60) (h : a ≤ b) : double.order (pct a) (pct b) = some .eq ∨ double.order (pct a) (pct b) = some .lt := by
  unfold Format.order pct
  rw [read_word _ _ (fOf_lt ha), read_word _ _ (fOf_lt hb)]
  by_cases ca : a < 0
  · by_cases cb : b < 0
    · rw [decide_eq_true ca, decide_eq_true cb]
      rcases order_num (s := true) (sigpl_mono (fOf_mono (show b.natAbs ≤ a.natAbs by omega) ha)) with h | h
      · left
        unfold Datum.order at h ⊢
        dsimp only at h ⊢
        rw [Option.some.injEq, Int.compare_eq_eq] at h ⊢
        rw [Int.min_comm]; exact h.symm
      · right
        unfold Datum.order at h ⊢
        dsimp only [if_true] at h ⊢
        rw [Option.some.injEq] at h ⊢
        have h2 := Int.compare_eq_gt.1 h
        rw [Int.min_comm]
        exact Int.compare_eq_lt.2 h2
    · rw [decide_eq_true ca, decide_eq_false cb]
      unfold Datum.order signed
      dsimp only
      rw [if_pos rfl, if_neg (by decide)]
      generalize sig (fOf a.natAbs) <<< _ = x
      generalize sig (fOf b.natAbs) <<< _ = y
      by_cases e : (-(x : Int)) = y
      · left; rw [Int.compare_eq_eq.2 e]
      · right; rw [Int.compare_eq_lt.2 (by omega)]
  · have cb : ¬ b < 0 := by omega
    rw [decide_eq_false ca, decide_eq_false cb]
    exact order_num (s := false) (sigpl_mono (fOf_mono (show a.natAbs ≤ b.natAbs by omega) hb))

theorem order_anti {a b : Int} (ha : a.natAbs ≤ 2 ^ 60) (hb : b.natAbs ≤ 2 ^ 60) (h : b ≤ a) : double.order (pct a) (pct b) = some .eq ∨ double.order (pct a) (pct b) = some .gt := by
  have := order_mono hb ha h
  unfold Format.order pct at this ⊢
  rw [read_word _ _ (fOf_lt ha), read_word _ _ (fOf_lt hb)] at *
  unfold Datum.order at this ⊢
  dsimp only at this ⊢
  simp only [Option.some.injEq, Int.compare_eq_eq, Int.compare_eq_lt, Int.compare_eq_gt] at this ⊢
  rw [Int.min_comm (pl (fOf a.natAbs))]
  rcases this with h | h
  · exact .inl h.symm
  · exact .inr h

theorem pct_full : pct 10000 = 4636737291354636288 := by decide
theorem pct_zero : pct 0 = 0 := by decide
theorem order_full : double.order 4636737291354636288 4636737291354636288 = some .eq := by decide
theorem order_zero : double.order 0 0 = some .eq := by decide
end Go.Proofs.Qxb6627925a.Fl
