/-
  Plain facts on decimal texts: no Go in sight.
-/
import Derived.Test.Qxb6627960aFmtPlain
import Derived.Test.Qxb6627960aFmtValue
import Derived.Lib.Strings
namespace Go.Proofs.Qxb6627960aFmt
open Go.Extern

def Dig (l : List UInt8) : Prop := ∀ c ∈ l, 48 ≤ c.toNat ∧ c.toNat ≤ 57

theorem val_append (l l' : List UInt8) : val (l ++ l') = val l * 10 ^ l'.length + val l' := by
  suffices h : ∀ n, ∀ l' : List UInt8, l'.length = n → val (l ++ l') = val l * 10 ^ l'.length + val l' from h _ l' rfl
  intro n
  induction n with
  | zero => intro l' h; obtain rfl := List.length_eq_zero_iff.1 h; simp [val]
  | succ n ih =>
    intro l' h
    rcases List.eq_nil_or_concat l' with rfl | ⟨l'', c, rfl⟩
    · simp at h
    · rw [List.concat_eq_append] at h ⊢
      rw [← List.append_assoc, val_snoc, val_snoc, ih l'' (by simpa using h), List.length_append, List.length_singleton, Nat.pow_succ, Nat.add_mul, Nat.mul_assoc]
      omega

theorem val_zeros (k : Nat) : val (List.replicate k 48) = 0 := by
  induction k with
  | zero => rfl
  | succ k ih => rw [List.replicate_succ', val_snoc, ih]; rfl

theorem toNat_digit (d : Nat) (h : d < 10) : (UInt8.ofNat (48 + d)).toNat = 48 + d := by
  simp; omega

theorem val_dec (u : Nat) : val (Lib.decDigits u) = u := by
  induction u using Nat.strongRecOn with
  | _ u ih =>
    rw [Lib.decDigits]
    split
    · rename_i h
      show 0 * 10 + ((UInt8.ofNat (48 + u)).toNat - 48) = u
      rw [toNat_digit u h]; omega
    · rename_i h
      rw [val_snoc, ih (u / 10) (by omega), toNat_digit _ (Nat.mod_lt _ (by decide))]
      omega

theorem dig_dec (u : Nat) : Dig (Lib.decDigits u) := digits_are u

/-- Any text of digits is zeros ahead of the numeral of its number. -/
theorem zeros_ahead (n : Nat) : ∀ l : List UInt8, l.length = n + 1 → Dig l → Lib.nDigits (val l) ≤ l.length ∧ l = List.replicate (l.length - Lib.nDigits (val l)) 48 ++ Lib.decDigits (val l) := by
  induction n with
  | zero =>
    intro l h hd
    obtain ⟨c, rfl⟩ := List.length_eq_one_iff.1 h
    have hc := hd c (by simp)
    have hv : val [c] = c.toNat - 48 := by show 0 * 10 + (c.toNat - 48) = _; omega
    have hlt : c.toNat - 48 < 10 := by omega
    rw [hv, Lib.nDigits_small hlt, Lib.decDigits, dif_pos hlt]
    refine ⟨by simp, ?_⟩
    have : UInt8.ofNat (48 + (c.toNat - 48)) = c := by
      rw [show 48 + (c.toNat - 48) = c.toNat by omega]; simp
    rw [this]; rfl
  | succ n ih =>
    intro l h hd
    rcases List.eq_nil_or_concat l with rfl | ⟨l', c, rfl⟩
    · simp at h
    · rw [List.concat_eq_append] at h hd ⊢
      have hl : l'.length = n + 1 := by simpa using h
      obtain ⟨i1, i2⟩ := ih l' hl (fun x hx => hd x (by simp [hx]))
      have hc := hd c (by simp)
      have hcc : UInt8.ofNat (48 + (c.toNat - 48)) = c := by
        rw [show 48 + (c.toNat - 48) = c.toNat by omega]; simp
      rw [val_snoc, List.length_append, List.length_singleton]
      by_cases hv : val l' * 10 + (c.toNat - 48) < 10
      · have hz : val l' = 0 := by omega
        rw [hz] at i1 i2
        rw [hz, Nat.zero_mul, Nat.zero_add, Lib.nDigits_small (by omega), Lib.decDigits, dif_pos (by omega), hcc]
        have n0 : Lib.nDigits 0 = 1 := Lib.nDigits_small (by omega)
        have d0 : Lib.decDigits 0 = [48] := by rw [Lib.decDigits, dif_pos (by omega)]; rfl
        rw [n0, d0] at i2
        refine ⟨by omega, ?_⟩
        have : l' = List.replicate l'.length 48 := by
          rw [hl]
          rw [hl, Nat.add_sub_cancel, ← List.replicate_succ'] at i2
          exact i2
        rw [Nat.add_sub_cancel, ← this]
      · rw [Lib.nDigits_big hv, Lib.decDigits, dif_neg hv]
        have e1 : (val l' * 10 + (c.toNat - 48)) / 10 = val l' := by omega
        have e2 : (val l' * 10 + (c.toNat - 48)) % 10 = c.toNat - 48 := by omega
        rw [e1, e2, hcc]
        refine ⟨by omega, ?_⟩
        rw [show l'.length + 1 - (Lib.nDigits (val l') + 1) = l'.length - Lib.nDigits (val l') by omega, ← List.append_assoc, ← i2]

/-- The first digit of a number above zero is no zero. -/
theorem dec_head (u : Nat) (h : 1 ≤ u) : ∃ c l, Lib.decDigits u = c :: l ∧ c.toNat ≠ 48 := by
  induction u using Nat.strongRecOn with
  | _ u ih =>
    by_cases hu : u < 10
    · refine ⟨UInt8.ofNat (48 + u), [], ?_, ?_⟩
      · rw [Lib.decDigits, dif_pos hu]
      · rw [toNat_digit u hu]; omega
    · obtain ⟨c, l, e, hc⟩ := ih (u / 10) (by omega) (by omega)
      refine ⟨c, l ++ [UInt8.ofNat (48 + u % 10)], ?_, hc⟩
      rw [Lib.decDigits, dif_neg hu, e]; rfl

theorem zeros6_eq (b : Nat) : FmtText.zeros 6 (b : Int) = List.replicate (6 - Lib.nDigits b) 48 ++ Lib.decDigits b := by
  rw [FmtText.zeros, if_neg (by omega), ← Lib.decDigits_length]; rfl

theorem dig_zeros6 (b : Nat) : Dig (FmtText.zeros 6 (b : Int)) := by
  rw [zeros6_eq]
  intro c hc
  rcases List.mem_append.1 hc with hc | hc
  · rw [(List.mem_replicate.1 hc).2]; decide
  · exact dig_dec b c hc

theorem val_zeros6 (b : Nat) : val (FmtText.zeros 6 (b : Int)) = b := by
  rw [zeros6_eq, val_append, val_zeros, val_dec]; omega

/-- The digits of the dollars and of the micro-dollars, joined: zeros ahead of the numeral. -/
theorem joined (n : Nat) : Lib.nDigits n ≤ Lib.nDigits (n / 1000000) + 6 ∧
    Lib.decDigits (n / 1000000) ++ FmtText.zeros 6 ((n % 1000000 : Nat) : Int) = List.replicate (Lib.nDigits (n / 1000000) + 6 - Lib.nDigits n) 48 ++ Lib.decDigits n := by
  have hl : (Lib.decDigits (n / 1000000) ++ FmtText.zeros 6 ((n % 1000000 : Nat) : Int)).length = Lib.nDigits (n / 1000000) + 6 := by
    rw [List.length_append, Lib.decDigits_length, zeros6_length _ (Nat.mod_lt _ (by decide))]
  have hv : val (Lib.decDigits (n / 1000000) ++ FmtText.zeros 6 ((n % 1000000 : Nat) : Int)) = n := by
    rw [val_append, val_dec, val_zeros6, zeros6_length _ (Nat.mod_lt _ (by decide))]; omega
  have hd : Dig (Lib.decDigits (n / 1000000) ++ FmtText.zeros 6 ((n % 1000000 : Nat) : Int)) := by
    intro c hc
    rcases List.mem_append.1 hc with hc | hc
    · exact dig_dec _ c hc
    · exact dig_zeros6 _ c hc
  have := zeros_ahead (Lib.nDigits (n / 1000000) + 5) _ hl hd
  rw [hl, hv] at this
  exact this
end Go.Proofs.Qxb6627960aFmt
