/-
  The contracts of parseDollars, valueOf, joinStripped at the text of Dollars.
-/
import Derived.Test.Qxb6627960aFmtAgree
import Derived.Test.Qxb6627960aFmtParse
import Derived.Test.Qxb6627960aFmtValue
import Derived.Test.Qxb6627960aFmtJoin
import Derived.Test.Qxb6627960aFmtPlain2
namespace Go.Proofs.Qxb6627960aFmt
open Go.Extern

/-- The digits of the whole dollars; the six digits behind the point. -/
def dI (n : Nat) : ByteArray := ⟨(Lib.decDigits (n / 1000000)).toArray⟩
def dF (n : Nat) : ByteArray := ⟨(FmtText.zeros 6 ((n % 1000000 : Nat) : Int)).toArray⟩
def dO (n : Nat) : ByteArray := ⟨(Lib.decDigits n).toArray⟩

theorem dF_len (n : Nat) : (FmtText.zeros 6 ((n % 1000000 : Nat) : Int)).length = 6 := zeros6_length _ (Nat.mod_lt _ (by decide))
theorem dI_size (n : Nat) : (dI n).size = Lib.nDigits (n / 1000000) := by
  show (Lib.decDigits (n / 1000000)).toArray.size = _
  rw [List.size_toArray, Lib.decDigits_length]
theorem dF_size (n : Nat) : (dF n).size = 6 := by
  show (FmtText.zeros 6 ((n % 1000000 : Nat) : Int)).toArray.size = _
  rw [List.size_toArray, dF_len]

theorem dStr_list (m : Int) : (dStr m).data.toList = sgn m ++ (Lib.decDigits (m.natAbs / 1000000) ++ 46 :: FmtText.zeros 6 ((m.natAbs % 1000000 : Nat) : Int)) := by
  unfold dStr dText
  rw [itoa_nat]
  show ((_ ++ _ ++ [46] ++ _ : List UInt8)).toArray.toList = _
  rw [List.append_assoc, List.append_assoc, List.singleton_append]

theorem getElem_list (s : ByteArray) (j : Nat) (h : j < s.size) : s[j] = s.data.toList[j]'(by rw [Array.length_toList]; exact h) := rfl

theorem dollars13 {n : Nat} (h : n ≤ 9223372036854775808) : Lib.nDigits (n / 1000000) ≤ 13 := by
  refine nDigits_le 12 _ ?_
  have h1 : n / 1000000 ≤ 9223372036854 := by omega
  exact Nat.lt_of_le_of_lt h1 (by decide)

/-- The parts of the text, by place. -/
theorem parts (m : Int) (st : Nat) (hst : st = (sgn m).length) :
    (dStr m).size = st + Lib.nDigits (m.natAbs / 1000000) + 7 ∧
    (∀ (j : Nat) (hj : j < (dStr m).size), st ≤ j → j < st + Lib.nDigits (m.natAbs / 1000000) → 48 ≤ (dStr m)[j].toNat ∧ (dStr m)[j].toNat ≤ 57) ∧
    (∀ hj : st + Lib.nDigits (m.natAbs / 1000000) < (dStr m).size, ((dStr m)[st + Lib.nDigits (m.natAbs / 1000000)]'hj).toNat = 46) ∧
    (dStr m).extract st (st + Lib.nDigits (m.natAbs / 1000000)) = dI m.natAbs ∧
    (dStr m).extract (st + Lib.nDigits (m.natAbs / 1000000) + 1) (dStr m).size = dF m.natAbs := by
  have hl := dStr_list m
  have hz := dF_len m.natAbs
  have hd := Lib.decDigits_length (m.natAbs / 1000000)
  have hs : (dStr m).size = st + Lib.nDigits (m.natAbs / 1000000) + 7 := by
    show (dStr m).data.size = _
    rw [← Array.length_toList, hl]
    simp only [List.length_append, List.length_cons, hz, hd, hst]
    omega
  refine ⟨hs, ?_, ?_, ?_, ?_⟩
  · intro j hj h1 h2
    rw [getElem_list]
    have : ∀ (l : List UInt8) (e : l = sgn m ++ (Lib.decDigits (m.natAbs / 1000000) ++ 46 :: FmtText.zeros 6 ((m.natAbs % 1000000 : Nat) : Int))) (hj : j < l.length), 48 ≤ (l[j]).toNat ∧ (l[j]).toNat ≤ 57 := by
      intro l e hj
      subst e
      rw [List.getElem_append_right (by omega), List.getElem_append_left (by omega)]
      exact dig_dec _ _ (List.getElem_mem _)
    exact this _ hl _
  · intro hj
    rw [getElem_list]
    have : ∀ (l : List UInt8) (e : l = sgn m ++ (Lib.decDigits (m.natAbs / 1000000) ++ 46 :: FmtText.zeros 6 ((m.natAbs % 1000000 : Nat) : Int))) (hj : st + Lib.nDigits (m.natAbs / 1000000) < l.length), (l[st + Lib.nDigits (m.natAbs / 1000000)]).toNat = 46 := by
      intro l e hj
      subst e
      rw [List.getElem_append_right (by omega), List.getElem_append_right (by omega)]
      simp [hst, hd]
    exact this _ hl _
  · apply ByteArray.ext
    apply Array.toList_inj.1
    rw [Lib.extract_data, hl, hst, List.drop_left, Nat.add_sub_cancel_left, ← hd, List.take_left]
    rfl
  · apply ByteArray.ext
    apply Array.toList_inj.1
    rw [Lib.extract_data, hl, hs, hst, ← hd]
    have e1 : (sgn m).length + (Lib.decDigits (m.natAbs / 1000000)).length + 1 = (sgn m ++ (Lib.decDigits (m.natAbs / 1000000) ++ [46])).length := by simp; omega
    have e2 : sgn m ++ (Lib.decDigits (m.natAbs / 1000000) ++ 46 :: FmtText.zeros 6 ((m.natAbs % 1000000 : Nat) : Int)) = (sgn m ++ (Lib.decDigits (m.natAbs / 1000000) ++ [46])) ++ FmtText.zeros 6 ((m.natAbs % 1000000 : Nat) : Int) := by simp
    rw [e2, e1, List.drop_left, List.take_of_length_le (by rw [hz]; simp; omega)]
    rfl

theorem dI_head (n : Nat) (h : 1 < Lib.nDigits (n / 1000000)) (hs : 0 < (dI n).size) : (((dI n)[0]'hs).toNat : Int) ≠ 48 := by
  have h1 : 1 ≤ n / 1000000 := by
    refine Decidable.byContradiction fun hn => ?_
    have : n / 1000000 = 0 := by omega
    rw [this, Lib.nDigits_small (by omega)] at h
    omega
  obtain ⟨c, l, e, hc⟩ := dec_head _ h1
  have : (dI n)[0]'hs = c := by
    rw [getElem_list]
    have : ∀ (k : List UInt8) (_ : k = c :: l) (hj : 0 < k.length), k[0] = c := by intro k e2 hj; subst e2; rfl
    exact this _ (by show (Lib.decDigits (n / 1000000)).toArray.toList = _; rw [e]) _
  rw [this]; omega

theorem dF_dig (n : Nat) (j : Nat) (h : j < (dF n).size) : 48 ≤ (dF n)[j].toNat ∧ (dF n)[j].toNat ≤ 57 := by
  rw [getElem_list]
  exact dig_zeros6 _ _ (List.getElem_mem _)

theorem parseIs (m : Int) (h : m.natAbs ≤ 9223372036854775808) : ParseIs (dStr m) (decide (m < 0)) (dI m.natAbs) (dF m.natAbs) := by
  intro w
  have n1 := Lib.nDigits_pos (m.natAbs / 1000000)
  have n13 := dollars13 h
  have hI0 : ∀ k, k = Lib.nDigits (m.natAbs / 1000000) → 1 < k → ∀ h : 0 < (dI m.natAbs).size, (((dI m.natAbs)[0].toNat : Int) == 48) = false := by
    intro k hk h1 h
    rw [beq_eq_false_iff_ne]
    exact dI_head _ (by omega) h
  by_cases hm : m < 0
  · have hst : 1 = (sgn m).length := by unfold sgn; rw [if_pos hm]; rfl
    obtain ⟨p1, p2, p3, p4, p5⟩ := parts m 1 hst
    rw [decide_eq_true hm]
    refine parse_neg (dStr m) (dI m.natAbs) (dF m.natAbs) (1 + Lib.nDigits (m.natAbs / 1000000)) w p1 (by omega) (by omega) ?_ p2 p3 p4 (by rw [dI_size]; omega) (hI0 _ (by omega)) p5 (dF_size _) (dF_dig _)
    intro h0
    rw [getElem_list]
    have : ∀ (k l : List UInt8) (_ : k = 45 :: l) (hj : 0 < k.length), ((k[0].toNat : Int) == 45) = true := by intro k l e2 hj; subst e2; rfl
    exact this _ _ (by rw [dStr_list]; unfold sgn; rw [if_pos hm]; rfl) _
  · have hst : 0 = (sgn m).length := by unfold sgn; rw [if_neg hm]; rfl
    obtain ⟨p1, p2, p3, p4, p5⟩ := parts m 0 hst
    rw [decide_eq_false hm]
    rw [Nat.zero_add] at p1 p2 p3 p4 p5
    refine parse_pos (dStr m) (dI m.natAbs) (dF m.natAbs) (Lib.nDigits (m.natAbs / 1000000)) w p1 (by omega) (by omega) ?_ p2 p3 p4 (by rw [dI_size]; omega) (hI0 _ (by omega)) p5 (dF_size _) (dF_dig _)
    intro h0
    rw [beq_eq_false_iff_ne]
    exact dStr_first (by omega) h0

theorem valIs (n : Nat) (h : n ≤ 9223372036854775808) : ValIs (dI n) (dF n) n := by
  intro w
  have h13 := dollars13 h
  have := valueOf_any (dI n) (dF n) w (by rw [dI_size]; exact h13) (by rw [dF_size]; omega) (dig_dec _) (dig_zeros6 _)
  have e : val (dI n).data.toList * 1000000 + val (dF n).data.toList = n := by
    show val (Lib.decDigits (n / 1000000)) * 1000000 + val (FmtText.zeros 6 ((n % 1000000 : Nat) : Int)) = n
    rw [val_dec, val_zeros6]; omega
  rwa [e] at this

/-- The two parts, joined, as zeros ahead of the numeral. -/
theorem joined_facts (n : Nat) (h : n ≤ 9223372036854775808) (z : Nat) (hz : z = Lib.nDigits (n / 1000000) + 6 - Lib.nDigits n) :
    (dI n ++ dF n).size ≤ 19 ∧ z + 1 ≤ (dI n ++ dF n).size ∧ (∀ (j : Nat) (h : j < (dI n ++ dF n).size), j < z → (((dI n ++ dF n)[j].toNat : Int) == 48) = true) ∧
    (z + 1 = (dI n ++ dF n).size ∨ ∀ h : z < (dI n ++ dF n).size, (((dI n ++ dF n)[z].toNat : Int) == 48) = false) ∧
    (dI n ++ dF n).extract z (dI n ++ dF n).size = dO n := by
  obtain ⟨j1, j2⟩ := joined n
  have h13 := dollars13 h
  have n1 := Lib.nDigits_pos n
  have hl : (dI n ++ dF n).data.toList = List.replicate z 48 ++ Lib.decDigits n := by
    rw [ByteArray.data_append, Array.toList_append, hz]
    exact j2
  have hs : (dI n ++ dF n).size = z + Lib.nDigits n := by
    show (dI n ++ dF n).data.size = _
    rw [← Array.length_toList, hl, List.length_append, List.length_replicate, Lib.decDigits_length]
  refine ⟨by omega, by omega, ?_, ?_, ?_⟩
  · intro j hj hjz
    rw [getElem_list]
    have : ∀ (l : List UInt8) (e : l = List.replicate z 48 ++ Lib.decDigits n) (hj : j < l.length), ((l[j].toNat : Int) == 48) = true := by
      intro l e hj
      subst e
      rw [List.getElem_append_left (by simpa using hjz), List.getElem_replicate]
      rfl
    exact this _ hl _
  · by_cases hn : n = 0
    · left; rw [hs, hn, Lib.nDigits_small (by omega)]
    · right
      intro hzs
      obtain ⟨c, l, e, hc⟩ := dec_head n (by omega)
      rw [getElem_list, beq_eq_false_iff_ne]
      have : ∀ (k : List UInt8) (e : k = List.replicate z 48 ++ Lib.decDigits n) (hj : z < k.length), (k[z].toNat : Int) ≠ 48 := by
        intro k e2 hj
        subst e2
        rw [List.getElem_append_right (by simp)]
        simp only [e, List.length_replicate, Nat.sub_self, List.getElem_cons_zero]
        omega
      exact this _ hl _
  · apply ByteArray.ext
    apply Array.toList_inj.1
    rw [Lib.extract_data, hl, hs]
    have e1 : z = (List.replicate z (48 : UInt8)).length := by simp
    rw [List.take_of_length_le (by simp [Lib.decDigits_length])]
    conv => lhs; arg 1; rw [e1]
    rw [List.drop_left]
    rfl

theorem dO_size (n : Nat) (h : n ≤ 9223372036854775808) : (dO n).size ≤ 19 := by
  show (Lib.decDigits n).toArray.size ≤ _
  rw [List.size_toArray, Lib.decDigits_length]
  obtain ⟨j1, j2⟩ := joined n
  have h13 := dollars13 h
  omega

theorem joinIs_pos (n : Nat) (h : n ≤ 9223372036854775808) : JoinIs false (dI n) (dF n) (dO n) := by
  intro w
  obtain ⟨a, b, c, d, e⟩ := joined_facts n h _ rfl
  have h13 := dollars13 h
  exact join_pos (dI n) (dF n) _ (dO n) _ w (by rw [dI_size]; exact h13) (by rw [dF_size]; omega) rfl a b c d e

theorem joinIs_neg (n : Nat) (h : n ≤ 9223372036854775808) : JoinIs true (dI n) (dF n) ({ data := #[45] } ++ dO n) := by
  intro w
  obtain ⟨a, b, c, d, e⟩ := joined_facts n h _ rfl
  have h13 := dollars13 h
  exact join_neg (dI n) (dF n) _ (dO n) _ w (by rw [dI_size]; exact h13) (by rw [dF_size]; omega) rfl a b c d e (dO_size n h)

theorem itoa_pos {m : Int} (h : ¬ m < 0) : (⟨(Lib.itoa m).toArray⟩ : ByteArray) = dO m.natAbs := by
  unfold dO Lib.itoa
  rw [if_neg h, show m.toNat = m.natAbs by omega]

theorem itoa_negs {m : Int} (h : m < 0) : (⟨(Lib.itoa m).toArray⟩ : ByteArray) = { data := #[45] } ++ dO m.natAbs := by
  apply ByteArray.ext
  rw [ByteArray.data_append]
  unfold dO Lib.itoa
  rw [if_pos h]
  simp
end Go.Proofs.Qxb6627960aFmt
