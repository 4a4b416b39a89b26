/-
  The walks of Dollars (5), magnitude (9), decimalLen (11).
-/
import Derived.Test.Qxb6627960aFmtFacts
import Derived.Lib.ItoaLen
import Derived.WalkKit
import Derived.WalkSpells
import Derived.WalkLawsBesides
namespace Go.Proofs.Qxb6627960aFmt
open Go.RowKit Go.Kit Go.Extern.Stop Go.Stop Go.Extern
attribute [local go_sem] call12 guardF fmt0 fmt0r op26_100 op9_115

set_option maxHeartbeats 400000 in
theorem dollars_pos (F : Interp) (m : Int) (w : World) (hF : F.answers w.tape) (h0 : 0 ≤ m) (h1 : m ≤ 9223372036854775807) :
    Calls Tryf.prog 5 #[.int .i64 m] w fun e w' => e = .returned (.string (FmtStop.textOf (F "fmt.Sprintf" (reading [] (m / 1000000) (m % 1000000)) 0))) ∧
      ∃ (cs : Array Value) (t : TypeId), w' = (w.alloc (.cells cs t)).drew := by
  have hF' := answers_open hF
  go_enter Tryf.func5, Tryf.ntmps5
  go_wp2
  go_ret
  exact ⟨rfl, _, _, rfl⟩

set_option maxHeartbeats 400000 in
theorem dollars_neg (F : Interp) (m : Int) (w : World) (hF : F.answers w.tape) (h0 : m < 0) :
    Calls Tryf.prog 5 #[.int .i64 m] w fun e w' => e = .returned (.string (FmtStop.textOf (F "fmt.Sprintf" (reading [45] (IntKind.u64.wrap ((IntKind.u64.wrap (-IntKind.u64.wrap m)).tdiv 1000000)) ((IntKind.u64.wrap (-IntKind.u64.wrap m)).tmod 1000000)) 0))) ∧
      ∃ (cs : Array Value) (t : TypeId), w' = (w.alloc (.cells cs t)).drew := by
  have hF' := answers_open hF
  go_enter Tryf.func5, Tryf.ntmps5
  go_wp2
  go_ret
  exact ⟨rfl, _, _, rfl⟩

/-- The sign's text. -/
def sgn (m : Int) : List UInt8 := if m < 0 then [45] else []
/-- What Dollars gives. -/
def dStr (m : Int) : ByteArray := ⟨(dText (sgn m) ((m.natAbs / 1000000 : Nat) : Int) ((m.natAbs % 1000000 : Nat) : Int)).toArray⟩

theorem wrap_neg (m : Int) (h0 : m < 0) (h1 : -9223372036854775808 ≤ m) : IntKind.u64.wrap (-IntKind.u64.wrap m) = (m.natAbs : Int) := by
  rw [IntKind.wrap_u64, IntKind.wrap_u64]
  omega

theorem wf_u64 {x : Int} (h0 : 0 ≤ x) (h1 : x ≤ 18446744073709551615) : (Lit.int .u64 x).wf = true := by
  simp only [Lit.wf, decide_eq_true_eq, Bool.and_eq_true]
  have e1 : IntKind.u64.min = 0 := by decide
  have e2 : IntKind.u64.max = 18446744073709551615 := by decide
  rw [e1, e2]
  exact ⟨h0, h1⟩

theorem dollars_any (F : Interp) (m : Int) (w : World) (hF : F.told.answers w.tape) (h0 : -9223372036854775808 ≤ m) (h1 : m ≤ 9223372036854775807) :
    Calls Tryf.prog 5 #[.int .i64 m] w fun e w' => e = .returned (.string (dStr m)) ∧ ∃ (cs : Array Value) (t : TypeId), w' = (w.alloc (.cells cs t)).drew := by
  by_cases hm : m < 0
  · refine (dollars_neg F.told m w hF hm).mono ?_
    rintro e w' ⟨rfl, hw⟩
    refine ⟨?_, hw⟩
    rw [wrap_neg m hm h0]
    have e1 : IntKind.u64.wrap (((m.natAbs : Nat) : Int).tdiv 1000000) = ((m.natAbs / 1000000 : Nat) : Int) := by
      rw [Int.tdiv_eq_ediv_of_nonneg (by omega), IntKind.wrap_u64]
      omega
    have e2 : ((m.natAbs : Nat) : Int).tmod 1000000 = ((m.natAbs % 1000000 : Nat) : Int) := by
      rw [Int.tmod_eq_emod_of_nonneg (by omega)]
      omega
    rw [e1, e2, told_text F [45] _ _ (by decide) (wf_u64 (by omega) (by omega)) (wf_u64 (by omega) (by omega))]
    unfold dStr sgn
    rw [if_pos hm]
  · refine (dollars_pos F.told m w hF (by omega) h1).mono ?_
    rintro e w' ⟨rfl, hw⟩
    refine ⟨?_, hw⟩
    have e1 : m / 1000000 = ((m.natAbs / 1000000 : Nat) : Int) := by omega
    have e2 : m % 1000000 = ((m.natAbs % 1000000 : Nat) : Int) := by omega
    rw [e1, e2, told_text F [] _ _ (by decide) (wf_u64 (by omega) (by omega)) (wf_u64 (by omega) (by omega))]
    unfold dStr sgn
    rw [if_neg hm]

set_option maxHeartbeats 400000 in
theorem magnitude_pos (m : Int) (w : World) (h0 : 0 ≤ m) (h1 : m ≤ 9223372036854775807) :
    Calls Tryf.prog 9 #[.int .i64 m] w fun e w' => e = .returned (.int .u64 m) ∧ w' = w := by
  go_enter Tryf.func9, Tryf.ntmps9
  go_wp2
  go_ret
  exact ⟨rfl, rfl⟩

set_option maxHeartbeats 400000 in
theorem magnitude_neg (m : Int) (w : World) (h0 : m < 0) :
    Calls Tryf.prog 9 #[.int .i64 m] w fun e w' => e = .returned (.int .u64 (IntKind.u64.wrap (-IntKind.u64.wrap m))) ∧ w' = w := by
  go_enter Tryf.func9, Tryf.ntmps9
  go_wp2
  go_ret
  exact ⟨rfl, rfl⟩

theorem magnitude_any (m : Int) (w : World) (h0 : -9223372036854775808 ≤ m) (h1 : m ≤ 9223372036854775807) :
    Calls Tryf.prog 9 #[.int .i64 m] w fun e w' => e = .returned (.int .u64 (m.natAbs : Int)) ∧ w' = w := by
  by_cases hm : m < 0
  · have := magnitude_neg m w hm
    rwa [wrap_neg m hm h0] at this
  · obtain ⟨k, rfl⟩ : ∃ k : Nat, m = (k : Int) := ⟨m.toNat, by omega⟩
    rw [Int.natAbs_natCast]
    exact magnitude_pos k w (by omega) h1

set_option maxHeartbeats 400000 in
theorem decimalLen_any (n : Nat) (w : World) (h : n < 18446744073709551616) :
    Calls Tryf.prog 11 #[.int .u64 n] w fun e w' => e = .returned (.int .i64 (Lib.nDigits n)) ∧ w' = w := by
  have hn := Lib.nDigits_le20 n h
  go_enter Tryf.func11, Tryf.ntmps11
  go_wp2
  go_loop [0, 3] (fun a k => ∃ u c : Nat, a = .int .u64 u ∧ k = .int .i64 c ∧ c + Lib.nDigits u = Lib.nDigits n + 1 ∧ u < 18446744073709551616) (fun a _ => (intOf a).toNat)
  case atStart => exact ⟨n, 1, rfl, rfl, by omega, h⟩
  case round =>
    obtain ⟨u, c, rfl, rfl, hc, hu⟩ := hrel
    have hp := Lib.nDigits_pos u
    have hc' : c ≤ 20 := by omega
    by_cases hlt : u < 10
    · have e := Lib.nDigits_small hlt
      have E : Hid (c = Lib.nDigits n) := by show c = _; omega
      clear hc e
      have hlt' : ¬ (10 : Int) ≤ (u : Int) := by omega
      go_wp2
      go_ret
      refine ⟨?_, rfl⟩
      rw [← E.out]
      rfl
    · have e := Lib.nDigits_big hlt
      have E : Hid (c + 1 + Lib.nDigits (u / 10) = Lib.nDigits n + 1) := by show c + 1 + _ = _; omega
      clear hc e
      have hlt' : (10 : Int) ≤ (u : Int) := by omega
      go_wp2
      go_round
      case rel => exact ⟨u / 10, c + 1, by go_num, by go_num, E.out, by omega⟩
      case measure => simp [intOf]; omega
end Go.Proofs.Qxb6627960aFmt
