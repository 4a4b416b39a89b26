/-
  FnDollarsOfNegationAddsMinusAndLengthCountsWholeDollars: the told card.
-/
import Derived.Test.Qxb6627960aFmtCards
import Derived.Test.Qxb6627960aFmtNeg
import Derived.Test.Qxb6627960aFmtPlain
import Derived.ProofKit
import Derived.Stop.JoinedAt
import Derived.Stop.JoinedTold
import Derived.SizedLaws
import Derived.SevenToldRow
namespace Go.Proofs.Qxb6627960aFmt.negation
open Go.ChangeShapes Go.WideShapes Go.ChangeAt Go.RowKit Go.Kit
open Go.Extern.Stop Go.Stop Go.Extern

theorem own : ownKnob Tryf.prog.godebug = none := by kernel_rfl

theorem lenIs (n : Nat) (h : n < 18446744073709551616) : LenIs ((n : Int) / 1000000) (Lib.nDigits (n / 1000000)) := by
  intro w
  have := decimalLen_any (n / 1000000) w (by omega)
  rwa [show ((n / 1000000 : Nat) : Int) = (n : Int) / 1000000 by omega] at this

theorem walk (F : Interp) (m : Int) (wm : (Lit.int .i64 m).wf = true) (w : World) (hF : F.told.answers w.tape) :
    Calls Tryf.prog 4 #[.int .i64 m] w fun e w' => e = .returned (.bool true) ∧ Grown w w' := by
  have hb : -9223372036854775808 ≤ m ∧ m ≤ 9223372036854775807 := by
    simp only [Lit.wf, decide_eq_true_eq, Bool.and_eq_true] at wm
    have e1 : IntKind.i64.min = -9223372036854775808 := by decide
    have e2 : IntKind.i64.max = 9223372036854775807 := by decide
    rwa [e1, e2] at wm
  clear wm
  have D : ∀ x : Int, -9223372036854775808 ≤ x → x ≤ 9223372036854775807 → DollarsIs w.tape x (dStr x) := by
    intro x h0 h1 w1 ht
    exact dollars_any F x w1 (by rw [ht]; exact hF) h0 h1
  have M : MagIs m m.natAbs := fun w1 => magnitude_any m w1 hb.1 hb.2
  have n20 := Lib.nDigits_le20 (m.natAbs / 1000000) (by omega)
  by_cases h1 : m = -9223372036854775808
  · subst h1; exact neg_min w
  by_cases h2 : 0 < m
  · have sz := dStr_size (m := m) (by omega)
    refine neg_pos m m.natAbs (Lib.nDigits (m.natAbs / 1000000)) (dStr m) (dStr (-m)) w h2 hb.2 (D m hb.1 hb.2) (D (-m) (by omega) (by omega)) M (by omega) (lenIs _ (by omega)) n20 ?_ (by omega) (by omega) ?_ ?_
    · simp [sz]
    · have := dStr_first (m := m) (by omega) (by omega)
      simpa using this
    · rw [dStr_neg h2]; exact BEq.rfl
  by_cases h3 : m < 0
  · have sz := dStr_size (m := -m) (by omega)
    rw [Int.natAbs_neg] at sz
    refine neg_neg m m.natAbs (Lib.nDigits (m.natAbs / 1000000)) (dStr m) (dStr (-m)) w h3 (by omega) (D m hb.1 hb.2) (D (-m) (by omega) (by omega)) M (by omega) (lenIs _ (by omega)) n20 ?_ (by omega) (by omega) ?_ ?_
    · simp [sz]
    · have := dStr_first (m := -m) (by omega) (by omega)
      simpa using this
    · have := dStr_neg (m := -m) (by omega)
      rw [Int.neg_neg] at this
      rw [this]; exact BEq.rfl
  · obtain rfl : m = 0 := by omega
    have sz := dStr_size (m := 0) (by omega)
    have n1 : Lib.nDigits ((0 : Int).natAbs / 1000000) = 1 := Lib.nDigits_small (by decide)
    rw [n1] at sz
    refine neg_zero (dStr 0) w (D 0 hb.1 hb.2) M ?_ ?_ (by omega) ?_
    · intro w1
      have := decimalLen_any 0 w1 (by decide)
      rwa [show Lib.nDigits 0 = 1 from n1] at this
    · simp [sz]
    · have := dStr_first (m := 0) (by omega) (by omega)
      simpa using this

set_option maxRecDepth 100000 in
theorem lifted (os : Os) (started : os.Started) (H : Type) (enc : TypeId × Value → H) :
    ReturnsInTold none {} Tryf.checked os 4 .any Input.okWide ((OpenSpec.ofChange Rows.fnDollarsOfNegationAddsMinusAndLengthCountsWholeDollarsSpec).preRow enc Tryf.prog Tryf.f4 [] false []) (fun F => ((OpenSpec.ofChange Rows.fnDollarsOfNegationAddsMinusAndLengthCountsWholeDollarsSpec).at F).post enc Tryf.prog Tryf.f4 false true false false) (aloneAtReturn Tryf.prog) nothingAlways := by
  refine returnsInTold_of_row (C := Tryf.checked) (s := OpenSpec.ofChange Rows.fnDollarsOfNegationAddsMinusAndLengthCountsWholeDollarsSpec) (by kernel_rfl) own started (by kernel_rfl) Tryf.func4
    (OpenSpec.witness_stopped (enc := enc) (C := Tryf.checked) false ⟨#[], #[.int .i64 1], []⟩ 8 (by kernel_rfl) (by kernel_rfl) (by kernel_rfl) (by kernel_rfl)) ?_
  intro F W base args ds gs before _ hF hval0 hW _ _ hsz _ _
  have hval : ∀ (j : Nat) t v, Tryf.f4.params[j]? = some t → args[j]? = some v → Value.okWide Tryf.prog W .any base t v := hval0
  have hW' := hW
  obtain ⟨p, q, hA0, hV, rfl, hfz, hnd⟩ := hW
  have hA : DataW.TrodAll enc Tryf.prog W 0 (fun _ => true) true Tryf.f4.params.toList args.toList ds p := hA0
  rw [Tryf.params4] at hA hval
  obtain ⟨v0, d0, rfl, rfl, h0⟩ := trodAll_one hA
  obtain ⟨rfl, rfl⟩ := trodVars_none hV
  obtain ⟨m, rfl, rfl, rfl, wm⟩ := open_int Tryf.underlying2 (hval 0 2 v0 rfl rfl) h0
  clear hA0 hval0
  refine (walk F m wm W hF).mono fun e W' ⟨he, hg⟩ => ?_
  subst he
  refine ⟨_, rfl, _, _, _, [], [], [], hW', ?_, ?_, rfl, ?_, fun h => by cases h⟩
  · exact trodAll_mk1 (shut_bool Tryf.underlying4 _)
  · exact trodAll_mk1 (shut_int Tryf.underlying2 wm)
  · exact hg.frame _

theorem laidOut : laidOutB Tryf.pinned.checked.prog = true := by kernel_rfl
theorem stops : Tryf.pinned.checked.prog.stops = ["fmt.Sprintf"] := by kernel_rfl
theorem stopKnobs : Tryf.pinned.checked.prog.stopKnobs = [] := by kernel_rfl
theorem quiet (os : Os) : Stop.quiet Tryf.pinned.checked.prog os := by
  intro k hk
  rw [stopKnobs] at hk
  cases hk

set_option maxRecDepth 100000 in
theorem proved : Rows.FnDollarsOfNegationAddsMinusAndLengthCountsWholeDollarsToldSaid :=
  Claim7.holds_of_told_any 4 Tryf.f4 "fmt.Sprintf" [] [] _ _ _ (by kernel_rfl) rfl rfl rfl laidOut (by kernel_rfl) rfl ⟨rfl, rfl, rfl, rfl, rfl, rfl, rfl⟩ rfl rfl (by kernel_rfl) (by kernel_rfl) Tryf.func4 (by kernel_rfl)
    (of_decide_eq_true (by kernel_rfl)) (of_decide_eq_true (by kernel_rfl)) stops.symm rfl stopKnobs.symm (by kernel_rfl)
    (by kernel_rfl) (by kernel_rfl) (by kernel_rfl) (by kernel_rfl) (by kernel_rfl) (by kernel_rfl) (by kernel_rfl) (by kernel_rfl) (by kernel_rfl) rfl (by kernel_rfl) rfl rfl
    rfl rfl
    rfl (by kernel_rfl) (by kernel_rfl) (by kernel_rfl) (by decide) (by kernel_rfl)
    (OpenClaim.moreEntering_of (by kernel_rfl) (by kernel_rfl) (by kernel_rfl) (by kernel_rfl) (by kernel_rfl) (by kernel_rfl) (by kernel_rfl) (by kernel_rfl) (by kernel_rfl) (by kernel_rfl))
    ⟨_, WideRow.started_initial, quiet _⟩
    (fun os started _ H enc _ => lifted os started H enc)
end Go.Proofs.Qxb6627960aFmt.negation
