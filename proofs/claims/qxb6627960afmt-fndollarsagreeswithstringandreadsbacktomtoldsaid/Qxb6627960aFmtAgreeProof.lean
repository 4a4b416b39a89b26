/-
  FnDollarsAgreesWithStringAndReadsBackToM: the told and tied card.
-/
import Derived.Test.Qxb6627960aFmtCards
import Derived.Test.Qxb6627960aFmtTie
import Derived.Test.Qxb6627960aFmtAgreeFacts
import Derived.Test.Qxb6627960aFmtLaid
import Derived.ProofKit
import Derived.Stop.JoinedAt
import Derived.Stop.JoinedTold
import Derived.SizedLaws
import Derived.SevenTiedAt
namespace Go.Proofs.Qxb6627960aFmt.agrees
open Go.ChangeShapes Go.WideShapes Go.ChangeAt Go.RowKit Go.Kit
open Go.Extern.Stop Go.Stop Go.Extern

theorem own : ownKnob Tryf.prog.godebug = none := by kernel_rfl

theorem below_alloc (w : World) (cs : Array Value) (t : TypeId) : Below w.heap.size w (w.alloc (.cells cs t)).drew := ((Below.refl _ w).alloc (Nat.le_refl _) _).drew

theorem strIs (m : Int) (w : World) (h0 : -9223372036854775808 ≤ m) (h1 : m ≤ 9223372036854775807) (htab : Lib.TabIs Tryf.prog w "internal/strconv.uint64pow10" .u64 Lib.pow10Tab) : StrIs w m ⟨(Lib.itoa m).toArray⟩ := by
  intro cs t
  have ht : Lib.TabIs Tryf.prog (w.alloc (.cells cs t)).drew "internal/strconv.uint64pow10" .u64 Lib.pow10Tab := Lib.tabIs_alloc htab _
  refine (string_any m _ h0 h1 ht).mono ?_
  rintro e w' ⟨he, hb⟩
  refine ⟨he, (below_alloc w cs t).trans (hb.mono ?_)⟩
  show w.heap.size ≤ (w.alloc (.cells cs t)).heap.size
  simp

theorem walk (F : Interp) (m : Int) (wm : (Lit.int .i64 m).wf = true) (w : World) (hF : F.told.answers w.tape) (htab : Lib.TabIs Tryf.prog w "internal/strconv.uint64pow10" .u64 Lib.pow10Tab) :
    Calls Tryf.prog 3 #[.int .i64 m] w fun e w' => e = .returned (.bool true) ∧ Below w.heap.size w w' := by
  have hb : -9223372036854775808 ≤ m ∧ m ≤ 9223372036854775807 := by
    simp only [Lit.wf, decide_eq_true_eq, Bool.and_eq_true] at wm
    have e1 : IntKind.i64.min = -9223372036854775808 := by decide
    have e2 : IntKind.i64.max = 9223372036854775807 := by decide
    rwa [e1, e2] at wm
  clear wm
  have hn : m.natAbs ≤ 9223372036854775808 := by omega
  have D : DollarsIs w.tape m (dStr m) := by
    intro w1 ht
    exact dollars_any F m w1 (by rw [ht]; exact hF) hb.1 hb.2
  have M : MagIs m m.natAbs := fun w1 => magnitude_any m w1 hb.1 hb.2
  have S := strIs m w hb.1 hb.2 htab
  have P := parseIs m hn
  by_cases hm : m < 0
  · rw [decide_eq_true hm] at P
    refine agree_neg m m.natAbs (dStr m) ⟨(Lib.itoa m).toArray⟩ (dI m.natAbs) (dF m.natAbs) ({ data := #[45] } ++ dO m.natAbs) w hm D S P (valIs _ hn) M (joinIs_neg _ hn) ?_
    rw [itoa_negs hm]; exact BEq.rfl
  · rw [decide_eq_false hm] at P
    refine agree_pos m m.natAbs (dStr m) ⟨(Lib.itoa m).toArray⟩ (dI m.natAbs) (dF m.natAbs) (dO m.natAbs) w hm D S P (valIs _ hn) M (joinIs_pos _ hn) ?_
    rw [itoa_pos hm]; exact BEq.rfl

set_option maxRecDepth 1000000 in
theorem lifted (os : Os) (started : os.Started) (H : Type) (enc : TypeId × Value → H) :
    ReturnsInTold none {} Tryf.checked os 3 .any Input.okWide ((OpenSpec.ofChange Rows.fnDollarsAgreesWithStringAndReadsBackToMSpec).preRow enc Tryf.prog Tryf.f3 [] false Rows.fnDollarsAgreesWithStringAndReadsBackToMRow.laid) (fun F => ((OpenSpec.ofChange Rows.fnDollarsAgreesWithStringAndReadsBackToMSpec).at F).post enc Tryf.prog Tryf.f3 false true false false) (aloneAtReturn Tryf.prog) nothingAlways := by
  refine returnsInTold_of_row (C := Tryf.checked) (s := OpenSpec.ofChange Rows.fnDollarsAgreesWithStringAndReadsBackToMSpec) (by kernel_rfl) own started (by kernel_rfl) Tryf.func3
    (OpenSpec.witness_stopped_at (enc := enc) (C := Tryf.checked) false (laidOn (World.holding Tryf.prog os ⟨#[], #[], []⟩)) #[.int .i64 1] rfl (by kernel_rfl) (by kernel_rfl) (by kernel_rfl)
      (OpenSpec.preRow_of_B rfl 8 (by kernel_rfl) (by kernel_rfl) (laid_met os _))) ?_
  intro F W base args ds gs before _ hF hval0 hW _ _ _ hL _
  have hval : ∀ (j : Nat) t v, Tryf.f3.params[j]? = some t → args[j]? = some v → Value.okWide Tryf.prog W .any base t v := hval0
  have hW' := hW
  obtain ⟨p, q, hA0, hV, rfl, hfz, hnd⟩ := hW
  have hA : DataW.TrodAll enc Tryf.prog W 0 (fun _ => true) true Tryf.f3.params.toList args.toList ds p := hA0
  rw [Tryf.params3] at hA hval
  obtain ⟨v0, d0, rfl, rfl, h0⟩ := trodAll_one hA
  obtain ⟨rfl, rfl⟩ := trodVars_none hV
  obtain ⟨m, rfl, rfl, rfl, wm⟩ := open_int Tryf.underlying2 (hval 0 2 v0 rfl rfl) h0
  clear hA0 hval0
  refine (walk F m wm W hF (tab_of_laid hL)).mono fun e W' ⟨he, hg⟩ => ?_
  subst he
  refine ⟨_, rfl, _, _, _, [], [], [], hW', ?_, ?_, rfl, ?_, fun h => by cases h⟩
  · exact trodAll_mk1 (shut_bool Tryf.underlying4 _)
  · exact trodAll_mk1 (shut_int Tryf.underlying2 wm)
  · exact hg.frame _

theorem laidOut : laidOutB Tryf.pinned.checked.prog = true := by kernel_rfl
theorem stops : Tryf.pinned.checked.prog.stops = ["fmt.Sprintf"] := by kernel_rfl
theorem stopKnobs : Tryf.pinned.checked.prog.stopKnobs = [] := by kernel_rfl
theorem quiet (os : Os) : Stop.quiet Tryf.pinned.checked.prog os := by
  intro k hk
  rw [stopKnobs] at hk
  cases hk

set_option maxRecDepth 1000000 in
theorem proved : Rows.FnDollarsAgreesWithStringAndReadsBackToMToldSaid :=
  Claim7.holds_of_told_tied_any_at .later 3 Tryf.f3 "fmt.Sprintf" [] [] _ _ _ _ _ (by kernel_rfl) rfl rfl rfl laidOut (by kernel_rfl) rfl ⟨rfl, rfl, rfl, rfl, rfl, rfl, rfl⟩ rfl rfl (by kernel_rfl) (by kernel_rfl) Tryf.func3 (by kernel_rfl)
    (of_decide_eq_true (by kernel_rfl)) (of_decide_eq_true (by kernel_rfl)) stops.symm rfl stopKnobs.symm (by kernel_rfl)
    (by kernel_rfl) (by kernel_rfl) (by kernel_rfl) (by kernel_rfl) (by kernel_rfl) (by kernel_rfl) (by kernel_rfl) (by kernel_rfl) (by kernel_rfl) rfl (by kernel_rfl) rfl rfl
    rfl rfl
    rfl (by kernel_rfl) (by kernel_rfl) (by kernel_rfl) (by decide) (by kernel_rfl) fnDollarsAgreesWithStringAndReadsBackToM_row_tie
    (OpenClaim.moreEntering_of (by kernel_rfl) (by kernel_rfl) (by kernel_rfl) (by kernel_rfl) (by kernel_rfl) (by kernel_rfl) (by kernel_rfl) (by kernel_rfl) (by kernel_rfl) (by kernel_rfl))
    ⟨_, WideRow.started_initial, quiet _⟩
    (fun os started _ H enc _ => lifted os started H enc)
end Go.Proofs.Qxb6627960aFmt.agrees
