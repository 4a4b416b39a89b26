import Derived.Test.Qxb6627925aRows
import Derived.Test.Qxb6627925aInts
import Derived.Test.Qxb6627925aMono
import Derived.WalkKit
import Derived.ProofKit
import Derived.OpenShut
import Derived.ShutString
namespace Go.Proofs.Qxb6627925a.fnPercentSignSymmetricFullAndMonotone
open Go.ChangeShapes Go.WideShapes Go.ChangeAt Go.RowKit
open Go.ChangeMaps (open_string shut_string)
set_option linter.unusedVariables false      -- a walk need not use every 'w<i>' (that an integer argument fits its kind)

theorem own : ownKnob Try.prog.godebug = none := by kernel_rfl


theorem percentIs {p w : Int} (h1 : -4398046511104 ≤ p) (h2 : p ≤ 4398046511104) (h3 : -4398046511104 ≤ w) (h4 : w ≤ 4398046511104) (h0 : w ≠ 0) : PercentIs p w (Fl.pct (hund p w)) :=
  fun W => percent_any p w W h1 h2 h3 h4 (by simpa using h0)

theorem percentIs_zero (p : Int) : PercentIs p 0 0 := fun W => percent_zero p W

theorem full {w : Int} (h3 : -1099511627776 ≤ w) (h4 : w ≤ 1099511627776) (h0 : w ≠ 0) : PercentIs w w 4636737291354636288 := by
  have := percentIs (p := w) (w := w) (by omega) (by omega) (by omega) (by omega) h0
  rwa [hund_full w h0, Fl.pct_full] at this

theorem turned {p w : Int} (h1 : -1099511627776 ≤ p) (h2 : p ≤ 1099511627776) (h3 : -1099511627776 ≤ w) (h4 : w ≤ 1099511627776) (h0 : w ≠ 0) : PercentIs (-p) (-w) (Fl.pct (hund p w)) := by
  have := percentIs (p := -p) (w := -w) (by omega) (by omega) (by omega) (by omega) (by omega)
  rwa [hund_neg] at this

theorem walk (a0 : Int) (a1 : Int) (a2 : Int) (w0 : (Lit.int .i64 a0).wf = true) (w1 : (Lit.int .i64 a1).wf = true) (w2 : (Lit.int .i64 a2).wf = true) (w : World) :
    Calls Try.prog 4 #[.int .i64 a0, .int .i64 a1, .int .i64 a2] w fun e w' => e = .returned (.bool true) ∧ Grown w w' := by
  suffices h : Calls Try.prog 4 #[.int .i64 a0, .int .i64 a1, .int .i64 a2] w fun e w' => e = .returned (.bool true) ∧ w' = w by
    refine h.mono ?_
    rintro e w' ⟨rfl, rfl⟩
    exact ⟨rfl, Grown.refl _⟩
  clear w0 w1 w2
  by_cases cr : 1099511627776 < a0 ∨ a0 < -1099511627776 ∨ 1099511627776 < a1 ∨ a1 < -1099511627776
  · exact mono_range a0 a1 a2 w cr
  by_cases cd : a2 < 0 ∨ 1099511627776 < a2
  · exact mono_d a0 a1 a2 w (by omega) (by omega) (by omega) (by omega) cd
  by_cases c0 : a1 = 0
  · subst c0
    exact mono_zero a0 a2 w (by omega) (by omega) (by omega) (by omega) (percentIs_zero _) (percentIs_zero _) Fl.order_zero
  have b1 := hund_abs a0 a1 (by omega) (by omega) (by omega) (by omega)
  have b2 := hund_abs (a0 + a2) a1 (by omega) (by omega) (by omega) (by omega)
  by_cases cw : 0 < a1
  · refine mono_pos a0 a1 a2 (Fl.pct (hund a0 a1)) (Fl.pct (hund (a0 + a2) a1)) w (by omega) (by omega) cw (by omega) (by omega) (by omega) (by simpa using c0)
      (full (by omega) (by omega) c0) (percentIs (by omega) (by omega) (by omega) (by omega) c0) (turned (by omega) (by omega) (by omega) (by omega) c0)
      (percentIs (by omega) (by omega) (by omega) (by omega) c0) Fl.order_full (Fl.order_self b1) ?_
    have h : FloatKind.f64.format.order (Fl.pct (hund a0 a1)) (Fl.pct (hund (a0 + a2) a1)) = some .eq ∨ FloatKind.f64.format.order (Fl.pct (hund a0 a1)) (Fl.pct (hund (a0 + a2) a1)) = some .lt :=
      Fl.order_mono b1 b2 (hund_mono a0 (a0 + a2) a1 (by omega) cw)
    rcases h with h | h <;> rw [h] <;> rfl
  · refine mono_neg a0 a1 a2 (Fl.pct (hund a0 a1)) (Fl.pct (hund (a0 + a2) a1)) w (by omega) (by omega) (by omega) (by omega) (by omega) (by omega) (by simpa using c0)
      (full (by omega) (by omega) c0) (percentIs (by omega) (by omega) (by omega) (by omega) c0) (turned (by omega) (by omega) (by omega) (by omega) c0)
      (percentIs (by omega) (by omega) (by omega) (by omega) c0) Fl.order_full (Fl.order_self b1) ?_
    have h : FloatKind.f64.format.order (Fl.pct (hund a0 a1)) (Fl.pct (hund (a0 + a2) a1)) = some .eq ∨ FloatKind.f64.format.order (Fl.pct (hund a0 a1)) (Fl.pct (hund (a0 + a2) a1)) = some .gt :=
      Fl.order_anti b1 b2 (hund_anti a0 (a0 + a2) a1 (by omega) (by omega))
    rcases h with h | h <;> rw [h] <;> rfl

set_option maxRecDepth 100000 in
theorem lifted (os : Os) (started : os.Started) (H : Type) (enc : TypeId × Value → H) :
    ReturnsInHanded {} Try.checked os 4 .any (Rows.fnPercentSignSymmetricFullAndMonotoneSpec.pre6 enc Try.prog Try.f4 Rows.fnPercentSignSymmetricFullAndMonotoneRow.domain false) (Rows.fnPercentSignSymmetricFullAndMonotoneSpec.post enc Try.prog Try.f4 false true false false) := by
  refine returnsInHanded_of_change (C := Try.checked) own started (by kernel_rfl) Try.func4
    (ChangeSpec.witness6 (enc := enc) (C := Try.checked) false ⟨#[], #[.int .i64 0, .int .i64 0, .int .i64 0], []⟩ 8 (by kernel_rfl) (by kernel_rfl) (by kernel_rfl) (by kernel_rfl)) ?_
  intro W base args ds gs before hval0 hW hcnd _
  have hval : ∀ (j : Nat) t v, Try.f4.params[j]? = some t → args[j]? = some v → Value.okWide Try.prog W .any base t v := hval0
  have hW' := hW
  obtain ⟨p, q, hA0, hV, rfl, hfz, hnd⟩ := hW
  have hA : DataW.TrodAll enc Try.prog W 0 (fun _ => true) true Try.f4.params.toList args.toList ds p := hA0
  rw [Try.params4] at hA hval
  obtain ⟨v0, vs0, d0, ds0, p0, q0, hargs, rfl, rfl, h0, r0⟩ := trodAll_cons hA
  obtain ⟨v1, vs1, d1, ds1, p1, q1, rfl, rfl, rfl, h1, r1⟩ := trodAll_cons r0
  obtain ⟨v2, vs2, d2, ds2, p2, q2, rfl, rfl, rfl, h2, r2⟩ := trodAll_cons r1
  obtain ⟨rfl, rfl, rfl⟩ := trodAll_nil r2
  obtain rfl : args = #[v0, v1, v2] := by cases args; simp_all
  obtain ⟨rfl, rfl⟩ := trodVars_none hV
  obtain ⟨a0, rfl, rfl, rfl, w0⟩ := open_int Try.underlying3 (hval 0 3 v0 rfl rfl) h0
  obtain ⟨a1, rfl, rfl, rfl, w1⟩ := open_int Try.underlying3 (hval 1 3 v1 rfl rfl) h1
  obtain ⟨a2, rfl, rfl, rfl, w2⟩ := open_int Try.underlying3 (hval 2 3 v2 rfl rfl) h2
  clear hA0 hval0
  simp only [List.append_nil] at hW'
  refine (walk a0 a1 a2 w0 w1 w2 W).mono fun e W' ⟨he, hg⟩ => ?_
  subst he
  exact ⟨_, rfl, post_of_same (pa := []) (pv := []) hW' (fun _ _ _ => (trodAll_cons_mk (shut_bool Try.underlying4 _) trodAll_mk0)) (fun sp _ => (trodAll_cons_mk (shut_int Try.underlying3 w0) (trodAll_cons_mk (shut_int Try.underlying3 w1) (trodAll_cons_mk (shut_int Try.underlying3 w2) trodAll_mk0)))) (fun _ _ => rfl) rfl
    (hg.frame _) hg.2.1 (ok_one (by kernel_rfl) rfl (okWide_bool_mk Try.underlying4 _))⟩

theorem over : Rows.fnPercentSignSymmetricFullAndMonotoneRow.holds Try.pinned (OpenSpec.ofChange Rows.fnPercentSignSymmetricFullAndMonotoneSpec) :=
  OpenClaim.holds_of_wide 4 Try.f4 rfl rfl rfl rfl rfl rfl rfl ⟨rfl, rfl, rfl, rfl, rfl⟩ rfl rfl rfl rfl rfl (by kernel_rfl) Try.func4 (by kernel_rfl)
    (of_decide_eq_true (by kernel_rfl)) (by unfold Func.isWrapper; first | (rw [if_pos (by decide +kernel)]; kernel_rfl) | (rw [if_neg (by decide +kernel)]; exact ⟨rfl, rfl⟩))
    (fun os started H enc _ => lifted os started H enc)

theorem proved : Rows.FnPercentSignSymmetricFullAndMonotoneSaid :=
  over
end Go.Proofs.Qxb6627925a.fnPercentSignSymmetricFullAndMonotone
