import Derived.Test.Qxb6627925aRows
import Derived.Test.Qxb6627925aInts
import Derived.Test.Qxb6627925aExact
import Derived.Test.Qxb6627925aExactNeg
import Derived.Test.Qxb6627925aExits
import Derived.WalkKit
import Derived.ProofKit
import Derived.OpenShut
import Derived.ShutString
namespace Go.Proofs.Qxb6627925a.fnPercentExactRoundingAndScaleFree
open Go.ChangeShapes Go.WideShapes Go.ChangeAt Go.RowKit
open Go.ChangeMaps (open_string shut_string)
set_option linter.unusedVariables false      -- a walk need not use every 'w<i>' (that an integer argument fits its kind)

theorem own : ownKnob Try.prog.godebug = none := by kernel_rfl


theorem prod_bd {a k : Int} (h1 : 0 ≤ a) (h2 : a ≤ 1099511627776) (h5 : 1 ≤ k) (h6 : k ≤ 65536) : 0 ≤ a * k ∧ a * k ≤ 72057594037927936 := by
  refine ⟨Int.mul_nonneg h1 (by omega), ?_⟩
  have := Int.mul_le_mul h2 h6 (by omega) (by omega)
  omega

theorem wrap_neg {a k : Int} (h1 : 0 ≤ a * k) (h2 : a * k ≤ 72057594037927936) : wrap64 (-a * k) = -(a * k) := by
  rw [Int.neg_mul]
  generalize a * k = x at *
  unfold wrap64
  omega

theorem percentIs {p w : Int} (h1 : -4398046511104 ≤ p) (h2 : p ≤ 4398046511104) (h3 : -4398046511104 ≤ w) (h4 : w ≤ 4398046511104) (h0 : w ≠ 0) : PercentIs p w (Fl.pct (hund p w)) :=
  fun W => percent_any p w W h1 h2 h3 h4 (by simpa using h0)

theorem percentIs_zero (p : Int) : PercentIs p 0 0 := fun W => percent_zero p W

theorem quoIs {z : Int} (h : z.natAbs ≤ 2 ^ 60) : QuoIs z (Fl.pct z) := fun W => run_float_arith W _ _ _ _ _ _ (Fl.div_eq h)

theorem order_zero' : FloatKind.f64.format.order 0 0 = some .eq := Fl.order_zero

/-- Both not negative, the whole not zero. -/
theorem walk_pos (p w k : Int) (W : World) (h1 : 0 ≤ p) (h2 : p ≤ 1099511627776) (h3 : 0 < w) (h4 : w ≤ 1099511627776) (h5 : 1 ≤ k) (h6 : k ≤ 65536) :
    Calls Try.prog 3 #[.int .i64 p, .int .i64 w, .int .i64 k] W fun e w' => e = .returned (.bool true) ∧ w' = W := by
  have bp := prod_bd h1 h2 h5 h6
  have bw := prod_bd (by omega) h4 h5 h6
  by_cases c : 1099511627776 < p * k ∨ 1099511627776 < w * k
  · exact exit_pos p w k W h1 h2 (by omega) h4 h5 h6 bp.1 bp.2 bw.1 bw.2 c
  · have hwk : 0 < w * k := Int.mul_pos h3 (by omega)
    have bd := hund_abs p w (by omega) (by omega) (by omega) (by omega)
    have hh := hund_pos p w h1 h3
    have r0 := Int.emod_nonneg (p * 10000) (show w ≠ 0 by omega)
    have r1 := Int.emod_lt_of_pos (p * 10000) h3
    have q0 : 0 ≤ p * 10000 / w := Int.ediv_nonneg (by omega) (by omega)
    have q1 : p * 10000 / w ≤ p * 10000 := Int.ediv_le_self _ (by omega)
    refine exact_pos p w k (Fl.pct (hund p w)) W h1 h2 h3 h4 h5 h6 bp.1 (by omega) bw.1 (by omega) (by simp; omega) q0 (by omega) r0 r1
      (percentIs (by omega) (by omega) (by omega) (by omega) (by omega)) ?_ (Fl.order_self bd) ?_ ?_
    · have := percentIs (p := p * k) (w := w * k) (by omega) (by omega) (by omega) (by omega) (by omega)
      rwa [hund_scale p w k (by omega)] at this
    · intro c2
      rw [if_pos c2] at hh
      rw [hh] at bd ⊢
      exact quoIs bd
    · intro c2
      rw [if_neg c2] at hh
      rw [hh] at bd ⊢
      exact quoIs bd

/-- Both negative. -/
theorem walk_neg (p w k : Int) (W : World) (h1 : 0 < p) (h2 : p ≤ 1099511627776) (h3 : 0 < w) (h4 : w ≤ 1099511627776) (h5 : 1 ≤ k) (h6 : k ≤ 65536) :
    Calls Try.prog 3 #[.int .i64 (-p), .int .i64 (-w), .int .i64 k] W fun e w' => e = .returned (.bool true) ∧ w' = W := by
  have bp := prod_bd (show 0 ≤ p by omega) h2 h5 h6
  have bw := prod_bd (show 0 ≤ w by omega) h4 h5 h6
  by_cases c : 1099511627776 < p * k ∨ 1099511627776 < w * k
  · exact exit_neg p w k W h1 h2 (by omega) h4 h5 h6 bp.1 bp.2 bw.1 bw.2 c
  · have hwk : 0 < w * k := Int.mul_pos h3 (by omega)
    have bd := hund_abs p w (by omega) (by omega) (by omega) (by omega)
    have hh := hund_pos p w (by omega) h3
    have r0 := Int.emod_nonneg (p * 10000) (show w ≠ 0 by omega)
    have r1 := Int.emod_lt_of_pos (p * 10000) h3
    have q0 : 0 ≤ p * 10000 / w := Int.ediv_nonneg (by omega) (by omega)
    have q1 : p * 10000 / w ≤ p * 10000 := Int.ediv_le_self _ (by omega)
    refine exact_neg p w k (Fl.pct (hund p w)) W h1 h2 h3 h4 h5 h6 bp.1 (by omega) bw.1 (by omega) (by simp; omega) q0 (by omega) r0 r1
      ?_ ?_ (Fl.order_self bd) ?_ ?_
    · have := percentIs (p := -p) (w := -w) (by omega) (by omega) (by omega) (by omega) (by omega)
      rwa [hund_neg] at this
    · rw [wrap_neg bp.1 bp.2, wrap_neg bw.1 bw.2]
      have := percentIs (p := -(p * k)) (w := -(w * k)) (by omega) (by omega) (by omega) (by omega) (by omega)
      rwa [hund_neg, hund_scale p w k (by omega)] at this
    · intro c2
      rw [if_pos c2] at hh
      rw [hh] at bd ⊢
      exact quoIs bd
    · intro c2
      rw [if_neg c2] at hh
      rw [hh] at bd ⊢
      exact quoIs bd

/-- The part zero, the whole negative. -/
theorem walk_neg0 (w k : Int) (W : World) (h3 : 0 < w) (h4 : w ≤ 1099511627776) (h5 : 1 ≤ k) (h6 : k ≤ 65536) :
    Calls Try.prog 3 #[.int .i64 0, .int .i64 (-w), .int .i64 k] W fun e w' => e = .returned (.bool true) ∧ w' = W := by
  have bw := prod_bd (show 0 ≤ w by omega) h4 h5 h6
  by_cases c : 1099511627776 < w * k
  · exact exit_neg0 w k W h3 h4 h5 h6 bw.1 bw.2 c
  · have hwk : 0 < w * k := Int.mul_pos h3 (by omega)
    have hz : ∀ v : Int, 0 < v → hund 0 (-v) = 0 := by
      intro v hv
      have := hund_pos 0 v (by omega) hv
      rw [← hund_neg 0 v] at this
      simpa [show ¬ v ≤ 0 by omega] using this
    refine exact_neg0 w k (Fl.pct 0) W h3 h4 h5 h6 bw.1 (by omega) (by simp; omega) ?_ ?_ (Fl.order_self (by decide)) (quoIs (by decide))
    · have := percentIs (p := 0) (w := -w) (by omega) (by omega) (by omega) (by omega) (by omega)
      rwa [hz w h3] at this
    · rw [wrap_neg bw.1 bw.2]
      have := percentIs (p := 0) (w := -(w * k)) (by omega) (by omega) (by omega) (by omega) (by omega)
      rwa [hz _ hwk] at this

theorem walk (a0 : Int) (a1 : Int) (a2 : Int) (w0 : (Lit.int .i64 a0).wf = true) (w1 : (Lit.int .i64 a1).wf = true) (w2 : (Lit.int .i64 a2).wf = true) (w : World) :
    Calls Try.prog 3 #[.int .i64 a0, .int .i64 a1, .int .i64 a2] w fun e w' => e = .returned (.bool true) ∧ Grown w w' := by
  suffices h : Calls Try.prog 3 #[.int .i64 a0, .int .i64 a1, .int .i64 a2] w fun e w' => e = .returned (.bool true) ∧ w' = w by
    refine h.mono ?_
    rintro e w' ⟨rfl, rfl⟩
    exact ⟨rfl, Grown.refl _⟩
  clear w0 w1 w2
  by_cases cr : 1099511627776 < a0 ∨ a0 < -1099511627776 ∨ 1099511627776 < a1 ∨ a1 < -1099511627776
  · exact exit_range a0 a1 a2 w cr
  by_cases ck : a2 < 1 ∨ 65536 < a2
  · exact exit_k a0 a1 a2 w (by omega) (by omega) (by omega) (by omega) ck
  by_cases cs : a0 < 0 ∧ 0 < a1 ∨ 0 < a0 ∧ a1 < 0
  · exact exit_sign a0 a1 a2 w (by omega) (by omega) (by omega) (by omega) (by omega) (by omega) cs
  by_cases c1 : 0 < a1
  · exact walk_pos a0 a1 a2 w (by omega) (by omega) c1 (by omega) (by omega) (by omega)
  by_cases c2 : a1 = 0
  · subst c2
    by_cases c3 : 0 ≤ a0
    · have bp := prod_bd (show 0 ≤ a0 by omega) (by omega) (show 1 ≤ a2 by omega) (by omega)
      by_cases c4 : 1099511627776 < a0 * a2
      · exact exit_pos a0 0 a2 w c3 (by omega) (by omega) (by omega) (by omega) (by omega) bp.1 bp.2 (by omega) (by omega) (Or.inl c4)
      · exact exact_zero_pos a0 a2 w c3 (by omega) (by omega) (by omega) bp.1 (by omega) (percentIs_zero _) (percentIs_zero _) order_zero'
    · obtain ⟨p, rfl⟩ : ∃ p : Int, a0 = -p := ⟨-a0, by omega⟩
      have bp := prod_bd (show 0 ≤ p by omega) (by omega) (show 1 ≤ a2 by omega) (by omega)
      by_cases c4 : 1099511627776 < p * a2
      · exact exit_zero_neg p a2 w (by omega) (by omega) (by omega) (by omega) bp.1 bp.2 c4
      · exact exact_zero_neg p a2 w (by omega) (by omega) (by omega) (by omega) bp.1 (by omega) (percentIs_zero _) (percentIs_zero _) order_zero'
  · obtain ⟨v, rfl⟩ : ∃ v : Int, a1 = -v := ⟨-a1, by omega⟩
    by_cases c3 : a0 = 0
    · subst c3
      exact walk_neg0 v a2 w (by omega) (by omega) (by omega) (by omega)
    · obtain ⟨p, rfl⟩ : ∃ p : Int, a0 = -p := ⟨-a0, by omega⟩
      exact walk_neg p v a2 w (by omega) (by omega) (by omega) (by omega) (by omega) (by omega)

set_option maxRecDepth 100000 in
theorem lifted (os : Os) (started : os.Started) (H : Type) (enc : TypeId × Value → H) :
    ReturnsInHanded {} Try.checked os 3 .any (Rows.fnPercentExactRoundingAndScaleFreeSpec.pre6 enc Try.prog Try.f3 Rows.fnPercentExactRoundingAndScaleFreeRow.domain false) (Rows.fnPercentExactRoundingAndScaleFreeSpec.post enc Try.prog Try.f3 false true false false) := by
  refine returnsInHanded_of_change (C := Try.checked) own started (by kernel_rfl) Try.func3
    (ChangeSpec.witness6 (enc := enc) (C := Try.checked) false ⟨#[], #[.int .i64 0, .int .i64 0, .int .i64 0], []⟩ 8 (by kernel_rfl) (by kernel_rfl) (by kernel_rfl) (by kernel_rfl)) ?_
  intro W base args ds gs before hval0 hW hcnd _
  have hval : ∀ (j : Nat) t v, Try.f3.params[j]? = some t → args[j]? = some v → Value.okWide Try.prog W .any base t v := hval0
  have hW' := hW
  obtain ⟨p, q, hA0, hV, rfl, hfz, hnd⟩ := hW
  have hA : DataW.TrodAll enc Try.prog W 0 (fun _ => true) true Try.f3.params.toList args.toList ds p := hA0
  rw [Try.params3] at hA hval
  obtain ⟨v0, vs0, d0, ds0, p0, q0, hargs, rfl, rfl, h0, r0⟩ := trodAll_cons hA
  obtain ⟨v1, vs1, d1, ds1, p1, q1, rfl, rfl, rfl, h1, r1⟩ := trodAll_cons r0
  obtain ⟨v2, vs2, d2, ds2, p2, q2, rfl, rfl, rfl, h2, r2⟩ := trodAll_cons r1
  obtain ⟨rfl, rfl, rfl⟩ := trodAll_nil r2
  obtain rfl : args = #[v0, v1, v2] := by cases args; simp_all
  obtain ⟨rfl, rfl⟩ := trodVars_none hV
  obtain ⟨a0, rfl, rfl, rfl, w0⟩ := open_int Try.underlying3 (hval 0 3 v0 rfl rfl) h0
  obtain ⟨a1, rfl, rfl, rfl, w1⟩ := open_int Try.underlying3 (hval 1 3 v1 rfl rfl) h1
  obtain ⟨a2, rfl, rfl, rfl, w2⟩ := open_int Try.underlying3 (hval 2 3 v2 rfl rfl) h2
  clear hA0 hval0
  simp only [List.append_nil] at hW'
  refine (walk a0 a1 a2 w0 w1 w2 W).mono fun e W' ⟨he, hg⟩ => ?_
  subst he
  exact ⟨_, rfl, post_of_same (pa := []) (pv := []) hW' (fun _ _ _ => (trodAll_cons_mk (shut_bool Try.underlying4 _) trodAll_mk0)) (fun sp _ => (trodAll_cons_mk (shut_int Try.underlying3 w0) (trodAll_cons_mk (shut_int Try.underlying3 w1) (trodAll_cons_mk (shut_int Try.underlying3 w2) trodAll_mk0)))) (fun _ _ => rfl) rfl
    (hg.frame _) hg.2.1 (ok_one (by kernel_rfl) rfl (okWide_bool_mk Try.underlying4 _))⟩

theorem over : Rows.fnPercentExactRoundingAndScaleFreeRow.holds Try.pinned (OpenSpec.ofChange Rows.fnPercentExactRoundingAndScaleFreeSpec) :=
  OpenClaim.holds_of_wide 3 Try.f3 rfl rfl rfl rfl rfl rfl rfl ⟨rfl, rfl, rfl, rfl, rfl⟩ rfl rfl rfl rfl rfl (by kernel_rfl) Try.func3 (by kernel_rfl)
    (of_decide_eq_true (by kernel_rfl)) (by unfold Func.isWrapper; first | (rw [if_pos (by decide +kernel)]; kernel_rfl) | (rw [if_neg (by decide +kernel)]; exact ⟨rfl, rfl⟩))
    (fun os started H enc _ => lifted os started H enc)

theorem proved : Rows.FnPercentExactRoundingAndScaleFreeSaid :=
  over
end Go.Proofs.Qxb6627925a.fnPercentExactRoundingAndScaleFree
