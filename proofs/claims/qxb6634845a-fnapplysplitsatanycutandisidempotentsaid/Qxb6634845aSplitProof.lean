/-
  FnApplySplitsAtAnyCutAndIsIdempotent: the statement.
-/
import Derived.Test.Qxb6634845aOpen
import Derived.Test.Qxb6634845aSplit
namespace Go.Proofs.Qxb6634845a.splits
open Go.ChangeShapes Go.WideShapes Go.ChangeAt Go.RowKit
set_option linter.unusedVariables false

/-- An input past the law's bounds: she answers true at once. -/
def Big (n nk nf : Nat) (k : Int) : Prop := 4096 < n ∨ 4096 < nk ∨ 4096 < nf

set_option maxRecDepth 100000 in
set_option maxHeartbeats 1000000 in
theorem exit1 (a b' c : Option Addr) (n nk nf cap cap2 cap3 : Nat) (k : Int) (w : World)
    (c5 : BytesIs 13 w #[.slice a n cap, .slice b' nk cap2, .slice c nf cap3, .int .i64 k]) (h : Big n nk nf k) :
    Calls Try.prog 4 #[.slice a n cap, .slice b' nk cap2, .slice c nf cap3, .int .i64 k] w fun e w' => e = .returned (.bool true) ∧ Below w.heap.size w w' := by
  unfold Big at h
  by_cases h1 : 4096 < n
  · clear h
    have g1 : (4096 : Int) < (n : Int) := by omega
    go_enter Try.func4, Try.ntmps4
    go_wp2_with fail
    refine (c5 : Calls ..).mono ?_
    rintro e w' ⟨hb | hb, hw⟩
    all_goals
      subst hb hw
      go_wp2_with fail
      go_ret
      exact ⟨rfl, Below.refl _ _⟩
  have g1 : ¬ (4096 : Int) < (n : Int) := by omega
  by_cases h2 : 4096 < nk
  · clear h
    have g2 : (4096 : Int) < (nk : Int) := by omega
    go_enter Try.func4, Try.ntmps4
    go_wp2_with fail
    refine (c5 : Calls ..).mono ?_
    rintro e w' ⟨hb | hb, hw⟩
    all_goals
      subst hb hw
      go_wp2_with fail
      go_ret
      exact ⟨rfl, Below.refl _ _⟩
  have g2 : ¬ (4096 : Int) < (nk : Int) := by omega
  have g3 : (4096 : Int) < (nf : Int) := by omega
  clear h
  go_enter Try.func4, Try.ntmps4
  go_wp2_with fail
  refine (c5 : Calls ..).mono ?_
  rintro e w' ⟨hb | hb, hw⟩
  all_goals
    subst hb hw
    go_wp2_with fail
    go_ret
    exact ⟨rfl, Below.refl _ _⟩

set_option maxRecDepth 100000 in
set_option maxHeartbeats 1000000 in
theorem exit2 (a b' c : Option Addr) (n nk nf cap cap2 cap3 : Nat) (k : Int) (w : World)
    (c5 : BytesIs 13 w #[.slice a n cap, .slice b' nk cap2, .slice c nf cap3, .int .i64 k]) (c6 : WithinIs w #[.slice a n cap, .slice b' nk cap2, .slice c nf cap3])
    (h1 : n ≤ 4096) (h2 : nk ≤ 4096) (h3 : nf ≤ 4096) (h : k < 0 ∨ (nf : Int) < k) :
    Calls Try.prog 4 #[.slice a n cap, .slice b' nk cap2, .slice c nf cap3, .int .i64 k] w fun e w' => e = .returned (.bool true) ∧ Below w.heap.size w w' := by
  have g1 : ¬ (4096 : Int) < (n : Int) := by omega
  have g2 : ¬ (4096 : Int) < (nk : Int) := by omega
  have g3 : ¬ (4096 : Int) < (nf : Int) := by omega
  rcases h with h | h
  all_goals
    go_enter Try.func4, Try.ntmps4
    go_wp2_with fail
    refine (c5 : Calls ..).mono ?_
    rintro e w' ⟨hb | hb, hw⟩
    · subst hb hw
      go_wp2_with fail
      refine (c6 : Calls ..).mono ?_
      rintro e w6 ⟨hb | hb, hb6⟩
      all_goals
        subst hb
        go_wp2_with fail
        go_ret
        exact ⟨rfl, hb6⟩
    · subst hb hw
      go_wp2_with fail
      go_ret
      exact ⟨rfl, Below.refl _ _⟩

theorem walk (a b' c : Option Addr) (n nk nf cap cap2 cap3 : Nat) (k : Int) (R V C K L : Nat → ByteArray) (F : Nat → Fd) (w : World) (hr : Ru w a n R V) (hk : Kr w b' nk C K L) (hf : Fs w c nf F) :
    Calls Try.prog 4 #[.slice a n cap, .slice b' nk cap2, .slice c nf cap3, .int .i64 k] w fun e w' => e = .returned (.bool true) ∧ Below w.heap.size w w' := by
  have c5 : BytesIs 13 w #[.slice a n cap, .slice b' nk cap2, .slice c nf cap3, .int .i64 k] := bytes13 a b' c n nk nf cap cap2 cap3 R V C K L F k w hr hk hf
  by_cases h : 4096 < n ∨ 4096 < nk ∨ 4096 < nf
  · exact exit1 a b' c n nk nf cap cap2 cap3 k w c5 h
  have c6 : WithinIs w #[.slice a n cap, .slice b' nk cap2, .slice c nf cap3] := within6 a b' c n nk nf cap cap2 cap3 R V C K L F w hr hk hf (by omega) (by omega) (by omega)
  by_cases hcut : k < 0 ∨ (nf : Int) < k
  · exact exit2 a b' c n nk nf cap cap2 cap3 k w c5 c6 (by omega) (by omega) (by omega) hcut
  obtain ⟨j, rfl⟩ : ∃ j : Nat, k = (j : Int) := ⟨k.toNat, by omega⟩
  exact split_core a b' c n nk nf j cap cap2 cap3 R V C K L F w hr hk hf c5 c6 (by omega) (by omega) (by omega) (by omega)

theorem own : ownKnob Try.prog.godebug = none := by kernel_rfl
theorem laidOut : laidOutB Try.prog = true := by kernel_rfl

set_option maxRecDepth 100000 in
theorem lifted (os : Os) (started : os.Started) (H : Type) (enc : TypeId × Value → H) :
    ReturnsInHanded {} Try.checked os 4 .any (Rows.fnApplySplitsAtAnyCutAndIsIdempotentSpec.pre6 enc Try.prog Try.f4 Rows.fnApplySplitsAtAnyCutAndIsIdempotentRow.domain false) (Rows.fnApplySplitsAtAnyCutAndIsIdempotentSpec.post enc Try.prog Try.f4 false true false false) := by
  refine returnsInHanded_of_change (C := Try.checked) own started (by kernel_rfl) Try.func4
    (ChangeSpec.witness6 (enc := enc) (C := Try.checked) false ⟨#[], #[.slice none 0 0, .slice none 0 0, .slice none 0 0, .int .i64 0], []⟩ 8 (by kernel_rfl) (by kernel_rfl) (by kernel_rfl) (by kernel_rfl)) ?_
  intro W base args ds gs before hval0 hW hcnd _
  have hval : ∀ (j : Nat) t v, Try.f4.params[j]? = some t → args[j]? = some v → Value.okWide Try.prog W .any base t v := hval0
  have hW' := hW
  obtain ⟨p, q, hA0, hV, rfl, hfz, hnd⟩ := hW
  have hA : DataW.TrodAll enc Try.prog W 0 (fun _ => true) true Try.f4.params.toList args.toList ds p := hA0
  rw [Try.params4] at hA hval
  obtain ⟨v0, vs0, d0, ds0, p0, q0, hargs, rfl, rfl, h0, r0⟩ := trodAll_cons hA
  obtain ⟨v1, vs1, d1, ds1, p1, q1, rfl, rfl, rfl, h1, r1⟩ := trodAll_cons r0
  obtain ⟨v2, vs2, d2, ds2, p2, q2, rfl, rfl, rfl, h2, r2⟩ := trodAll_cons r1
  obtain ⟨v3, vs3, d3, ds3, p3, q3, rfl, rfl, rfl, h3, r3⟩ := trodAll_cons r2
  obtain ⟨rfl, rfl, rfl⟩ := trodAll_nil r3
  obtain rfl : args = #[v0, v1, v2, v3] := by cases args; simp_all
  obtain ⟨rfl, rfl⟩ := trodVars_none hV
  obtain ⟨a0, len0, cap0, rfl⟩ := okWide_slice Try.underlying22 (hval 0 22 v0 rfl rfl)
  obtain ⟨a1, len1, cap1, rfl⟩ := okWide_slice Try.underlying23 (hval 1 23 v1 rfl rfl)
  obtain ⟨a2, len2, cap2, rfl⟩ := okWide_slice Try.underlying24 (hval 2 24 v2 rfl rfl)
  obtain ⟨x3, rfl, rfl, rfl, wf3⟩ := open_int Try.underlying3 (hval 3 3 v3 rfl rfl) h3
  have k0 := h0
  have k1 := h1
  have k2 := h2
  have lt0 : ∀ x ∈ p0, x.block < W.heap.size := by obtain ⟨m, hm⟩ := k0; exact DataW.trod_lt m _ _ _ hm
  have lt1 : ∀ x ∈ p1, x.block < W.heap.size := by obtain ⟨m, hm⟩ := k1; exact DataW.trod_lt m _ _ _ hm
  have lt2 : ∀ x ∈ p2, x.block < W.heap.size := by obtain ⟨m, hm⟩ := k2; exact DataW.trod_lt m _ _ _ hm
  obtain ⟨R, V, hR⟩ := open_rules h0
  obtain ⟨C, K, L, hK⟩ := open_crds h1
  obtain ⟨F, hF⟩ := open_finds h2
  clear hA0 hval0
  refine (walk a0 a1 a2 len0 len1 len2 cap0 cap1 cap2 x3 R V C K L F W hR hK hF).mono fun e W' ⟨he, bel⟩ => ?_
  subst he
  exact ⟨_, rfl, _, _, _, [], _, [], hW', trodAll_mk1 (shut_bool Try.underlying4 _),
    (trodAll_cons_mk (Below.trod laidOut (by kernel_rfl) (of_decide_eq_true (by kernel_rfl)) k0 bel lt0) (trodAll_cons_mk (Below.trod laidOut (by kernel_rfl) (of_decide_eq_true (by kernel_rfl)) k1 bel lt1)
      (trodAll_cons_mk (Below.trod laidOut (by kernel_rfl) (of_decide_eq_true (by kernel_rfl)) k2 bel lt2) (trodAll_cons_mk (shut_int Try.underlying3 wf3) trodAll_mk0)))), rfl, bel.frame _, fun h => by cases h⟩

theorem over : Rows.fnApplySplitsAtAnyCutAndIsIdempotentRow.holds Try.pinned (OpenSpec.ofChange Rows.fnApplySplitsAtAnyCutAndIsIdempotentSpec) :=
  OpenClaim.holds_of_wide 4 Try.f4 rfl rfl rfl rfl rfl rfl rfl ⟨rfl, rfl, rfl, rfl, rfl⟩ rfl rfl rfl rfl rfl (by kernel_rfl) Try.func4 (by kernel_rfl)
    (of_decide_eq_true (by kernel_rfl)) (by unfold Func.isWrapper; first | (rw [if_pos (by decide +kernel)]; kernel_rfl) | (rw [if_neg (by decide +kernel)]; exact ⟨rfl, rfl⟩))
    (fun os started H enc _ => lifted os started H enc)

theorem proved : Rows.FnApplySplitsAtAnyCutAndIsIdempotentSaid := over
end Go.Proofs.Qxb6634845a.splits
