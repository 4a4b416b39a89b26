/-
  FnActionNeededSplitAtAnyCut: the statement.
-/
import Derived.Test.Qxb6627990aOpen
namespace Go.Proofs.Qxb6627990a.splitAt
open Go.ChangeShapes Go.WideShapes Go.ChangeAt Go.RowKit
open Go.ChangeMaps (open_string shut_string)
set_option linter.unusedVariables false

set_option maxHeartbeats 1000000 in
theorem exit1 (fund tier : ByteArray) (sh : Bool) (a : Option Addr) (n cap : Nat) (k : Int) (w : World)
    (c9 : Bytes9 w #[.string fund, .bool sh, .string tier, .slice a n cap, .int .i64 k])
    (h : 65536 < fund.size ∨ 65536 < tier.size ∨ 65536 < n) :
    Calls Try.prog 4 #[.string fund, .bool sh, .string tier, .slice a n cap, .int .i64 k] w fun e w' => e = .returned (.bool true) ∧ Below w.heap.size w w' := by
  rcases h with h | h | h
  all_goals
    go_enter Try.func4, Try.ntmps4
    go_wp2_with fail
    refine (c9 : Calls ..).mono ?_
    rintro e w' ⟨hb | hb, hw⟩
    · subst hb hw
      go_wp2_with fail
      all_goals
        go_ret
        exact ⟨rfl, Below.refl _ _⟩
    · subst hb hw
      go_wp2_with fail
      go_ret
      exact ⟨rfl, Below.refl _ _⟩

set_option maxHeartbeats 1000000 in
theorem exit3 (fund tier : ByteArray) (sh : Bool) (a : Option Addr) (n cap : Nat) (k : Int) (w : World)
    (c9 : Bytes9 w #[.string fund, .bool sh, .string tier, .slice a n cap, .int .i64 k])
    (c6 : Over6 w #[.string fund, .string tier, .string ⟨#[]⟩, .string ⟨#[]⟩, .slice a n cap])
    (h1 : fund.size ≤ 65536) (h2 : tier.size ≤ 65536) (h3 : n ≤ 65536) (h : k < 0 ∨ (n : Int) < k) :
    Calls Try.prog 4 #[.string fund, .bool sh, .string tier, .slice a n cap, .int .i64 k] w fun e w' => e = .returned (.bool true) ∧ Below w.heap.size w w' := by
  rcases h with h | h
  all_goals
    go_enter Try.func4, Try.ntmps4
    go_wp2_with fail
    refine (c9 : Calls ..).mono ?_
    rintro e w' ⟨hb | hb, hw⟩
    · subst hb hw
      go_wp2_with fail
      refine (c6 : Calls ..).mono ?_
      rintro e w' ⟨hb | hb, q, hw⟩
      all_goals
        subst hb hw
        go_wp2_with fail
        go_ret
        exact ⟨rfl, below_drewN (Below.refl _ _)⟩
    · subst hb hw
      go_wp2_with fail
      go_ret
      exact ⟨rfl, Below.refl _ _⟩

theorem walk (fund tier : ByteArray) (sh : Bool) (a : Option Addr) (n cap : Nat) (k : Int) (C V : Nat → ByteArray) (w : World) (hc : Cl w a n C V) (hcap : n ≤ cap) :
    Calls Try.prog 4 #[.string fund, .bool sh, .string tier, .slice a n cap, .int .i64 k] w fun e w' => e = .returned (.bool true) ∧ Below w.heap.size w w' := by
  have c9 : Bytes9 w #[.string fund, .bool sh, .string tier, .slice a n cap, .int .i64 k] := bytes9 fund tier sh k a n cap C V w hc
  by_cases h : 65536 < fund.size ∨ 65536 < tier.size ∨ 65536 < n
  · exact exit1 fund tier sh a n cap k w c9 h
  have c6 : Over6 w #[.string fund, .string tier, .string ⟨#[]⟩, .string ⟨#[]⟩, .slice a n cap] :=
    over6 fund tier ⟨#[]⟩ ⟨#[]⟩ a n cap C V w hc (by omega) (by omega) (by decide) (by decide) (by omega)
  by_cases hk : k < 0 ∨ (n : Int) < k
  · exact exit3 fund tier sh a n cap k w c9 c6 (by omega) (by omega) (by omega) hk
  obtain ⟨j, rfl⟩ : ∃ j : Nat, k = (j : Int) := ⟨k.toNat, by omega⟩
  by_cases hck : cap = j
  · subst hck
    obtain rfl : n = cap := by omega
    exact split_eq fund tier sh a n C V w c9 c6 (by omega) (by omega) (by omega)
      (buildIs fund tier sh a n n C V hc (by omega)) (actionIs fund tier sh n C V (by omega))
      (buildIs fund tier false a n n C V hc (by omega)) (actionIs fund tier false n C V (by omega))
      (buildIs fund tier false a 0 0 _ _ Cl.zero (by omega)) (actionIs fund tier false 0 _ _ (by omega))
  · exact split_ne fund tier sh a n cap j C V w hck c9 c6 (by omega) (by omega) (by omega) (by omega) hcap
      (buildIs fund tier sh a n cap C V hc (by omega)) (actionIs fund tier sh n C V (by omega))
      (buildIs fund tier false a j cap C V (hc.take (by omega)) (by omega)) (actionIs fund tier false j C V (by omega))
      (buildIs fund tier false _ (n - j) (cap - j) _ _ hc.drop (by omega)) (actionIs fund tier false (n - j) _ _ (by omega))

theorem own : ownKnob Try.prog.godebug = none := by kernel_rfl
theorem laidOut : laidOutB Try.prog = true := by kernel_rfl

set_option maxRecDepth 100000 in
theorem lifted (os : Os) (started : os.Started) (H : Type) (enc : TypeId × Value → H) :
    ReturnsInHanded {} Try.checked os 4 .any (Rows.fnActionNeededSplitAtAnyCutSpec.pre6 enc Try.prog Try.f4 Rows.fnActionNeededSplitAtAnyCutRow.domain false) (Rows.fnActionNeededSplitAtAnyCutSpec.post enc Try.prog Try.f4 false true false false) := by
  refine returnsInHanded_of_change (C := Try.checked) own started (by kernel_rfl) Try.func4
    (ChangeSpec.witness6 (enc := enc) (C := Try.checked) false ⟨#[], #[.string ⟨#[]⟩, .bool false, .string ⟨#[]⟩, .slice none 0 0, .int .i64 0], []⟩ 8 (by kernel_rfl) (by kernel_rfl) (by kernel_rfl) (by kernel_rfl)) ?_
  intro W base args ds gs before hval0 hW hcnd _
  have hval : ∀ (j : Nat) t v, Try.f4.params[j]? = some t → args[j]? = some v → Value.okWide Try.prog W .any base t v := hval0
  have hW' := hW
  obtain ⟨p, q, hA0, hV, rfl, hfz, hnd⟩ := hW
  have hA : DataW.TrodAll enc Try.prog W 0 (fun _ => true) true Try.f4.params.toList args.toList ds p := hA0
  rw [Try.params4] at hA hval
  obtain ⟨v0, vs0, d0, ds0, p0, q0, hargs, rfl, rfl, h0, r0⟩ := trodAll_cons hA
  obtain ⟨v1, vs1, d1, ds1, p1, q1, rfl, rfl, rfl, h1, r1⟩ := trodAll_cons r0
  obtain ⟨v2, vs2, d2, ds2, p2, q2, rfl, rfl, rfl, h2, r2⟩ := trodAll_cons r1
  obtain ⟨v3, vs3, d3, ds3, p3, q3, rfl, rfl, rfl, h3, r3⟩ := trodAll_cons r2
  obtain ⟨v4, vs4, d4, ds4, p4, q4, rfl, rfl, rfl, h4, r4⟩ := trodAll_cons r3
  obtain ⟨rfl, rfl, rfl⟩ := trodAll_nil r4
  obtain rfl : args = #[v0, v1, v2, v3, v4] := by cases args; simp_all
  obtain ⟨rfl, rfl⟩ := trodVars_none hV
  obtain ⟨s0, rfl, rfl, rfl, ws0⟩ := open_string Try.underlying9 (hval 0 9 v0 rfl rfl) h0
  obtain ⟨x1, rfl, rfl, rfl⟩ := open_bool Try.underlying4 (hval 1 4 v1 rfl rfl) h1
  obtain ⟨s2, rfl, rfl, rfl, ws2⟩ := open_string Try.underlying9 (hval 2 9 v2 rfl rfl) h2
  obtain ⟨a3, len3, cap3, rfl⟩ := okWide_slice Try.underlying22 (hval 3 22 v3 rfl rfl)
  have k3 := h3
  have lt3 : ∀ x ∈ p3, x.block < W.heap.size := by obtain ⟨m, hm⟩ := k3; exact DataW.trod_lt m _ _ _ hm
  obtain ⟨C, V, hcl, hcap⟩ := open_classes h3
  obtain ⟨x4, rfl, rfl, rfl, w4⟩ := open_int Try.underlying3 (hval 4 3 v4 rfl rfl) h4
  clear hA0 hval0
  refine (walk s0 s2 x1 a3 len3 cap3 x4 C V W hcl hcap).mono fun e W' ⟨he, bel⟩ => ?_
  subst he
  exact ⟨_, rfl, _, _, _, [], _, [], hW', trodAll_mk1 (shut_bool Try.underlying4 _),
    (trodAll_cons_mk (shut_string Try.underlying9 ws0) (trodAll_cons_mk (shut_bool Try.underlying4 _) (trodAll_cons_mk (shut_string Try.underlying9 ws2)
      (trodAll_cons_mk (Below.trod laidOut (by kernel_rfl) (of_decide_eq_true (by kernel_rfl)) k3 bel lt3) (trodAll_cons_mk (shut_int Try.underlying3 w4) trodAll_mk0))))), rfl, bel.frame _, fun h => by cases h⟩

theorem over : Rows.fnActionNeededSplitAtAnyCutRow.holds Try.pinned (OpenSpec.ofChange Rows.fnActionNeededSplitAtAnyCutSpec) :=
  OpenClaim.holds_of_wide 4 Try.f4 rfl rfl rfl rfl rfl rfl rfl ⟨rfl, rfl, rfl, rfl, rfl⟩ rfl rfl rfl rfl rfl (by kernel_rfl) Try.func4 (by kernel_rfl)
    (of_decide_eq_true (by kernel_rfl)) (by unfold Func.isWrapper; first | (rw [if_pos (by decide +kernel)]; kernel_rfl) | (rw [if_neg (by decide +kernel)]; exact ⟨rfl, rfl⟩))
    (fun os started H enc _ => lifted os started H enc)

theorem proved : Rows.FnActionNeededSplitAtAnyCutSaid := over
end Go.Proofs.Qxb6627990a.splitAt
