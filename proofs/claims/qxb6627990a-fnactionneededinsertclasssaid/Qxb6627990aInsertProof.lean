/-
  FnActionNeededInsertClass: the statement.
-/
import Derived.Test.Qxb6627990aInsert
namespace Go.Proofs.Qxb6627990a.insertAt
open Go.ChangeShapes Go.WideShapes Go.ChangeAt Go.RowKit
open Go.ChangeMaps (open_string shut_string)
set_option linter.unusedVariables false

set_option maxHeartbeats 1000000 in
theorem exit1 (fund tier name verdict : ByteArray) (sh : Bool) (a : Option Addr) (n cap : Nat) (k : Int) (w : World)
    (c5 : Bytes5 w #[.string fund, .bool sh, .string tier, .slice a n cap, .int .i64 k, .string name, .string verdict])
    (h : 65536 < fund.size ∨ 65536 < tier.size ∨ 65536 < name.size ∨ 65536 < verdict.size ∨ 65536 < n) :
    Calls Try.prog 3 #[.string fund, .bool sh, .string tier, .slice a n cap, .int .i64 k, .string name, .string verdict] w fun e w' => e = .returned (.bool true) ∧ Below w.heap.size w w' := by
  rcases h with h | h | h | h | h
  all_goals
    go_enter Try.func3, Try.ntmps3
    go_wp2_with fail
    refine (c5 : Calls ..).mono ?_
    rintro e w' ⟨hb | hb, hw⟩
    · subst hb hw
      go_wp2_with fail
      all_goals
        go_ret
        exact ⟨rfl, Below.refl _ _⟩
    · subst hb hw
      go_wp2_with fail
      go_ret
      exact ⟨rfl, Below.refl _ _⟩

set_option maxHeartbeats 1000000 in
theorem exit3 (fund tier name verdict : ByteArray) (sh : Bool) (a : Option Addr) (n cap : Nat) (k : Int) (w : World)
    (c5 : Bytes5 w #[.string fund, .bool sh, .string tier, .slice a n cap, .int .i64 k, .string name, .string verdict])
    (c6 : Over6 w #[.string fund, .string tier, .string name, .string verdict, .slice a n cap])
    (h1 : fund.size ≤ 65536) (h2 : tier.size ≤ 65536) (h1' : name.size ≤ 65536) (h2' : verdict.size ≤ 65536) (h3 : n ≤ 65536) (h : k < 0 ∨ (n : Int) < k) :
    Calls Try.prog 3 #[.string fund, .bool sh, .string tier, .slice a n cap, .int .i64 k, .string name, .string verdict] w fun e w' => e = .returned (.bool true) ∧ Below w.heap.size w w' := by
  rcases h with h | h
  all_goals
    go_enter Try.func3, Try.ntmps3
    go_wp2_with fail
    refine (c5 : Calls ..).mono ?_
    rintro e w' ⟨hb | hb, hw⟩
    · subst hb hw
      go_wp2_with fail
      refine (c6 : Calls ..).mono ?_
      rintro e w' ⟨hb | hb, q, hw⟩
      all_goals
        subst hb hw
        go_wp2_with fail
        go_ret
        exact ⟨rfl, below_drewN (Below.refl _ _)⟩
    · subst hb hw
      go_wp2_with fail
      go_ret
      exact ⟨rfl, Below.refl _ _⟩

/-- The list with one more at place j. -/
def ins (F : Nat → ByteArray) (j : Nat) (x : ByteArray) (i : Nat) : ByteArray := if i < j then F i else if i = j then x else F (i - 1)

theorem anyBad_congr {n : Nat} {V V' : Nat → ByteArray} (h : ∀ i, i < n → V i = V' i) : anyBad n V = anyBad n V' := by
  cases hb : anyBad n V'
  · refine anyBad_false fun i hi => ?_
    rw [h i hi]
    unfold anyBad at hb
    rw [List.any_eq_false] at hb
    have := hb i (List.mem_range.2 hi)
    simpa using this
  · obtain ⟨i, hi, hbad⟩ := List.any_eq_true.1 hb
    exact anyBad_true (List.mem_range.1 hi) (by rw [h i (List.mem_range.1 hi)]; exact hbad)

theorem anyBad_one (V : Nat → ByteArray) : anyBad 1 V = bad (V 0) := by
  unfold anyBad
  simp [List.range_succ]

theorem anyBad_ins (n j : Nat) (V : Nat → ByteArray) (x : ByteArray) (h : j ≤ n) : anyBad (n + 1) (ins V j x) = (anyBad n V || bad x) := by
  rw [anyBad_split (n + 1) j _ (by omega), anyBad_split (n + 1 - j) 1 _ (by omega), anyBad_split n j V h, anyBad_one]
  have e1 : anyBad j (ins V j x) = anyBad j V := anyBad_congr fun i hi => by unfold ins; rw [if_pos hi]
  have e2 : ins V j x (j + 0) = x := by unfold ins; rw [if_neg (by omega), if_pos (by omega)]
  have e3 : anyBad (n + 1 - j - 1) (fun i => ins V j x (j + (1 + i))) = anyBad (n - j) (fun i => V (j + i)) := by
    rw [show n + 1 - j - 1 = n - j by omega]
    refine anyBad_congr fun i hi => ?_
    unfold ins
    rw [if_neg (by omega), if_neg (by omega), show j + (1 + i) - 1 = j + i by omega]
  rw [e1, e2, e3]
  cases anyBad j V <;> cases bad x <;> cases anyBad (n - j) (fun i => V (j + i)) <;> rfl

theorem walk (fund tier name verdict : ByteArray) (sh : Bool) (a : Option Addr) (n cap : Nat) (k : Int) (C V : Nat → ByteArray) (w : World) (hc : Cl w a n C V) :
    Calls Try.prog 3 #[.string fund, .bool sh, .string tier, .slice a n cap, .int .i64 k, .string name, .string verdict] w fun e w' => e = .returned (.bool true) ∧ Below w.heap.size w w' := by
  have c5 : Bytes5 w #[.string fund, .bool sh, .string tier, .slice a n cap, .int .i64 k, .string name, .string verdict] := bytes5 fund tier name verdict sh k a n cap C V w hc
  by_cases h : 65536 < fund.size ∨ 65536 < tier.size ∨ 65536 < name.size ∨ 65536 < verdict.size ∨ 65536 < n
  · exact exit1 fund tier name verdict sh a n cap k w c5 h
  have c6 : Over6 w #[.string fund, .string tier, .string name, .string verdict, .slice a n cap] :=
    over6 fund tier name verdict a n cap C V w hc (by omega) (by omega) (by omega) (by omega) (by omega)
  by_cases hk : k < 0 ∨ (n : Int) < k
  · exact exit3 fund tier name verdict sh a n cap k w c5 c6 (by omega) (by omega) (by omega) (by omega) (by omega) hk
  obtain ⟨j, rfl⟩ : ∃ j : Nat, k = (j : Int) := ⟨k.toNat, by omega⟩
  refine insert_core fund tier name verdict sh a n cap j C V (ins C j name) (ins V j verdict) w c5 c6 (by omega) (by omega) (by omega) (by omega) (by omega) (by omega) hc ?_ ?_ ?_ ?_
  · intro i hi
    unfold ins
    rw [if_pos hi, if_pos hi]
    exact ⟨rfl, rfl⟩
  · unfold ins
    rw [if_neg (by omega), if_pos rfl, if_neg (by omega), if_pos rfl]
    exact ⟨rfl, rfl⟩
  · intro i hi _
    unfold ins
    rw [if_neg (by omega), if_neg (by omega), if_neg (by omega), if_neg (by omega), show i + 1 - 1 = i by omega]
    exact ⟨rfl, rfl⟩
  · unfold needs
    rw [anyBad_ins n j V verdict (by omega), Bool.or_assoc]

theorem own : ownKnob Try.prog.godebug = none := by kernel_rfl
theorem laidOut : laidOutB Try.prog = true := by kernel_rfl

set_option maxRecDepth 100000 in
theorem lifted (os : Os) (started : os.Started) (H : Type) (enc : TypeId × Value → H) :
    ReturnsInHanded {} Try.checked os 3 .any (Rows.fnActionNeededInsertClassSpec.pre6 enc Try.prog Try.f3 Rows.fnActionNeededInsertClassRow.domain false) (Rows.fnActionNeededInsertClassSpec.post enc Try.prog Try.f3 false true false false) := by
  refine returnsInHanded_of_change (C := Try.checked) own started (by kernel_rfl) Try.func3
    (ChangeSpec.witness6 (enc := enc) (C := Try.checked) false ⟨#[], #[.string ⟨#[]⟩, .bool false, .string ⟨#[]⟩, .slice none 0 0, .int .i64 0, .string ⟨#[]⟩, .string ⟨#[]⟩], []⟩ 8 (by kernel_rfl) (by kernel_rfl) (by kernel_rfl) (by kernel_rfl)) ?_
  intro W base args ds gs before hval0 hW hcnd _
  have hval : ∀ (j : Nat) t v, Try.f3.params[j]? = some t → args[j]? = some v → Value.okWide Try.prog W .any base t v := hval0
  have hW' := hW
  obtain ⟨p, q, hA0, hV, rfl, hfz, hnd⟩ := hW
  have hA : DataW.TrodAll enc Try.prog W 0 (fun _ => true) true Try.f3.params.toList args.toList ds p := hA0
  rw [Try.params3] at hA hval
  obtain ⟨v0, vs0, d0, ds0, p0, q0, hargs, rfl, rfl, h0, r0⟩ := trodAll_cons hA
  obtain ⟨v1, vs1, d1, ds1, p1, q1, rfl, rfl, rfl, h1, r1⟩ := trodAll_cons r0
  obtain ⟨v2, vs2, d2, ds2, p2, q2, rfl, rfl, rfl, h2, r2⟩ := trodAll_cons r1
  obtain ⟨v3, vs3, d3, ds3, p3, q3, rfl, rfl, rfl, h3, r3⟩ := trodAll_cons r2
  obtain ⟨v4, vs4, d4, ds4, p4, q4, rfl, rfl, rfl, h4, r4⟩ := trodAll_cons r3
  obtain ⟨v5, vs5, d5, ds5, p5, q5, rfl, rfl, rfl, h5, r5⟩ := trodAll_cons r4
  obtain ⟨v6, vs6, d6, ds6, p6, q6, rfl, rfl, rfl, h6, r6⟩ := trodAll_cons r5
  obtain ⟨rfl, rfl, rfl⟩ := trodAll_nil r6
  obtain rfl : args = #[v0, v1, v2, v3, v4, v5, v6] := by cases args; simp_all
  obtain ⟨rfl, rfl⟩ := trodVars_none hV
  obtain ⟨s0, rfl, rfl, rfl, ws0⟩ := open_string Try.underlying9 (hval 0 9 v0 rfl rfl) h0
  obtain ⟨x1, rfl, rfl, rfl⟩ := open_bool Try.underlying4 (hval 1 4 v1 rfl rfl) h1
  obtain ⟨s2, rfl, rfl, rfl, ws2⟩ := open_string Try.underlying9 (hval 2 9 v2 rfl rfl) h2
  obtain ⟨a3, len3, cap3, rfl⟩ := okWide_slice Try.underlying22 (hval 3 22 v3 rfl rfl)
  have k3 := h3
  have lt3 : ∀ x ∈ p3, x.block < W.heap.size := by obtain ⟨m, hm⟩ := k3; exact DataW.trod_lt m _ _ _ hm
  obtain ⟨C, V, hcl, hcap⟩ := open_classes h3
  obtain ⟨x4, rfl, rfl, rfl, w4⟩ := open_int Try.underlying3 (hval 4 3 v4 rfl rfl) h4
  obtain ⟨s5, rfl, rfl, rfl, ws5⟩ := open_string Try.underlying9 (hval 5 9 v5 rfl rfl) h5
  obtain ⟨s6, rfl, rfl, rfl, ws6⟩ := open_string Try.underlying9 (hval 6 9 v6 rfl rfl) h6
  clear hA0 hval0
  refine (walk s0 s2 s5 s6 x1 a3 len3 cap3 x4 C V W hcl).mono fun e W' ⟨he, bel⟩ => ?_
  subst he
  exact ⟨_, rfl, _, _, _, [], _, [], hW', trodAll_mk1 (shut_bool Try.underlying4 _),
    (trodAll_cons_mk (shut_string Try.underlying9 ws0) (trodAll_cons_mk (shut_bool Try.underlying4 _) (trodAll_cons_mk (shut_string Try.underlying9 ws2)
      (trodAll_cons_mk (Below.trod laidOut (by kernel_rfl) (of_decide_eq_true (by kernel_rfl)) k3 bel lt3) (trodAll_cons_mk (shut_int Try.underlying3 w4)
        (trodAll_cons_mk (shut_string Try.underlying9 ws5) (trodAll_cons_mk (shut_string Try.underlying9 ws6) trodAll_mk0))))))), rfl, bel.frame _, fun h => by cases h⟩

theorem over : Rows.fnActionNeededInsertClassRow.holds Try.pinned (OpenSpec.ofChange Rows.fnActionNeededInsertClassSpec) :=
  OpenClaim.holds_of_wide 3 Try.f3 rfl rfl rfl rfl rfl rfl rfl ⟨rfl, rfl, rfl, rfl, rfl⟩ rfl rfl rfl rfl rfl (by kernel_rfl) Try.func3 (by kernel_rfl)
    (of_decide_eq_true (by kernel_rfl)) (by unfold Func.isWrapper; first | (rw [if_pos (by decide +kernel)]; kernel_rfl) | (rw [if_neg (by decide +kernel)]; exact ⟨rfl, rfl⟩))
    (fun os started H enc _ => lifted os started H enc)

theorem proved : Rows.FnActionNeededInsertClassSaid := over
end Go.Proofs.Qxb6627990a.insertAt
