/-
  FnActionNeededSplitAtAnyCut (4): the walk over the contracts.
-/
import Derived.Test.Qxb6627990aAction
namespace Go.Proofs.Qxb6627990a
open Go.RowKit
set_option linter.unusedVariables false

theorem anyBad_split (n k : Nat) (V : Nat → ByteArray) (h : k ≤ n) : anyBad n V = (anyBad k V || anyBad (n - k) (fun i => V (k + i))) := by
  unfold anyBad
  have e : List.range n = List.range k ++ (List.range (n - k)).map (k + ·) := by
    have := @List.range_add k (n - k)
    rwa [show k + (n - k) = n by omega] at this
  rw [e, List.any_append, List.any_map]
  rfl

theorem needs_split (sh : Bool) (tier : ByteArray) (n k : Nat) (V : Nat → ByteArray) (h : k ≤ n) :
    needs sh tier n V = ((sh && (!tier.toList == [110, 111, 110, 101])) || needs false tier k V || needs false tier (n - k) (fun i => V (k + i))) := by
  unfold needs calls
  rw [anyBad_split n k V h, Bool.false_and, Bool.false_or, Bool.false_or, Bool.or_assoc]

/-- The contracts, each at one call. -/
def Bytes9 (w : World) (args : Array Value) : Prop := Calls Try.prog 9 args w fun e w' => IsBool e ∧ w' = w
def Over6 (w : World) (args : Array Value) : Prop := Calls Try.prog 6 args w fun e w' => IsBool e ∧ ∃ q, w' = w.drewN q
def BuildIs (W : World) (args : Array Value) (fund tier : ByteArray) (sh : Bool) (n : Nat) (C V : Nat → ByteArray) : Prop :=
  ∀ w : World, Below W.heap.size W w → Calls Try.prog 7 args w fun e w' => ∃ sp g, e = .returned (.agg (resCells fund sp g n)) ∧ Below W.heap.size W w' ∧ Built w' 0 sh tier n C V sp g
def ActionIs (W : World) (fund tier : ByteArray) (sh : Bool) (n : Nat) (C V : Nat → ByteArray) : Prop :=
  ∀ (w : World) (sp : Value) (g : Nat), Below W.heap.size W w → Built w 0 sh tier n C V sp g → Calls Try.prog 8 #[.agg (resCells fund sp g n)] w fun e w' => e = .returned (.bool (needs sh tier n V)) ∧ Below W.heap.size W w'

set_option maxHeartbeats 1000000 in
theorem split_eq (fund tier : ByteArray) (sh : Bool) (a : Option Addr) (k : Nat) (C V : Nat → ByteArray) (w : World) 
    (c9 : Bytes9 w #[.string fund, .bool sh, .string tier, .slice a k k, .int .i64 k])
    (c6 : Over6 w #[.string fund, .string tier, .string ⟨#[]⟩, .string ⟨#[]⟩, .slice a k k])
    (h1 : fund.size ≤ 65536) (h2 : tier.size ≤ 65536) (h3 : k ≤ 65536)
    (b1 : BuildIs w #[.string fund, .bool sh, .string tier, .slice a k k] fund tier sh k C V) (a1 : ActionIs w fund tier sh k C V)
    (b2 : BuildIs w #[.string fund, .bool false, .string tier, .slice a k k] fund tier false k C V) (a2 : ActionIs w fund tier false k C V)
    (b3 : BuildIs w #[.string fund, .bool false, .string tier, .slice a 0 0] fund tier false 0 (fun i => C (k + i)) (fun i => V (k + i))) (a3 : ActionIs w fund tier false 0 (fun i => C (k + i)) (fun i => V (k + i))) :
    Calls Try.prog 4 #[.string fund, .bool sh, .string tier, .slice a k k, .int .i64 k] w fun e w' => e = .returned (.bool true) ∧ Below w.heap.size w w' := by
  go_enter Try.func4, Try.ntmps4
  go_wp2_with fail
  refine (c9 : Calls ..).mono ?_
  rintro e w' ⟨hb | hb, hw⟩
  · subst hb hw
    go_wp2_with fail
    refine (c6 : Calls ..).mono ?_
    rintro e w' ⟨hb | hb, q, hw⟩
    · subst hb hw
      go_wp2_with fail
      go_ret
      exact ⟨rfl, below_drewN (Below.refl _ _)⟩
    · subst hb hw
      go_wp2_with fail
      refine (b1 _ (below_drewN (Below.refl _ _))).mono ?_
      rintro e w1 ⟨sp, g, rfl, hb1, B1⟩
      go_wp2_with fail
      refine (a1 _ _ _ hb1 B1).mono ?_
      rintro e w2 ⟨rfl, hb2⟩
      go_wp2_with fail
      refine (b2 _ hb2).mono ?_
      rintro e w3 ⟨sp2, g2, rfl, hb3, B2⟩
      go_wp2_with fail
      refine (a2 _ _ _ hb3 B2).mono ?_
      rintro e w4 ⟨rfl, hb4⟩
      go_wp2_with fail
      refine (b3 _ hb4).mono ?_
      rintro e w5 ⟨sp3, g3, rfl, hb5, B3⟩
      go_wp2_with fail
      refine (a3 _ _ _ hb5 B3).mono ?_
      rintro e w6 ⟨rfl, hb6⟩
      have hlaw := needs_split sh tier k k V (Nat.le_refl k)
      rw [Nat.sub_self] at hlaw
      clear c9 c6 b1 a1 b2 a2 b3 a3 B1 B2 B3 hb1 hb2 hb3 hb4 hb5
      generalize needs sh tier k V = r1 at *
      generalize needs false tier k V = r2 at *
      generalize (needs false tier 0 fun i => V (k + i)) = r3 at *
      generalize hct : (!tier.toList == [110, 111, 110, 101]) = ct at *
      cases sh <;> cases ct <;> cases r2 <;> cases r3 <;> simp at hlaw <;> subst hlaw
      all_goals
        go_wp2
        go_ret
        exact ⟨rfl, hb6⟩
  · subst hb hw
    go_wp2_with fail
    go_ret
    exact ⟨rfl, Below.refl _ _⟩

set_option maxHeartbeats 1000000 in
theorem split_ne (fund tier : ByteArray) (sh : Bool) (a : Option Addr) (n cap k : Nat) (C V : Nat → ByteArray) (w : World) (hck : ¬ cap = k)
    (c9 : Bytes9 w #[.string fund, .bool sh, .string tier, .slice a n cap, .int .i64 k])
    (c6 : Over6 w #[.string fund, .string tier, .string ⟨#[]⟩, .string ⟨#[]⟩, .slice a n cap])
    (h1 : fund.size ≤ 65536) (h2 : tier.size ≤ 65536) (h3 : n ≤ 65536) (hk : k ≤ n) (hcap : n ≤ cap)
    (b1 : BuildIs w #[.string fund, .bool sh, .string tier, .slice a n cap] fund tier sh n C V) (a1 : ActionIs w fund tier sh n C V)
    (b2 : BuildIs w #[.string fund, .bool false, .string tier, .slice a k cap] fund tier false k C V) (a2 : ActionIs w fund tier false k C V)
    (b3 : BuildIs w #[.string fund, .bool false, .string tier, .slice (Option.map (fun x => x.add (k * 2)) a) (n - k) (cap - k)] fund tier false (n - k) (fun i => C (k + i)) (fun i => V (k + i))) (a3 : ActionIs w fund tier false (n - k) (fun i => C (k + i)) (fun i => V (k + i))) :
    Calls Try.prog 4 #[.string fund, .bool sh, .string tier, .slice a n cap, .int .i64 k] w fun e w' => e = .returned (.bool true) ∧ Below w.heap.size w w' := by
  go_enter Try.func4, Try.ntmps4
  go_wp2_with fail
  refine (c9 : Calls ..).mono ?_
  rintro e w' ⟨hb | hb, hw⟩
  · subst hb hw
    go_wp2_with fail
    refine (c6 : Calls ..).mono ?_
    rintro e w' ⟨hb | hb, q, hw⟩
    · subst hb hw
      go_wp2_with fail
      go_ret
      exact ⟨rfl, below_drewN (Below.refl _ _)⟩
    · subst hb hw
      go_wp2_with fail
      refine (b1 _ (below_drewN (Below.refl _ _))).mono ?_
      rintro e w1 ⟨sp, g, rfl, hb1, B1⟩
      go_wp2_with fail
      refine (a1 _ _ _ hb1 B1).mono ?_
      rintro e w2 ⟨rfl, hb2⟩
      go_wp2_with fail
      refine (b2 _ hb2).mono ?_
      rintro e w3 ⟨sp2, g2, rfl, hb3, B2⟩
      go_wp2_with fail
      refine (a2 _ _ _ hb3 B2).mono ?_
      rintro e w4 ⟨rfl, hb4⟩
      go_wp2_with fail
      refine (b3 _ hb4).mono ?_
      rintro e w5 ⟨sp3, g3, rfl, hb5, B3⟩
      go_wp2_with fail
      refine (a3 _ _ _ hb5 B3).mono ?_
      rintro e w6 ⟨rfl, hb6⟩
      have hlaw := needs_split sh tier n k V hk
      clear c9 c6 b1 a1 b2 a2 b3 a3 B1 B2 B3 hb1 hb2 hb3 hb4 hb5
      generalize needs sh tier n V = r1 at *
      generalize needs false tier k V = r2 at *
      generalize (needs false tier (n - k) fun i => V (k + i)) = r3 at *
      generalize hct : (!tier.toList == [110, 111, 110, 101]) = ct at *
      cases sh <;> cases ct <;> cases r2 <;> cases r3 <;> simp at hlaw <;> subst hlaw
      all_goals
        go_wp2
        go_ret
        exact ⟨rfl, hb6⟩
  · subst hb hw
    go_wp2_with fail
    go_ret
    exact ⟨rfl, Below.refl _ _⟩

end Go.Proofs.Qxb6627990a
