/-
  No cell of these rows narrows 'for every input' (looked for: loops, veiled, ifaces, maps, wideKeys, modest, calm, conditions, laid).
  DERIVED. THE GIVEN ROWS OF THIS SEAT. 2 by the template 'for every input the law returns true; each argument reads behind the call as it read before'; 0 by the template 'total and deterministic' (their statements: Qxb6627990aTotals.lean).
  GIVEN WITH THE SEED: the statements are not yours to turn. If you find one false, say at which input.
  Laid BY PROGRAM, IN A SANDBOX (cutbox-rows.mjs): the forced cells as the released guide's own fill.sh prints them over the translation 59d2edc86da0c177… (all of the seat's roots in one cut). By AI agents, Wed Nov 11 2026. No macro, syntax, notation, axiom, sorry.
-/
import Derived.Test.Qxb6627990aChecked
import GoSem.Claim
import GoSem.ClaimJoined
import GoSem.ClaimMapViews
import Derived.JoinedTies
import Derived.KernelRfl
namespace Go.Proofs.Qxb6627990a
/- THE CELL 'sum', in the pinned program and in every row, IS THE sha256 OF THE DUMP (.gsa) THAT Qxb6627990aProg.lean LOADS. Nothing in Lean hashes anything: it is a label: what it is worth is what the hold of that sum in a sandbox is worth. -/
noncomputable def Try.pinned : Pinned := { name := "qxb6627990a", sum := "59d2edc86da0c177b7bf39e02a35687593f63580798713dbde328d27591dac59", checked := Try.checked }
namespace Rows
def none {H : Type} : Left H := { results := [], args := [] }

/-- 'zzlaws_internal_valuation_b1.FnActionNeededInsertClass': WHATEVER THE INPUT: true; the input reads as it did. -/
def fnActionNeededInsertClassSpec : ChangeSpec := { name := "fnActionNeededInsertClass", fn := fun _ => fun
  | [d1, d2, d3, d4, d5, d6, d7] => { results := [.lit (.bool true)], args := [d1, d2, d3, d4, d5, d6, d7] }
  | _ => none }
def fnActionNeededInsertClassRow : OpenClaim := { program := "qxb6627990a", sum := "59d2edc86da0c177b7bf39e02a35687593f63580798713dbde328d27591dac59", func := "example.com/tuoguan/tuoguan/zzlaws_internal_valuation_b1.FnActionNeededInsertClass", spec := "fnActionNeededInsertClass", apart := false }
def FnActionNeededInsertClassSaid : Prop := fnActionNeededInsertClassRow.holds Try.pinned (OpenSpec.ofChange fnActionNeededInsertClassSpec)

/-- ITS FALSE NEIGHBOUR: 'it returns false'. Refute it at one input. -/
def fnActionNeededInsertClassWrong : ChangeSpec := { name := "fnActionNeededInsertClass", fn := fun _ => fun
  | [d1, d2, d3, d4, d5, d6, d7] => { results := [.lit (.bool false)], args := [d1, d2, d3, d4, d5, d6, d7] }
  | _ => none }
def FnActionNeededInsertClassWrongFalsely : Prop := fnActionNeededInsertClassRow.holds Try.pinned (OpenSpec.ofChange fnActionNeededInsertClassWrong)

/-- 'zzlaws_internal_valuation_b1.FnActionNeededSplitAtAnyCut': WHATEVER THE INPUT: true; the input reads as it did. -/
def fnActionNeededSplitAtAnyCutSpec : ChangeSpec := { name := "fnActionNeededSplitAtAnyCut", fn := fun _ => fun
  | [d1, d2, d3, d4, d5] => { results := [.lit (.bool true)], args := [d1, d2, d3, d4, d5] }
  | _ => none }
def fnActionNeededSplitAtAnyCutRow : OpenClaim := { program := "qxb6627990a", sum := "59d2edc86da0c177b7bf39e02a35687593f63580798713dbde328d27591dac59", func := "example.com/tuoguan/tuoguan/zzlaws_internal_valuation_b1.FnActionNeededSplitAtAnyCut", spec := "fnActionNeededSplitAtAnyCut", apart := false }
def FnActionNeededSplitAtAnyCutSaid : Prop := fnActionNeededSplitAtAnyCutRow.holds Try.pinned (OpenSpec.ofChange fnActionNeededSplitAtAnyCutSpec)

/-- ITS FALSE NEIGHBOUR: 'it returns false'. Refute it at one input. -/
def fnActionNeededSplitAtAnyCutWrong : ChangeSpec := { name := "fnActionNeededSplitAtAnyCut", fn := fun _ => fun
  | [d1, d2, d3, d4, d5] => { results := [.lit (.bool false)], args := [d1, d2, d3, d4, d5] }
  | _ => none }
def FnActionNeededSplitAtAnyCutWrongFalsely : Prop := fnActionNeededSplitAtAnyCutRow.holds Try.pinned (OpenSpec.ofChange fnActionNeededSplitAtAnyCutWrong)

end Rows
end Go.Proofs.Qxb6627990a
