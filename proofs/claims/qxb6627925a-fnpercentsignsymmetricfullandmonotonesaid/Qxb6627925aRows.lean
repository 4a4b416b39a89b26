/-
  No cell of these rows narrows 'for every input' (looked for: loops, veiled, ifaces, maps, wideKeys, modest, calm, conditions, laid).
  DERIVED. THE GIVEN ROWS OF THIS SEAT. 2 by the template 'for every input the law returns true; each argument reads behind the call as it read before'; 0 by the template 'total and deterministic' (their statements: Qxb6627925aTotals.lean).
  GIVEN WITH THE SEED: the statements are not yours to turn. If you find one false, say at which input.
  Laid BY PROGRAM, IN A SANDBOX (cutbox-rows.mjs): the forced cells as the released guide's own fill.sh prints them over the translation 1e4e203e3d50d7cc… (all of the seat's roots in one cut). By AI agents, Wed Nov 11 2026. No macro, syntax, notation, axiom, sorry.
-/
import Derived.Test.Qxb6627925aChecked
import GoSem.Claim
import GoSem.ClaimJoined
import GoSem.ClaimMapViews
import Derived.JoinedTies
import Derived.KernelRfl
namespace Go.Proofs.Qxb6627925a
/- THE CELL 'sum', in the pinned program and in every row, IS THE sha256 OF THE DUMP (.gsa) THAT Qxb6627925aProg.lean LOADS. Nothing in Lean hashes anything: it is a label: what it is worth is what the hold of that sum in a sandbox is worth. -/
noncomputable def Try.pinned : Pinned := { name := "qxb6627925a", sum := "1e4e203e3d50d7cc636cb032855cbb8b8b08a7ef0aa5265eefcc76641532bba2", checked := Try.checked }
namespace Rows
def none {H : Type} : Left H := { results := [], args := [] }

/-- 'zzlaws_pkg_result_b1.FnPercentExactRoundingAndScaleFree': WHATEVER THE INPUT: true; the input reads as it did. -/
def fnPercentExactRoundingAndScaleFreeSpec : ChangeSpec := { name := "fnPercentExactRoundingAndScaleFree", fn := fun _ => fun
  | [d1, d2, d3] => { results := [.lit (.bool true)], args := [d1, d2, d3] }
  | _ => none }
def fnPercentExactRoundingAndScaleFreeRow : OpenClaim := { program := "qxb6627925a", sum := "1e4e203e3d50d7cc636cb032855cbb8b8b08a7ef0aa5265eefcc76641532bba2", func := "example.com/gatewright/gatewright/zzlaws_pkg_result_b1.FnPercentExactRoundingAndScaleFree", spec := "fnPercentExactRoundingAndScaleFree", apart := false }
def FnPercentExactRoundingAndScaleFreeSaid : Prop := fnPercentExactRoundingAndScaleFreeRow.holds Try.pinned (OpenSpec.ofChange fnPercentExactRoundingAndScaleFreeSpec)

/-- ITS FALSE NEIGHBOUR: 'it returns false'. Refute it at one input. -/
def fnPercentExactRoundingAndScaleFreeWrong : ChangeSpec := { name := "fnPercentExactRoundingAndScaleFree", fn := fun _ => fun
  | [d1, d2, d3] => { results := [.lit (.bool false)], args := [d1, d2, d3] }
  | _ => none }
def FnPercentExactRoundingAndScaleFreeWrongFalsely : Prop := fnPercentExactRoundingAndScaleFreeRow.holds Try.pinned (OpenSpec.ofChange fnPercentExactRoundingAndScaleFreeWrong)

/-- 'zzlaws_pkg_result_b1.FnPercentSignSymmetricFullAndMonotone': WHATEVER THE INPUT: true; the input reads as it did. -/
def fnPercentSignSymmetricFullAndMonotoneSpec : ChangeSpec := { name := "fnPercentSignSymmetricFullAndMonotone", fn := fun _ => fun
  | [d1, d2, d3] => { results := [.lit (.bool true)], args := [d1, d2, d3] }
  | _ => none }
def fnPercentSignSymmetricFullAndMonotoneRow : OpenClaim := { program := "qxb6627925a", sum := "1e4e203e3d50d7cc636cb032855cbb8b8b08a7ef0aa5265eefcc76641532bba2", func := "example.com/gatewright/gatewright/zzlaws_pkg_result_b1.FnPercentSignSymmetricFullAndMonotone", spec := "fnPercentSignSymmetricFullAndMonotone", apart := false }
def FnPercentSignSymmetricFullAndMonotoneSaid : Prop := fnPercentSignSymmetricFullAndMonotoneRow.holds Try.pinned (OpenSpec.ofChange fnPercentSignSymmetricFullAndMonotoneSpec)

/-- ITS FALSE NEIGHBOUR: 'it returns false'. Refute it at one input. -/
def fnPercentSignSymmetricFullAndMonotoneWrong : ChangeSpec := { name := "fnPercentSignSymmetricFullAndMonotone", fn := fun _ => fun
  | [d1, d2, d3] => { results := [.lit (.bool false)], args := [d1, d2, d3] }
  | _ => none }
def FnPercentSignSymmetricFullAndMonotoneWrongFalsely : Prop := fnPercentSignSymmetricFullAndMonotoneRow.holds Try.pinned (OpenSpec.ofChange fnPercentSignSymmetricFullAndMonotoneWrong)

end Rows
end Go.Proofs.Qxb6627925a
