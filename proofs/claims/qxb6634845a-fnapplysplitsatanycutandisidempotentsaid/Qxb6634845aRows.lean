/-
  No cell of these rows narrows 'for every input' (looked for: loops, veiled, ifaces, maps, wideKeys, modest, calm, conditions, laid).
  DERIVED. THE GIVEN ROWS OF THIS SEAT. 2 by the template 'for every input the law returns true; each argument reads behind the call as it read before'; 0 by the template 'total and deterministic' (their statements: Qxb6634845aTotals.lean).
  GIVEN WITH THE SEED: the statements are not yours to turn. If you find one false, say at which input.
  Laid BY PROGRAM, IN A SANDBOX (cutbox-rows.mjs): the forced cells as the released guide's own fill.sh prints them over the translation ae57d2f6c55e1601… (all of the seat's roots in one cut). By AI agents, Wed Nov 11 2026. No macro, syntax, notation, axiom, sorry.
-/
import Derived.Test.Qxb6634845aChecked
import GoSem.Claim
import GoSem.ClaimJoined
import GoSem.ClaimMapViews
import Derived.JoinedTies
import Derived.KernelRfl
namespace Go.Proofs.Qxb6634845a
/- THE CELL 'sum', in the pinned program and in every row, IS THE sha256 OF THE DUMP (.gsa) THAT Qxb6634845aProg.lean LOADS. Nothing in Lean hashes anything: it is a label: what it is worth is what the hold of that sum in a sandbox is worth. -/
noncomputable def Try.pinned : Pinned := { name := "qxb6634845a", sum := "ae57d2f6c55e160158ff53cbdbbb61c83593ff31a01ccecb0adf51cc8609840d", checked := Try.checked }
namespace Rows
def none {H : Type} : Left H := { results := [], args := [] }

/-- 'zzlaws_internal_config_b1.FnApplyMatchesLayeredModel': WHATEVER THE INPUT: true; the input reads as it did. -/
def fnApplyMatchesLayeredModelSpec : ChangeSpec := { name := "fnApplyMatchesLayeredModel", fn := fun _ => fun
  | [d1, d2, d3] => { results := [.lit (.bool true)], args := [d1, d2, d3] }
  | _ => none }
def fnApplyMatchesLayeredModelRow : OpenClaim := { program := "qxb6634845a", sum := "ae57d2f6c55e160158ff53cbdbbb61c83593ff31a01ccecb0adf51cc8609840d", func := "example.com/nymph/nymph/zzlaws_internal_config_b1.FnApplyMatchesLayeredModel", spec := "fnApplyMatchesLayeredModel", apart := false }
def FnApplyMatchesLayeredModelSaid : Prop := fnApplyMatchesLayeredModelRow.holds Try.pinned (OpenSpec.ofChange fnApplyMatchesLayeredModelSpec)

/-- ITS FALSE NEIGHBOUR: 'it returns false'. Refute it at one input. -/
def fnApplyMatchesLayeredModelWrong : ChangeSpec := { name := "fnApplyMatchesLayeredModel", fn := fun _ => fun
  | [d1, d2, d3] => { results := [.lit (.bool false)], args := [d1, d2, d3] }
  | _ => none }
def FnApplyMatchesLayeredModelWrongFalsely : Prop := fnApplyMatchesLayeredModelRow.holds Try.pinned (OpenSpec.ofChange fnApplyMatchesLayeredModelWrong)

/-- 'zzlaws_internal_config_b1.FnApplySplitsAtAnyCutAndIsIdempotent': WHATEVER THE INPUT: true; the input reads as it did. -/
def fnApplySplitsAtAnyCutAndIsIdempotentSpec : ChangeSpec := { name := "fnApplySplitsAtAnyCutAndIsIdempotent", fn := fun _ => fun
  | [d1, d2, d3, d4] => { results := [.lit (.bool true)], args := [d1, d2, d3, d4] }
  | _ => none }
def fnApplySplitsAtAnyCutAndIsIdempotentRow : OpenClaim := { program := "qxb6634845a", sum := "ae57d2f6c55e160158ff53cbdbbb61c83593ff31a01ccecb0adf51cc8609840d", func := "example.com/nymph/nymph/zzlaws_internal_config_b1.FnApplySplitsAtAnyCutAndIsIdempotent", spec := "fnApplySplitsAtAnyCutAndIsIdempotent", apart := false }
def FnApplySplitsAtAnyCutAndIsIdempotentSaid : Prop := fnApplySplitsAtAnyCutAndIsIdempotentRow.holds Try.pinned (OpenSpec.ofChange fnApplySplitsAtAnyCutAndIsIdempotentSpec)

/-- ITS FALSE NEIGHBOUR: 'it returns false'. Refute it at one input. -/
def fnApplySplitsAtAnyCutAndIsIdempotentWrong : ChangeSpec := { name := "fnApplySplitsAtAnyCutAndIsIdempotent", fn := fun _ => fun
  | [d1, d2, d3, d4] => { results := [.lit (.bool false)], args := [d1, d2, d3, d4] }
  | _ => none }
def FnApplySplitsAtAnyCutAndIsIdempotentWrongFalsely : Prop := fnApplySplitsAtAnyCutAndIsIdempotentRow.holds Try.pinned (OpenSpec.ofChange fnApplySplitsAtAnyCutAndIsIdempotentWrong)

end Rows
end Go.Proofs.Qxb6634845a
