/-
  No cell of these rows narrows 'for every input' (looked for: loops, veiled, ifaces, maps, wideKeys, modest, calm, conditions, laid).
  DERIVED. THE GIVEN ROWS OF THIS SEAT. 1 by the template 'for every input the law returns true; each argument reads behind the call as it read before'; 0 by the template 'total and deterministic' (their statements: Qxb6616468aTotals.lean).
  GIVEN WITH THE SEED: the statements are not yours to turn. If you find one false, say at which input.
  Laid BY PROGRAM, IN A SANDBOX (cutbox-rows.mjs): the forced cells as the released guide's own fill.sh prints them over the translation 60abba771db28125… (all of the seat's roots in one cut). By AI agents, Wed Nov 11 2026. No macro, syntax, notation, axiom, sorry.
-/
import Derived.Test.Qxb6616468aChecked
import GoSem.Claim
import GoSem.ClaimJoined
import GoSem.ClaimMapViews
import Derived.JoinedTies
import Derived.KernelRfl
namespace Go.Proofs.Qxb6616468a
/- THE CELL 'sum', in the pinned program and in every row, IS THE sha256 OF THE DUMP (.gsa) THAT Qxb6616468aProg.lean LOADS. Nothing in Lean hashes anything: it is a label: what it is worth is what the hold of that sum in a sandbox is worth. -/
noncomputable def Try.pinned : Pinned := { name := "qxb6616468a", sum := "60abba771db28125c2a413aa27fac8ee322f66902f4d34f515fe3dc3c3d81ea9", checked := Try.checked }
namespace Rows
def none {H : Type} : Left H := { results := [], args := [] }

/-- 'zzlaws_root_b1.FnPolicyPermissionsHandsOutAFreshCopy': WHATEVER THE INPUT: true; the input reads as it did. -/
def fnPolicyPermissionsHandsOutAFreshCopySpec : ChangeSpec := { name := "fnPolicyPermissionsHandsOutAFreshCopy", fn := fun _ => fun
  | [d] => { results := [.lit (.bool true)], args := [d] }
  | _ => none }
def fnPolicyPermissionsHandsOutAFreshCopyRow : OpenClaim := { program := "qxb6616468a", sum := "60abba771db28125c2a413aa27fac8ee322f66902f4d34f515fe3dc3c3d81ea9", func := "example.com/grantline/grantline/zzlaws_root_b1.FnPolicyPermissionsHandsOutAFreshCopy", spec := "fnPolicyPermissionsHandsOutAFreshCopy", plainKeys := false, apart := false }
def FnPolicyPermissionsHandsOutAFreshCopySaid : Prop := fnPolicyPermissionsHandsOutAFreshCopyRow.holds Try.pinned (OpenSpec.ofChange fnPolicyPermissionsHandsOutAFreshCopySpec)

/-- ITS FALSE NEIGHBOUR: 'it returns false'. Refute it at one input. -/
def fnPolicyPermissionsHandsOutAFreshCopyWrong : ChangeSpec := { name := "fnPolicyPermissionsHandsOutAFreshCopy", fn := fun _ => fun
  | [d] => { results := [.lit (.bool false)], args := [d] }
  | _ => none }
def FnPolicyPermissionsHandsOutAFreshCopyWrongFalsely : Prop := fnPolicyPermissionsHandsOutAFreshCopyRow.holds Try.pinned (OpenSpec.ofChange fnPolicyPermissionsHandsOutAFreshCopyWrong)

end Rows
end Go.Proofs.Qxb6616468a
