/-
  No cell of these rows narrows 'for every input' (looked for: loops, veiled, ifaces, maps, wideKeys, modest, calm, conditions, laid).
  DERIVED. THE GIVEN ROWS OF THIS SEAT. 3 by the template 'for every input the law returns true; each argument reads behind the call as it read before'; 0 by the template 'total and deterministic' (their statements: Qxb6616356aTotals.lean).
  GIVEN WITH THE SEED: the statements are not yours to turn. If you find one false, say at which input.
  Laid BY PROGRAM, IN A SANDBOX (cutbox-rows.mjs): the forced cells as the released guide's own fill.sh prints them over the translation 461f872361360e1d… (all of the seat's roots in one cut). By AI agents, Wed Nov 11 2026. No macro, syntax, notation, axiom, sorry.
-/
import Derived.Test.Qxb6616356aChecked
import GoSem.Claim
import GoSem.ClaimJoined
import GoSem.ClaimMapViews
import Derived.JoinedTies
import Derived.KernelRfl
namespace Go.Proofs.Qxb6616356a
/- THE CELL 'sum', in the pinned program and in every row, IS THE sha256 OF THE DUMP (.gsa) THAT Qxb6616356aProg.lean LOADS. Nothing in Lean hashes anything: it is a label: what it is worth is what the hold of that sum in a sandbox is worth. -/
noncomputable def Try.pinned : Pinned := { name := "qxb6616356a", sum := "461f872361360e1d071aa119462dd8081aa9e40e975c1b318b6ad23541d7e345", checked := Try.checked }
namespace Rows
def none {H : Type} : Left H := { results := [], args := [] }

/-- 'zzlaws_internal_ast_b1.FnMemberChainPosIsReceiverPos': WHATEVER THE INPUT: true; the input reads as it did. -/
def fnMemberChainPosIsReceiverPosSpec : ChangeSpec := { name := "fnMemberChainPosIsReceiverPos", fn := fun _ => fun
  | [d1, d2, d3, d4] => { results := [.lit (.bool true)], args := [d1, d2, d3, d4] }
  | _ => none }
def fnMemberChainPosIsReceiverPosRow : OpenClaim := { program := "qxb6616356a", sum := "461f872361360e1d071aa119462dd8081aa9e40e975c1b318b6ad23541d7e345", func := "example.com/nullwright/nullwright/zzlaws_internal_ast_b1.FnMemberChainPosIsReceiverPos", spec := "fnMemberChainPosIsReceiverPos", unfollowed := true, recurses := true, apart := false }
def FnMemberChainPosIsReceiverPosSaid : Prop := fnMemberChainPosIsReceiverPosRow.holds Try.pinned (OpenSpec.ofChange fnMemberChainPosIsReceiverPosSpec)

/-- ITS FALSE NEIGHBOUR: 'it returns false'. Refute it at one input. -/
def fnMemberChainPosIsReceiverPosWrong : ChangeSpec := { name := "fnMemberChainPosIsReceiverPos", fn := fun _ => fun
  | [d1, d2, d3, d4] => { results := [.lit (.bool false)], args := [d1, d2, d3, d4] }
  | _ => none }
def FnMemberChainPosIsReceiverPosWrongFalsely : Prop := fnMemberChainPosIsReceiverPosRow.holds Try.pinned (OpenSpec.ofChange fnMemberChainPosIsReceiverPosWrong)

/-- 'zzlaws_internal_ast_b1.FnForPartsEachSplitsAtAnyCut': WHATEVER THE INPUT: true; the input reads as it did. -/
def fnForPartsEachSplitsAtAnyCutSpec : ChangeSpec := { name := "fnForPartsEachSplitsAtAnyCut", fn := fun _ => fun
  | [d1, d2, d3, d4, d5, d6] => { results := [.lit (.bool true)], args := [d1, d2, d3, d4, d5, d6] }
  | _ => none }
def fnForPartsEachSplitsAtAnyCutRow : OpenClaim := { program := "qxb6616356a", sum := "461f872361360e1d071aa119462dd8081aa9e40e975c1b318b6ad23541d7e345", func := "example.com/nullwright/nullwright/zzlaws_internal_ast_b1.FnForPartsEachSplitsAtAnyCut", spec := "fnForPartsEachSplitsAtAnyCut", unfollowed := true, recurses := true, apart := false }
def FnForPartsEachSplitsAtAnyCutSaid : Prop := fnForPartsEachSplitsAtAnyCutRow.holds Try.pinned (OpenSpec.ofChange fnForPartsEachSplitsAtAnyCutSpec)

/-- ITS FALSE NEIGHBOUR: 'it returns false'. Refute it at one input. -/
def fnForPartsEachSplitsAtAnyCutWrong : ChangeSpec := { name := "fnForPartsEachSplitsAtAnyCut", fn := fun _ => fun
  | [d1, d2, d3, d4, d5, d6] => { results := [.lit (.bool false)], args := [d1, d2, d3, d4, d5, d6] }
  | _ => none }
def FnForPartsEachSplitsAtAnyCutWrongFalsely : Prop := fnForPartsEachSplitsAtAnyCutRow.holds Try.pinned (OpenSpec.ofChange fnForPartsEachSplitsAtAnyCutWrong)

/-- 'zzlaws_internal_ast_b1.FnForPartsEachInitAndCondComeFirst': WHATEVER THE INPUT: true; the input reads as it did. -/
def fnForPartsEachInitAndCondComeFirstSpec : ChangeSpec := { name := "fnForPartsEachInitAndCondComeFirst", fn := fun _ => fun
  | [d1, d2, d3] => { results := [.lit (.bool true)], args := [d1, d2, d3] }
  | _ => none }
def fnForPartsEachInitAndCondComeFirstRow : OpenClaim := { program := "qxb6616356a", sum := "461f872361360e1d071aa119462dd8081aa9e40e975c1b318b6ad23541d7e345", func := "example.com/nullwright/nullwright/zzlaws_internal_ast_b1.FnForPartsEachInitAndCondComeFirst", spec := "fnForPartsEachInitAndCondComeFirst", unfollowed := true, recurses := true, apart := false }
def FnForPartsEachInitAndCondComeFirstSaid : Prop := fnForPartsEachInitAndCondComeFirstRow.holds Try.pinned (OpenSpec.ofChange fnForPartsEachInitAndCondComeFirstSpec)

/-- ITS FALSE NEIGHBOUR: 'it returns false'. Refute it at one input. -/
def fnForPartsEachInitAndCondComeFirstWrong : ChangeSpec := { name := "fnForPartsEachInitAndCondComeFirst", fn := fun _ => fun
  | [d1, d2, d3] => { results := [.lit (.bool false)], args := [d1, d2, d3] }
  | _ => none }
def FnForPartsEachInitAndCondComeFirstWrongFalsely : Prop := fnForPartsEachInitAndCondComeFirstRow.holds Try.pinned (OpenSpec.ofChange fnForPartsEachInitAndCondComeFirstWrong)

end Rows
end Go.Proofs.Qxb6616356a
