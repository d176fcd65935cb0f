/-
  No cell of these rows narrows 'for every input' (looked for: loops, veiled, ifaces, maps, wideKeys, modest, calm, conditions, laid).
  DERIVED. THE GIVEN ROWS OF THIS SEAT. 5 by the template 'for every input the law returns true; each argument reads behind the call as it read before'; 0 by the template 'total and deterministic' (their statements: Qxb6616402aTotals.lean).
  GIVEN WITH THE SEED: the statements are not yours to turn. If you find one false, say at which input.
  Laid BY PROGRAM, IN A SANDBOX (cutbox-rows.mjs): the forced cells as the released guide's own fill.sh prints them over the translation 70a5ff4d7b7ae09c… (all of the seat's roots in one cut). By AI agents, Wed Nov 11 2026. No macro, syntax, notation, axiom, sorry.
-/
import Derived.Test.Qxb6616402aChecked
import GoSem.Claim
import GoSem.ClaimJoined
import GoSem.ClaimMapViews
import Derived.JoinedTies
import Derived.KernelRfl
namespace Go.Proofs.Qxb6616402a
/- THE CELL 'sum', in the pinned program and in every row, IS THE sha256 OF THE DUMP (.gsa) THAT Qxb6616402aProg.lean LOADS. Nothing in Lean hashes anything: it is a label: what it is worth is what the hold of that sum in a sandbox is worth. -/
noncomputable def Try.pinned : Pinned := { name := "qxb6616402a", sum := "70a5ff4d7b7ae09c46e8edc73b8396d8ede2b7171ac27aec3152c46420a7542c", checked := Try.checked }
namespace Rows
def none {H : Type} : Left H := { results := [], args := [] }

/-- 'zzlaws_jsonwire_b1.FnArrayOfNullsMatchesGrammar': WHATEVER THE INPUT: true; the input reads as it did. -/
def fnArrayOfNullsMatchesGrammarSpec : ChangeSpec := { name := "fnArrayOfNullsMatchesGrammar", fn := fun _ => fun
  | [d1, d2, d3] => { results := [.lit (.bool true)], args := [d1, d2, d3] }
  | _ => none }
def fnArrayOfNullsMatchesGrammarRow : OpenClaim := { program := "qxb6616402a", sum := "70a5ff4d7b7ae09c46e8edc73b8396d8ede2b7171ac27aec3152c46420a7542c", func := "example.com/glossa/glossa/zzlaws_jsonwire_b1.FnArrayOfNullsMatchesGrammar", spec := "fnArrayOfNullsMatchesGrammar", unfollowed := true, recurses := true, apart := false }
def FnArrayOfNullsMatchesGrammarSaid : Prop := fnArrayOfNullsMatchesGrammarRow.holds Try.pinned (OpenSpec.ofChange fnArrayOfNullsMatchesGrammarSpec)

/-- ITS FALSE NEIGHBOUR: 'it returns false'. Refute it at one input. -/
def fnArrayOfNullsMatchesGrammarWrong : ChangeSpec := { name := "fnArrayOfNullsMatchesGrammar", fn := fun _ => fun
  | [d1, d2, d3] => { results := [.lit (.bool false)], args := [d1, d2, d3] }
  | _ => none }
def FnArrayOfNullsMatchesGrammarWrongFalsely : Prop := fnArrayOfNullsMatchesGrammarRow.holds Try.pinned (OpenSpec.ofChange fnArrayOfNullsMatchesGrammarWrong)

/-- 'zzlaws_jsonwire_b1.FnArrayDepthOnlyBoundsNesting': WHATEVER THE INPUT: true; the input reads as it did. -/
def fnArrayDepthOnlyBoundsNestingSpec : ChangeSpec := { name := "fnArrayDepthOnlyBoundsNesting", fn := fun _ => fun
  | [d1, d2, d3] => { results := [.lit (.bool true)], args := [d1, d2, d3] }
  | _ => none }
def fnArrayDepthOnlyBoundsNestingRow : OpenClaim := { program := "qxb6616402a", sum := "70a5ff4d7b7ae09c46e8edc73b8396d8ede2b7171ac27aec3152c46420a7542c", func := "example.com/glossa/glossa/zzlaws_jsonwire_b1.FnArrayDepthOnlyBoundsNesting", spec := "fnArrayDepthOnlyBoundsNesting", unfollowed := true, recurses := true, apart := false }
def FnArrayDepthOnlyBoundsNestingSaid : Prop := fnArrayDepthOnlyBoundsNestingRow.holds Try.pinned (OpenSpec.ofChange fnArrayDepthOnlyBoundsNestingSpec)

/-- ITS FALSE NEIGHBOUR: 'it returns false'. Refute it at one input. -/
def fnArrayDepthOnlyBoundsNestingWrong : ChangeSpec := { name := "fnArrayDepthOnlyBoundsNesting", fn := fun _ => fun
  | [d1, d2, d3] => { results := [.lit (.bool false)], args := [d1, d2, d3] }
  | _ => none }
def FnArrayDepthOnlyBoundsNestingWrongFalsely : Prop := fnArrayDepthOnlyBoundsNestingRow.holds Try.pinned (OpenSpec.ofChange fnArrayDepthOnlyBoundsNestingWrong)

/-- 'zzlaws_jsonwire_b1.FnNullReadsNoFurtherThanItsWord': WHATEVER THE INPUT: true; the input reads as it did. -/
def fnNullReadsNoFurtherThanItsWordSpec : ChangeSpec := { name := "fnNullReadsNoFurtherThanItsWord", fn := fun _ => fun
  | [d1, d2, d3] => { results := [.lit (.bool true)], args := [d1, d2, d3] }
  | _ => none }
def fnNullReadsNoFurtherThanItsWordRow : OpenClaim := { program := "qxb6616402a", sum := "70a5ff4d7b7ae09c46e8edc73b8396d8ede2b7171ac27aec3152c46420a7542c", func := "example.com/glossa/glossa/zzlaws_jsonwire_b1.FnNullReadsNoFurtherThanItsWord", spec := "fnNullReadsNoFurtherThanItsWord", apart := false }
def FnNullReadsNoFurtherThanItsWordSaid : Prop := fnNullReadsNoFurtherThanItsWordRow.holds Try.pinned (OpenSpec.ofChange fnNullReadsNoFurtherThanItsWordSpec)

/-- ITS FALSE NEIGHBOUR: 'it returns false'. Refute it at one input. -/
def fnNullReadsNoFurtherThanItsWordWrong : ChangeSpec := { name := "fnNullReadsNoFurtherThanItsWord", fn := fun _ => fun
  | [d1, d2, d3] => { results := [.lit (.bool false)], args := [d1, d2, d3] }
  | _ => none }
def FnNullReadsNoFurtherThanItsWordWrongFalsely : Prop := fnNullReadsNoFurtherThanItsWordRow.holds Try.pinned (OpenSpec.ofChange fnNullReadsNoFurtherThanItsWordWrong)

/-- 'zzlaws_jsonwire_b1.FnNoteKeepsEveryNoteInOrder': WHATEVER THE INPUT: true; the input reads as it did. -/
def fnNoteKeepsEveryNoteInOrderSpec : ChangeSpec := { name := "fnNoteKeepsEveryNoteInOrder", fn := fun _ => fun
  | [d1, d2, d3, d4, d5, d6] => { results := [.lit (.bool true)], args := [d1, d2, d3, d4, d5, d6] }
  | _ => none }
def fnNoteKeepsEveryNoteInOrderRow : OpenClaim := { program := "qxb6616402a", sum := "70a5ff4d7b7ae09c46e8edc73b8396d8ede2b7171ac27aec3152c46420a7542c", func := "example.com/glossa/glossa/zzlaws_jsonwire_b1.FnNoteKeepsEveryNoteInOrder", spec := "fnNoteKeepsEveryNoteInOrder", apart := false }
def FnNoteKeepsEveryNoteInOrderSaid : Prop := fnNoteKeepsEveryNoteInOrderRow.holds Try.pinned (OpenSpec.ofChange fnNoteKeepsEveryNoteInOrderSpec)

/-- ITS FALSE NEIGHBOUR: 'it returns false'. Refute it at one input. -/
def fnNoteKeepsEveryNoteInOrderWrong : ChangeSpec := { name := "fnNoteKeepsEveryNoteInOrder", fn := fun _ => fun
  | [d1, d2, d3, d4, d5, d6] => { results := [.lit (.bool false)], args := [d1, d2, d3, d4, d5, d6] }
  | _ => none }
def FnNoteKeepsEveryNoteInOrderWrongFalsely : Prop := fnNoteKeepsEveryNoteInOrderRow.holds Try.pinned (OpenSpec.ofChange fnNoteKeepsEveryNoteInOrderWrong)

/-- 'zzlaws_jsonwire_b1.FnNoteKeepsTwoPreviousApart': WHATEVER THE INPUT: true; the input reads as it did. -/
def fnNoteKeepsTwoPreviousApartSpec : ChangeSpec := { name := "fnNoteKeepsTwoPreviousApart", fn := fun _ => fun
  | [d1, d2, d3] => { results := [.lit (.bool true)], args := [d1, d2, d3] }
  | _ => none }
def fnNoteKeepsTwoPreviousApartRow : OpenClaim := { program := "qxb6616402a", sum := "70a5ff4d7b7ae09c46e8edc73b8396d8ede2b7171ac27aec3152c46420a7542c", func := "example.com/glossa/glossa/zzlaws_jsonwire_b1.FnNoteKeepsTwoPreviousApart", spec := "fnNoteKeepsTwoPreviousApart", apart := false }
def FnNoteKeepsTwoPreviousApartSaid : Prop := fnNoteKeepsTwoPreviousApartRow.holds Try.pinned (OpenSpec.ofChange fnNoteKeepsTwoPreviousApartSpec)

/-- ITS FALSE NEIGHBOUR: 'it returns false'. Refute it at one input. -/
def fnNoteKeepsTwoPreviousApartWrong : ChangeSpec := { name := "fnNoteKeepsTwoPreviousApart", fn := fun _ => fun
  | [d1, d2, d3] => { results := [.lit (.bool false)], args := [d1, d2, d3] }
  | _ => none }
def FnNoteKeepsTwoPreviousApartWrongFalsely : Prop := fnNoteKeepsTwoPreviousApartRow.holds Try.pinned (OpenSpec.ofChange fnNoteKeepsTwoPreviousApartWrong)

end Rows
end Go.Proofs.Qxb6616402a
