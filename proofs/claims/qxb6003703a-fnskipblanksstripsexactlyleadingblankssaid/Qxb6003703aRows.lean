/-
  No cell of these rows narrows 'for every input' (looked for: loops, veiled, ifaces, maps, wideKeys, modest, calm, conditions, laid).
  DERIVED. THE GIVEN ROWS OF THIS SEAT. 4 by the template 'for every input the law returns true; each argument reads behind the call as it read before'; 0 by the template 'total and deterministic' (their statements: Qxb6003703aTotals.lean).
  GIVEN WITH THE SEED: the statements are not yours to turn. If you find one false, say at which input.
  Laid BY PROGRAM, IN A SANDBOX (cutbox-rows.mjs): the forced cells as the released guide's own fill.sh prints them over the translation 4df272fca91995c5… (all of the seat's roots in one cut). By AI agents, Wed Nov 11 2026. No macro, syntax, notation, axiom, sorry.
-/
import Derived.Test.Qxb6003703aChecked
import GoSem.Claim
import GoSem.ClaimJoined
import GoSem.ClaimMapViews
import Derived.JoinedTies
import Derived.KernelRfl
namespace Go.Proofs.Qxb6003703a
/- THE CELL 'sum', in the pinned program and in every row, IS THE sha256 OF THE DUMP (.gsa) THAT Qxb6003703aProg.lean LOADS. Nothing in Lean hashes anything: it is a label: what it is worth is what the hold of that sum in a sandbox is worth. -/
noncomputable def Try.pinned : Pinned := { name := "qxb6003703a", sum := "4df272fca91995c5e8781c5b48b41bb40b85c80b5472af8c0e3e402b200b9bdb", checked := Try.checked }
namespace Rows
def none {H : Type} : Left H := { results := [], args := [] }

/-- 'zzlaws_pkg_coverage_g1.FnMarkOfAddedCountsFollowsTheMarks': WHATEVER THE INPUT: true; the input reads as it did. -/
def fnMarkOfAddedCountsFollowsTheMarksSpec : ChangeSpec := { name := "fnMarkOfAddedCountsFollowsTheMarks", fn := fun _ => fun
  | [d1, d2, d3, d4] => { results := [.lit (.bool true)], args := [d1, d2, d3, d4] }
  | _ => none }
def fnMarkOfAddedCountsFollowsTheMarksRow : OpenClaim := { program := "qxb6003703a", sum := "4df272fca91995c5e8781c5b48b41bb40b85c80b5472af8c0e3e402b200b9bdb", func := "example.com/acheron/acheron/zzlaws_pkg_coverage_g1.FnMarkOfAddedCountsFollowsTheMarks", spec := "fnMarkOfAddedCountsFollowsTheMarks", apart := false }
def FnMarkOfAddedCountsFollowsTheMarksSaid : Prop := fnMarkOfAddedCountsFollowsTheMarksRow.holds Try.pinned (OpenSpec.ofChange fnMarkOfAddedCountsFollowsTheMarksSpec)

/-- ITS FALSE NEIGHBOUR: 'it returns false'. Refute it at one input. -/
def fnMarkOfAddedCountsFollowsTheMarksWrong : ChangeSpec := { name := "fnMarkOfAddedCountsFollowsTheMarks", fn := fun _ => fun
  | [d1, d2, d3, d4] => { results := [.lit (.bool false)], args := [d1, d2, d3, d4] }
  | _ => none }
def FnMarkOfAddedCountsFollowsTheMarksWrongFalsely : Prop := fnMarkOfAddedCountsFollowsTheMarksRow.holds Try.pinned (OpenSpec.ofChange fnMarkOfAddedCountsFollowsTheMarksWrong)

/-- 'zzlaws_pkg_coverage_g1.FnStemStripsOneAddedExtension': WHATEVER THE INPUT: true; the input reads as it did. -/
def fnStemStripsOneAddedExtensionSpec : ChangeSpec := { name := "fnStemStripsOneAddedExtension", fn := fun _ => fun
  | [d1, d2] => { results := [.lit (.bool true)], args := [d1, d2] }
  | _ => none }
def fnStemStripsOneAddedExtensionRow : OpenClaim := { program := "qxb6003703a", sum := "4df272fca91995c5e8781c5b48b41bb40b85c80b5472af8c0e3e402b200b9bdb", func := "example.com/acheron/acheron/zzlaws_pkg_coverage_g1.FnStemStripsOneAddedExtension", spec := "fnStemStripsOneAddedExtension", apart := false }
def FnStemStripsOneAddedExtensionSaid : Prop := fnStemStripsOneAddedExtensionRow.holds Try.pinned (OpenSpec.ofChange fnStemStripsOneAddedExtensionSpec)

/-- ITS FALSE NEIGHBOUR: 'it returns false'. Refute it at one input. -/
def fnStemStripsOneAddedExtensionWrong : ChangeSpec := { name := "fnStemStripsOneAddedExtension", fn := fun _ => fun
  | [d1, d2] => { results := [.lit (.bool false)], args := [d1, d2] }
  | _ => none }
def FnStemStripsOneAddedExtensionWrongFalsely : Prop := fnStemStripsOneAddedExtensionRow.holds Try.pinned (OpenSpec.ofChange fnStemStripsOneAddedExtensionWrong)

/-- 'zzlaws_pkg_coverage_g1.FnStemIsAPrefixCutAtTheLastDot': WHATEVER THE INPUT: true; the input reads as it did. -/
def fnStemIsAPrefixCutAtTheLastDotSpec : ChangeSpec := { name := "fnStemIsAPrefixCutAtTheLastDot", fn := fun _ => fun
  | [d] => { results := [.lit (.bool true)], args := [d] }
  | _ => none }
def fnStemIsAPrefixCutAtTheLastDotRow : OpenClaim := { program := "qxb6003703a", sum := "4df272fca91995c5e8781c5b48b41bb40b85c80b5472af8c0e3e402b200b9bdb", func := "example.com/acheron/acheron/zzlaws_pkg_coverage_g1.FnStemIsAPrefixCutAtTheLastDot", spec := "fnStemIsAPrefixCutAtTheLastDot", apart := false }
def FnStemIsAPrefixCutAtTheLastDotSaid : Prop := fnStemIsAPrefixCutAtTheLastDotRow.holds Try.pinned (OpenSpec.ofChange fnStemIsAPrefixCutAtTheLastDotSpec)

/-- ITS FALSE NEIGHBOUR: 'it returns false'. Refute it at one input. -/
def fnStemIsAPrefixCutAtTheLastDotWrong : ChangeSpec := { name := "fnStemIsAPrefixCutAtTheLastDot", fn := fun _ => fun
  | [d] => { results := [.lit (.bool false)], args := [d] }
  | _ => none }
def FnStemIsAPrefixCutAtTheLastDotWrongFalsely : Prop := fnStemIsAPrefixCutAtTheLastDotRow.holds Try.pinned (OpenSpec.ofChange fnStemIsAPrefixCutAtTheLastDotWrong)

/-- 'zzlaws_pkg_dict_g1.FnSkipBlanksStripsExactlyLeadingBlanks': WHATEVER THE INPUT: true; the input reads as it did. -/
def fnSkipBlanksStripsExactlyLeadingBlanksSpec : ChangeSpec := { name := "fnSkipBlanksStripsExactlyLeadingBlanks", fn := fun _ => fun
  | [d] => { results := [.lit (.bool true)], args := [d] }
  | _ => none }
def fnSkipBlanksStripsExactlyLeadingBlanksRow : OpenClaim := { program := "qxb6003703a", sum := "4df272fca91995c5e8781c5b48b41bb40b85c80b5472af8c0e3e402b200b9bdb", func := "example.com/acheron/acheron/zzlaws_pkg_dict_g1.FnSkipBlanksStripsExactlyLeadingBlanks", spec := "fnSkipBlanksStripsExactlyLeadingBlanks", apart := false }
def FnSkipBlanksStripsExactlyLeadingBlanksSaid : Prop := fnSkipBlanksStripsExactlyLeadingBlanksRow.holds Try.pinned (OpenSpec.ofChange fnSkipBlanksStripsExactlyLeadingBlanksSpec)

/-- ITS FALSE NEIGHBOUR: 'it returns false'. Refute it at one input. -/
def fnSkipBlanksStripsExactlyLeadingBlanksWrong : ChangeSpec := { name := "fnSkipBlanksStripsExactlyLeadingBlanks", fn := fun _ => fun
  | [d] => { results := [.lit (.bool false)], args := [d] }
  | _ => none }
def FnSkipBlanksStripsExactlyLeadingBlanksWrongFalsely : Prop := fnSkipBlanksStripsExactlyLeadingBlanksRow.holds Try.pinned (OpenSpec.ofChange fnSkipBlanksStripsExactlyLeadingBlanksWrong)

end Rows
end Go.Proofs.Qxb6003703a
