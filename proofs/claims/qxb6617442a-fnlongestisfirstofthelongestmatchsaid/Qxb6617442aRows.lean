/-
  No cell of these rows narrows 'for every input' (looked for: loops, veiled, ifaces, maps, wideKeys, modest, calm, conditions, laid).
  DERIVED. THE GIVEN ROWS OF THIS SEAT. 3 by the template 'for every input the law returns true; each argument reads behind the call as it read before'; 0 by the template 'total and deterministic' (their statements: Qxb6617442aTotals.lean).
  GIVEN WITH THE SEED: the statements are not yours to turn. If you find one false, say at which input.
  Laid BY PROGRAM, IN A SANDBOX (cutbox-rows.mjs): the forced cells as the released guide's own fill.sh prints them over the translation 674f5ab68d19454e… (all of the seat's roots in one cut). By AI agents, Wed Nov 11 2026. No macro, syntax, notation, axiom, sorry.
-/
import Derived.Test.Qxb6617442aChecked
import GoSem.Claim
import GoSem.ClaimJoined
import GoSem.ClaimMapViews
import Derived.JoinedTies
import Derived.KernelRfl
namespace Go.Proofs.Qxb6617442a
/- THE CELL 'sum', in the pinned program and in every row, IS THE sha256 OF THE DUMP (.gsa) THAT Qxb6617442aProg.lean LOADS. Nothing in Lean hashes anything: it is a label: what it is worth is what the hold of that sum in a sandbox is worth. -/
noncomputable def Try.pinned : Pinned := { name := "qxb6617442a", sum := "674f5ab68d19454e5d15151cb174be5b77bd84229e18f32696733d9865e58869", checked := Try.checked }
namespace Rows
def none {H : Type} : Left H := { results := [], args := [] }

/-- 'zzlaws_internal_analysis_b1.FnMeasureIsPorterMeasure': WHATEVER THE INPUT: true; the input reads as it did. -/
def fnMeasureIsPorterMeasureSpec : ChangeSpec := { name := "fnMeasureIsPorterMeasure", fn := fun _ => fun
  | [d1, d2] => { results := [.lit (.bool true)], args := [d1, d2] }
  | _ => none }
def fnMeasureIsPorterMeasureRow : OpenClaim := { program := "qxb6617442a", sum := "674f5ab68d19454e5d15151cb174be5b77bd84229e18f32696733d9865e58869", func := "example.com/trawlgate/trawlgate/zzlaws_internal_analysis_b1.FnMeasureIsPorterMeasure", spec := "fnMeasureIsPorterMeasure", recurses := true, apart := false }
def FnMeasureIsPorterMeasureSaid : Prop := fnMeasureIsPorterMeasureRow.holds Try.pinned (OpenSpec.ofChange fnMeasureIsPorterMeasureSpec)

/-- ITS FALSE NEIGHBOUR: 'it returns false'. Refute it at one input. -/
def fnMeasureIsPorterMeasureWrong : ChangeSpec := { name := "fnMeasureIsPorterMeasure", fn := fun _ => fun
  | [d1, d2] => { results := [.lit (.bool false)], args := [d1, d2] }
  | _ => none }
def FnMeasureIsPorterMeasureWrongFalsely : Prop := fnMeasureIsPorterMeasureRow.holds Try.pinned (OpenSpec.ofChange fnMeasureIsPorterMeasureWrong)

/-- 'zzlaws_internal_analysis_b1.FnLongestIsFirstOfTheLongestMatch': WHATEVER THE INPUT: true; the input reads as it did. -/
def fnLongestIsFirstOfTheLongestMatchSpec : ChangeSpec := { name := "fnLongestIsFirstOfTheLongestMatch", fn := fun _ => fun
  | [d1, d2] => { results := [.lit (.bool true)], args := [d1, d2] }
  | _ => none }
def fnLongestIsFirstOfTheLongestMatchRow : OpenClaim := { program := "qxb6617442a", sum := "674f5ab68d19454e5d15151cb174be5b77bd84229e18f32696733d9865e58869", func := "example.com/trawlgate/trawlgate/zzlaws_internal_analysis_b1.FnLongestIsFirstOfTheLongestMatch", spec := "fnLongestIsFirstOfTheLongestMatch", apart := false }
def FnLongestIsFirstOfTheLongestMatchSaid : Prop := fnLongestIsFirstOfTheLongestMatchRow.holds Try.pinned (OpenSpec.ofChange fnLongestIsFirstOfTheLongestMatchSpec)

/-- ITS FALSE NEIGHBOUR: 'it returns false'. Refute it at one input. -/
def fnLongestIsFirstOfTheLongestMatchWrong : ChangeSpec := { name := "fnLongestIsFirstOfTheLongestMatch", fn := fun _ => fun
  | [d1, d2] => { results := [.lit (.bool false)], args := [d1, d2] }
  | _ => none }
def FnLongestIsFirstOfTheLongestMatchWrongFalsely : Prop := fnLongestIsFirstOfTheLongestMatchRow.holds Try.pinned (OpenSpec.ofChange fnLongestIsFirstOfTheLongestMatchWrong)

/-- 'zzlaws_internal_analysis_b1.FnStep1bEedFollowsMeasure': WHATEVER THE INPUT: true; the input reads as it did. -/
def fnStep1bEedFollowsMeasureSpec : ChangeSpec := { name := "fnStep1bEedFollowsMeasure", fn := fun _ => fun
  | [d] => { results := [.lit (.bool true)], args := [d] }
  | _ => none }
def fnStep1bEedFollowsMeasureRow : OpenClaim := { program := "qxb6617442a", sum := "674f5ab68d19454e5d15151cb174be5b77bd84229e18f32696733d9865e58869", func := "example.com/trawlgate/trawlgate/zzlaws_internal_analysis_b1.FnStep1bEedFollowsMeasure", spec := "fnStep1bEedFollowsMeasure", recurses := true, apart := false }
def FnStep1bEedFollowsMeasureSaid : Prop := fnStep1bEedFollowsMeasureRow.holds Try.pinned (OpenSpec.ofChange fnStep1bEedFollowsMeasureSpec)

/-- ITS FALSE NEIGHBOUR: 'it returns false'. Refute it at one input. -/
def fnStep1bEedFollowsMeasureWrong : ChangeSpec := { name := "fnStep1bEedFollowsMeasure", fn := fun _ => fun
  | [d] => { results := [.lit (.bool false)], args := [d] }
  | _ => none }
def FnStep1bEedFollowsMeasureWrongFalsely : Prop := fnStep1bEedFollowsMeasureRow.holds Try.pinned (OpenSpec.ofChange fnStep1bEedFollowsMeasureWrong)

end Rows
end Go.Proofs.Qxb6617442a
