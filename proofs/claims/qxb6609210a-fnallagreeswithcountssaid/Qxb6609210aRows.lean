/-
  No cell of these rows narrows 'for every input' (looked for: loops, veiled, ifaces, maps, wideKeys, modest, calm, conditions, laid).
  DERIVED. THE GIVEN ROWS OF THIS SEAT. 2 by the template 'for every input the law returns true; each argument reads behind the call as it read before'; 0 by the template 'total and deterministic' (their statements: Qxb6609210aTotals.lean).
  GIVEN WITH THE SEED: the statements are not yours to turn. If you find one false, say at which input.
  Laid BY PROGRAM, IN A SANDBOX (cutbox-rows.mjs): the forced cells as the released guide's own fill.sh prints them over the translation 3809341608e89916… (all of the seat's roots in one cut). By AI agents, Wed Nov 11 2026. No macro, syntax, notation, axiom, sorry.
-/
import Derived.Test.Qxb6609210aChecked
import GoSem.Claim
import GoSem.ClaimJoined
import GoSem.ClaimMapViews
import Derived.JoinedTies
import Derived.KernelRfl
namespace Go.Proofs.Qxb6609210a
/- THE CELL 'sum', in the pinned program and in every row, IS THE sha256 OF THE DUMP (.gsa) THAT Qxb6609210aProg.lean LOADS. Nothing in Lean hashes anything: it is a label: what it is worth is what the hold of that sum in a sandbox is worth. -/
noncomputable def Try.pinned : Pinned := { name := "qxb6609210a", sum := "3809341608e899166377f0e4cb72d9e2370da17fdaaad75c77fddef8983fd442", checked := Try.checked }
namespace Rows
def none {H : Type} : Left H := { results := [], args := [] }

/-- 'zzlaws_internal_sfv_b1.FnAllAgreesWithCounts': WHATEVER THE INPUT: true; the input reads as it did. -/
def fnAllAgreesWithCountsSpec : ChangeSpec := { name := "fnAllAgreesWithCounts", fn := fun _ => fun
  | [d] => { results := [.lit (.bool true)], args := [d] }
  | _ => none }
def fnAllAgreesWithCountsRow : OpenClaim := { program := "qxb6609210a", sum := "3809341608e899166377f0e4cb72d9e2370da17fdaaad75c77fddef8983fd442", func := "example.com/handseal/handseal/zzlaws_internal_sfv_b1.FnAllAgreesWithCounts", spec := "fnAllAgreesWithCounts", unfollowed := true, recurses := true, apart := false }
def FnAllAgreesWithCountsSaid : Prop := fnAllAgreesWithCountsRow.holds Try.pinned (OpenSpec.ofChange fnAllAgreesWithCountsSpec)

/-- ITS FALSE NEIGHBOUR: 'it returns false'. Refute it at one input. -/
def fnAllAgreesWithCountsWrong : ChangeSpec := { name := "fnAllAgreesWithCounts", fn := fun _ => fun
  | [d] => { results := [.lit (.bool false)], args := [d] }
  | _ => none }
def FnAllAgreesWithCountsWrongFalsely : Prop := fnAllAgreesWithCountsRow.holds Try.pinned (OpenSpec.ofChange fnAllAgreesWithCountsWrong)

/-- 'zzlaws_internal_sfv_b1.FnAllSplitsOverConcatenation': WHATEVER THE INPUT: true; the input reads as it did. -/
def fnAllSplitsOverConcatenationSpec : ChangeSpec := { name := "fnAllSplitsOverConcatenation", fn := fun _ => fun
  | [d1, d2] => { results := [.lit (.bool true)], args := [d1, d2] }
  | _ => none }
def fnAllSplitsOverConcatenationRow : OpenClaim := { program := "qxb6609210a", sum := "3809341608e899166377f0e4cb72d9e2370da17fdaaad75c77fddef8983fd442", func := "example.com/handseal/handseal/zzlaws_internal_sfv_b1.FnAllSplitsOverConcatenation", spec := "fnAllSplitsOverConcatenation", inPlace := ["internal/bytealg.IndexByteString"], unfollowed := true, recurses := true, apart := false }
def FnAllSplitsOverConcatenationSaid : Prop := fnAllSplitsOverConcatenationRow.holds Try.pinned (OpenSpec.ofChange fnAllSplitsOverConcatenationSpec)

/-- ITS FALSE NEIGHBOUR: 'it returns false'. Refute it at one input. -/
def fnAllSplitsOverConcatenationWrong : ChangeSpec := { name := "fnAllSplitsOverConcatenation", fn := fun _ => fun
  | [d1, d2] => { results := [.lit (.bool false)], args := [d1, d2] }
  | _ => none }
def FnAllSplitsOverConcatenationWrongFalsely : Prop := fnAllSplitsOverConcatenationRow.holds Try.pinned (OpenSpec.ofChange fnAllSplitsOverConcatenationWrong)

end Rows
end Go.Proofs.Qxb6609210a
