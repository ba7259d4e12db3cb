/-
  No cell of these rows narrows 'for every input' (looked for: loops, veiled, ifaces, maps, wideKeys, modest, calm, conditions, laid).
  DERIVED. THE GIVEN ROWS OF THIS SEAT. 1 by the template 'for every input the law returns true; each argument reads behind the call as it read before'; 0 by the template 'total and deterministic' (their statements: Qxb6618888aTotals.lean).
  GIVEN WITH THE SEED: the statements are not yours to turn. If you find one false, say at which input.
  Laid BY PROGRAM, IN A SANDBOX (cutbox-rows.mjs): the forced cells as the released guide's own fill.sh prints them over the translation 99ff8d12f6d2274c… (all of the seat's roots in one cut). By AI agents, Wed Nov 11 2026. No macro, syntax, notation, axiom, sorry.
-/
import Derived.Test.Qxb6618888aChecked
import GoSem.Claim
import GoSem.ClaimJoined
import GoSem.ClaimMapViews
import Derived.JoinedTies
import Derived.KernelRfl
namespace Go.Proofs.Qxb6618888a
/- THE CELL 'sum', in the pinned program and in every row, IS THE sha256 OF THE DUMP (.gsa) THAT Qxb6618888aProg.lean LOADS. Nothing in Lean hashes anything: it is a label: what it is worth is what the hold of that sum in a sandbox is worth. -/
noncomputable def Try.pinned : Pinned := { name := "qxb6618888a", sum := "99ff8d12f6d2274c043a8a1ae9f183419f810943b0abc23ebd260f31de05bdb9", checked := Try.checked }
namespace Rows
def none {H : Type} : Left H := { results := [], args := [] }

/-- 'zzlaws_internal_bzip2_b1.FnFirstInMarksTheFirstMatchAndOnlyTheDifferenceCounts': WHATEVER THE INPUT: true; the input reads as it did. -/
def fnFirstInMarksTheFirstMatchAndOnlyTheDifferenceCountsSpec : ChangeSpec := { name := "fnFirstInMarksTheFirstMatchAndOnlyTheDifferenceCounts", fn := fun _ => fun
  | [d1, d2] => { results := [.lit (.bool true)], args := [d1, d2] }
  | _ => none }
def fnFirstInMarksTheFirstMatchAndOnlyTheDifferenceCountsRow : OpenClaim := { program := "qxb6618888a", sum := "99ff8d12f6d2274c043a8a1ae9f183419f810943b0abc23ebd260f31de05bdb9", func := "deltaline.example/deltaline/zzlaws_internal_bzip2_b1.FnFirstInMarksTheFirstMatchAndOnlyTheDifferenceCounts", spec := "fnFirstInMarksTheFirstMatchAndOnlyTheDifferenceCounts", apart := false }
def FnFirstInMarksTheFirstMatchAndOnlyTheDifferenceCountsSaid : Prop := fnFirstInMarksTheFirstMatchAndOnlyTheDifferenceCountsRow.holds Try.pinned (OpenSpec.ofChange fnFirstInMarksTheFirstMatchAndOnlyTheDifferenceCountsSpec)

/-- ITS FALSE NEIGHBOUR: 'it returns false'. Refute it at one input. -/
def fnFirstInMarksTheFirstMatchAndOnlyTheDifferenceCountsWrong : ChangeSpec := { name := "fnFirstInMarksTheFirstMatchAndOnlyTheDifferenceCounts", fn := fun _ => fun
  | [d1, d2] => { results := [.lit (.bool false)], args := [d1, d2] }
  | _ => none }
def FnFirstInMarksTheFirstMatchAndOnlyTheDifferenceCountsWrongFalsely : Prop := fnFirstInMarksTheFirstMatchAndOnlyTheDifferenceCountsRow.holds Try.pinned (OpenSpec.ofChange fnFirstInMarksTheFirstMatchAndOnlyTheDifferenceCountsWrong)

end Rows
end Go.Proofs.Qxb6618888a
