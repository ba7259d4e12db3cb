/-
  No cell of these rows narrows 'for every input' (looked for: loops, veiled, ifaces, maps, wideKeys, modest, calm, conditions, laid).
  DERIVED. THE GIVEN ROWS OF THIS SEAT. 1 by the template 'for every input the law returns true; each argument reads behind the call as it read before'; 0 by the template 'total and deterministic' (their statements: Qxb6616722aTotals.lean).
  GIVEN WITH THE SEED: the statements are not yours to turn. If you find one false, say at which input.
  Laid BY PROGRAM, IN A SANDBOX (cutbox-rows.mjs): the forced cells as the released guide's own fill.sh prints them over the translation 56ac825f0108f0b4… (all of the seat's roots in one cut). By AI agents, Wed Nov 11 2026. No macro, syntax, notation, axiom, sorry.
-/
import Derived.Test.Qxb6616722aChecked
import GoSem.Claim
import GoSem.ClaimJoined
import GoSem.ClaimMapViews
import Derived.JoinedTies
import Derived.KernelRfl
namespace Go.Proofs.Qxb6616722a
/- THE CELL 'sum', in the pinned program and in every row, IS THE sha256 OF THE DUMP (.gsa) THAT Qxb6616722aProg.lean LOADS. Nothing in Lean hashes anything: it is a label: what it is worth is what the hold of that sum in a sandbox is worth. -/
noncomputable def Try.pinned : Pinned := { name := "qxb6616722a", sum := "56ac825f0108f0b4f583167eb2dbdabf3d03bdcec2b50ea1a21b455061f22c73", checked := Try.checked }
namespace Rows
def none {H : Type} : Left H := { results := [], args := [] }

/-- 'zzlaws_report_b1.FnHasFindingLimitInsertedAnywhere': WHATEVER THE INPUT: true; the input reads as it did. -/
def fnHasFindingLimitInsertedAnywhereSpec : ChangeSpec := { name := "fnHasFindingLimitInsertedAnywhere", fn := fun _ => fun
  | [d1, d2, d3, d4, d5, d6, d7, d8] => { results := [.lit (.bool true)], args := [d1, d2, d3, d4, d5, d6, d7, d8] }
  | _ => none }
def fnHasFindingLimitInsertedAnywhereRow : OpenClaim := { program := "qxb6616722a", sum := "56ac825f0108f0b4f583167eb2dbdabf3d03bdcec2b50ea1a21b455061f22c73", func := "example.com/tuoguan/tuoguan/zzlaws_report_b1.FnHasFindingLimitInsertedAnywhere", spec := "fnHasFindingLimitInsertedAnywhere", apart := false }
def FnHasFindingLimitInsertedAnywhereSaid : Prop := fnHasFindingLimitInsertedAnywhereRow.holds Try.pinned (OpenSpec.ofChange fnHasFindingLimitInsertedAnywhereSpec)

/-- ITS FALSE NEIGHBOUR: 'it returns false'. Refute it at one input. -/
def fnHasFindingLimitInsertedAnywhereWrong : ChangeSpec := { name := "fnHasFindingLimitInsertedAnywhere", fn := fun _ => fun
  | [d1, d2, d3, d4, d5, d6, d7, d8] => { results := [.lit (.bool false)], args := [d1, d2, d3, d4, d5, d6, d7, d8] }
  | _ => none }
def FnHasFindingLimitInsertedAnywhereWrongFalsely : Prop := fnHasFindingLimitInsertedAnywhereRow.holds Try.pinned (OpenSpec.ofChange fnHasFindingLimitInsertedAnywhereWrong)

end Rows
end Go.Proofs.Qxb6616722a
