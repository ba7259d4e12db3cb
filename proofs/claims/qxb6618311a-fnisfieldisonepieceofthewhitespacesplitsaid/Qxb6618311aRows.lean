/-
  No cell of these rows narrows 'for every input' (looked for: loops, veiled, ifaces, maps, wideKeys, modest, calm, conditions, laid).
  DERIVED. THE GIVEN ROWS OF THIS SEAT. 1 by the template 'for every input the law returns true; each argument reads behind the call as it read before'; 0 by the template 'total and deterministic' (their statements: Qxb6618311aTotals.lean).
  GIVEN WITH THE SEED: the statements are not yours to turn. If you find one false, say at which input.
  Laid BY PROGRAM, IN A SANDBOX (cutbox-rows.mjs): the forced cells as the released guide's own fill.sh prints them over the translation 86d57a12a15af82a… (all of the seat's roots in one cut). By AI agents, Wed Nov 11 2026. No macro, syntax, notation, axiom, sorry.
-/
import Derived.Test.Qxb6618311aChecked
import GoSem.Claim
import GoSem.ClaimJoined
import GoSem.ClaimMapViews
import Derived.JoinedTies
import Derived.KernelRfl
namespace Go.Proofs.Qxb6618311a
/- THE CELL 'sum', in the pinned program and in every row, IS THE sha256 OF THE DUMP (.gsa) THAT Qxb6618311aProg.lean LOADS. Nothing in Lean hashes anything: it is a label: what it is worth is what the hold of that sum in a sandbox is worth. -/
noncomputable def Try.pinned : Pinned := { name := "qxb6618311a", sum := "86d57a12a15af82a287900d934cca544ee9790a5c15e667d3d21ae93316586a3", checked := Try.checked }
namespace Rows
def none {H : Type} : Left H := { results := [], args := [] }

/-- 'zzlaws_pkg_eval_b1.FnIsFieldIsOnePieceOfTheWhiteSpaceSplit': WHATEVER THE INPUT: true; the input reads as it did. -/
def fnIsFieldIsOnePieceOfTheWhiteSpaceSplitSpec : ChangeSpec := { name := "fnIsFieldIsOnePieceOfTheWhiteSpaceSplit", fn := fun _ => fun
  | [d] => { results := [.lit (.bool true)], args := [d] }
  | _ => none }
def fnIsFieldIsOnePieceOfTheWhiteSpaceSplitRow : OpenClaim := { program := "qxb6618311a", sum := "86d57a12a15af82a287900d934cca544ee9790a5c15e667d3d21ae93316586a3", func := "example.com/ricerca/ricerca/zzlaws_pkg_eval_b1.FnIsFieldIsOnePieceOfTheWhiteSpaceSplit", spec := "fnIsFieldIsOnePieceOfTheWhiteSpaceSplit", unfollowed := true, recurses := true, apart := false }
def FnIsFieldIsOnePieceOfTheWhiteSpaceSplitSaid : Prop := fnIsFieldIsOnePieceOfTheWhiteSpaceSplitRow.holds Try.pinned (OpenSpec.ofChange fnIsFieldIsOnePieceOfTheWhiteSpaceSplitSpec)

/-- ITS FALSE NEIGHBOUR: 'it returns false'. Refute it at one input. -/
def fnIsFieldIsOnePieceOfTheWhiteSpaceSplitWrong : ChangeSpec := { name := "fnIsFieldIsOnePieceOfTheWhiteSpaceSplit", fn := fun _ => fun
  | [d] => { results := [.lit (.bool false)], args := [d] }
  | _ => none }
def FnIsFieldIsOnePieceOfTheWhiteSpaceSplitWrongFalsely : Prop := fnIsFieldIsOnePieceOfTheWhiteSpaceSplitRow.holds Try.pinned (OpenSpec.ofChange fnIsFieldIsOnePieceOfTheWhiteSpaceSplitWrong)

end Rows
end Go.Proofs.Qxb6618311a
