/-
  No cell of these rows narrows 'for every input' (looked for: loops, veiled, ifaces, maps, wideKeys, modest, calm, conditions, laid).
  DERIVED. THE GIVEN ROWS OF THIS SEAT. 2 by the template 'for every input the law returns true; each argument reads behind the call as it read before'; 0 by the template 'total and deterministic' (their statements: Qxb6615157aTotals.lean).
  GIVEN WITH THE SEED: the statements are not yours to turn. If you find one false, say at which input.
  Laid BY PROGRAM, IN A SANDBOX (cutbox-rows.mjs): the forced cells as the released guide's own fill.sh prints them over the translation d2ea4e512d8c2bea… (all of the seat's roots in one cut). By AI agents, Wed Nov 11 2026. No macro, syntax, notation, axiom, sorry.
-/
import Derived.Test.Qxb6615157aChecked
import GoSem.Claim
import GoSem.ClaimJoined
import GoSem.ClaimMapViews
import Derived.JoinedTies
import Derived.KernelRfl
namespace Go.Proofs.Qxb6615157a
/- THE CELL 'sum', in the pinned program and in every row, IS THE sha256 OF THE DUMP (.gsa) THAT Qxb6615157aProg.lean LOADS. Nothing in Lean hashes anything: it is a label: what it is worth is what the hold of that sum in a sandbox is worth. -/
noncomputable def Try.pinned : Pinned := { name := "qxb6615157a", sum := "d2ea4e512d8c2bea8aefb7afe02d7a78c5955ecfd10e55a465977e94b701e632", checked := Try.checked }
namespace Rows
def none {H : Type} : Left H := { results := [], args := [] }

/-- 'zzlaws_jsonvalue_b1.FnYieldAllCutAnywhere': WHATEVER THE INPUT: true; the input reads as it did. -/
def fnYieldAllCutAnywhereSpec : ChangeSpec := { name := "fnYieldAllCutAnywhere", fn := fun _ => fun
  | [d1, d2, d3, d4] => { results := [.lit (.bool true)], args := [d1, d2, d3, d4] }
  | _ => none }
def fnYieldAllCutAnywhereRow : OpenClaim := { program := "qxb6615157a", sum := "d2ea4e512d8c2bea8aefb7afe02d7a78c5955ecfd10e55a465977e94b701e632", func := "example.com/odd-errand/odd-errand/zzlaws_jsonvalue_b1.FnYieldAllCutAnywhere", spec := "fnYieldAllCutAnywhere", unfollowed := true, recurses := true, apart := false }
def FnYieldAllCutAnywhereSaid : Prop := fnYieldAllCutAnywhereRow.holds Try.pinned (OpenSpec.ofChange fnYieldAllCutAnywhereSpec)

/-- ITS FALSE NEIGHBOUR: 'it returns false'. Refute it at one input. -/
def fnYieldAllCutAnywhereWrong : ChangeSpec := { name := "fnYieldAllCutAnywhere", fn := fun _ => fun
  | [d1, d2, d3, d4] => { results := [.lit (.bool false)], args := [d1, d2, d3, d4] }
  | _ => none }
def FnYieldAllCutAnywhereWrongFalsely : Prop := fnYieldAllCutAnywhereRow.holds Try.pinned (OpenSpec.ofChange fnYieldAllCutAnywhereWrong)

/-- 'zzlaws_jsonvalue_b1.FnYieldAllStopKeepsAPrefixOfTheWhole': WHATEVER THE INPUT: true; the input reads as it did. -/
def fnYieldAllStopKeepsAPrefixOfTheWholeSpec : ChangeSpec := { name := "fnYieldAllStopKeepsAPrefixOfTheWhole", fn := fun _ => fun
  | [d1, d2, d3] => { results := [.lit (.bool true)], args := [d1, d2, d3] }
  | _ => none }
def fnYieldAllStopKeepsAPrefixOfTheWholeRow : OpenClaim := { program := "qxb6615157a", sum := "d2ea4e512d8c2bea8aefb7afe02d7a78c5955ecfd10e55a465977e94b701e632", func := "example.com/odd-errand/odd-errand/zzlaws_jsonvalue_b1.FnYieldAllStopKeepsAPrefixOfTheWhole", spec := "fnYieldAllStopKeepsAPrefixOfTheWhole", unfollowed := true, recurses := true, apart := false }
def FnYieldAllStopKeepsAPrefixOfTheWholeSaid : Prop := fnYieldAllStopKeepsAPrefixOfTheWholeRow.holds Try.pinned (OpenSpec.ofChange fnYieldAllStopKeepsAPrefixOfTheWholeSpec)

/-- ITS FALSE NEIGHBOUR: 'it returns false'. Refute it at one input. -/
def fnYieldAllStopKeepsAPrefixOfTheWholeWrong : ChangeSpec := { name := "fnYieldAllStopKeepsAPrefixOfTheWhole", fn := fun _ => fun
  | [d1, d2, d3] => { results := [.lit (.bool false)], args := [d1, d2, d3] }
  | _ => none }
def FnYieldAllStopKeepsAPrefixOfTheWholeWrongFalsely : Prop := fnYieldAllStopKeepsAPrefixOfTheWholeRow.holds Try.pinned (OpenSpec.ofChange fnYieldAllStopKeepsAPrefixOfTheWholeWrong)

end Rows
end Go.Proofs.Qxb6615157a
