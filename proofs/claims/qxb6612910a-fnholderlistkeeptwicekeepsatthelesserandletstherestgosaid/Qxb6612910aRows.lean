/-
  No cell of these rows narrows 'for every input' (looked for: loops, veiled, ifaces, maps, wideKeys, modest, calm, conditions, laid).
  DERIVED. THE GIVEN ROWS OF THIS SEAT. 2 by the template 'for every input the law returns true; each argument reads behind the call as it read before'; 0 by the template 'total and deterministic' (their statements: Qxb6612910aTotals.lean).
  GIVEN WITH THE SEED: the statements are not yours to turn. If you find one false, say at which input.
  Laid BY PROGRAM, IN A SANDBOX (cutbox-rows.mjs): the forced cells as the released guide's own fill.sh prints them over the translation 82da79b9aa46f19f… (all of the seat's roots in one cut). By AI agents, Wed Nov 11 2026. No macro, syntax, notation, axiom, sorry.
-/
import Derived.Test.Qxb6612910aChecked
import GoSem.Claim
import GoSem.ClaimJoined
import GoSem.ClaimMapViews
import Derived.JoinedTies
import Derived.KernelRfl
namespace Go.Proofs.Qxb6612910a
/- THE CELL 'sum', in the pinned program and in every row, IS THE sha256 OF THE DUMP (.gsa) THAT Qxb6612910aProg.lean LOADS. Nothing in Lean hashes anything: it is a label: what it is worth is what the hold of that sum in a sandbox is worth. -/
noncomputable def Try.pinned : Pinned := { name := "qxb6612910a", sum := "82da79b9aa46f19f46bdc689bfada742eb78ef3da6a099ec884017c85b599def", checked := Try.checked }
namespace Rows
def none {H : Type} : Left H := { results := [], args := [] }

/-- 'zzlaws_internal_store_b1.FnAheadPlanEntityOneTypePutInAnywhere': WHATEVER THE INPUT: true; the input reads as it did. -/
def fnAheadPlanEntityOneTypePutInAnywhereSpec : ChangeSpec := { name := "fnAheadPlanEntityOneTypePutInAnywhere", fn := fun _ => fun
  | [d1, d2, d3, d4, d5, d6, d7, d8, d9, d10, d11, d12] => { results := [.lit (.bool true)], args := [d1, d2, d3, d4, d5, d6, d7, d8, d9, d10, d11, d12] }
  | _ => none }
def fnAheadPlanEntityOneTypePutInAnywhereRow : OpenClaim := { program := "qxb6612910a", sum := "82da79b9aa46f19f46bdc689bfada742eb78ef3da6a099ec884017c85b599def", func := "example.com/relation-check/relation-check/zzlaws_internal_store_b1.FnAheadPlanEntityOneTypePutInAnywhere", spec := "fnAheadPlanEntityOneTypePutInAnywhere", apart := false }
def FnAheadPlanEntityOneTypePutInAnywhereSaid : Prop := fnAheadPlanEntityOneTypePutInAnywhereRow.holds Try.pinned (OpenSpec.ofChange fnAheadPlanEntityOneTypePutInAnywhereSpec)

/-- ITS FALSE NEIGHBOUR: 'it returns false'. Refute it at one input. -/
def fnAheadPlanEntityOneTypePutInAnywhereWrong : ChangeSpec := { name := "fnAheadPlanEntityOneTypePutInAnywhere", fn := fun _ => fun
  | [d1, d2, d3, d4, d5, d6, d7, d8, d9, d10, d11, d12] => { results := [.lit (.bool false)], args := [d1, d2, d3, d4, d5, d6, d7, d8, d9, d10, d11, d12] }
  | _ => none }
def FnAheadPlanEntityOneTypePutInAnywhereWrongFalsely : Prop := fnAheadPlanEntityOneTypePutInAnywhereRow.holds Try.pinned (OpenSpec.ofChange fnAheadPlanEntityOneTypePutInAnywhereWrong)

/-- 'zzlaws_internal_store_b1.FnHolderListKeepTwiceKeepsAtTheLesserAndLetsTheRestGo': WHATEVER THE INPUT: true; the input reads as it did. -/
def fnHolderListKeepTwiceKeepsAtTheLesserAndLetsTheRestGoSpec : ChangeSpec := { name := "fnHolderListKeepTwiceKeepsAtTheLesserAndLetsTheRestGo", fn := fun _ => fun
  | [d1, d2, d3, d4] => { results := [.lit (.bool true)], args := [d1, d2, d3, d4] }
  | _ => none }
def fnHolderListKeepTwiceKeepsAtTheLesserAndLetsTheRestGoRow : OpenClaim := { program := "qxb6612910a", sum := "82da79b9aa46f19f46bdc689bfada742eb78ef3da6a099ec884017c85b599def", func := "example.com/relation-check/relation-check/zzlaws_internal_store_b1.FnHolderListKeepTwiceKeepsAtTheLesserAndLetsTheRestGo", spec := "fnHolderListKeepTwiceKeepsAtTheLesserAndLetsTheRestGo", unfollowed := true, recurses := true, apart := false }
def FnHolderListKeepTwiceKeepsAtTheLesserAndLetsTheRestGoSaid : Prop := fnHolderListKeepTwiceKeepsAtTheLesserAndLetsTheRestGoRow.holds Try.pinned (OpenSpec.ofChange fnHolderListKeepTwiceKeepsAtTheLesserAndLetsTheRestGoSpec)

/-- ITS FALSE NEIGHBOUR: 'it returns false'. Refute it at one input. -/
def fnHolderListKeepTwiceKeepsAtTheLesserAndLetsTheRestGoWrong : ChangeSpec := { name := "fnHolderListKeepTwiceKeepsAtTheLesserAndLetsTheRestGo", fn := fun _ => fun
  | [d1, d2, d3, d4] => { results := [.lit (.bool false)], args := [d1, d2, d3, d4] }
  | _ => none }
def FnHolderListKeepTwiceKeepsAtTheLesserAndLetsTheRestGoWrongFalsely : Prop := fnHolderListKeepTwiceKeepsAtTheLesserAndLetsTheRestGoRow.holds Try.pinned (OpenSpec.ofChange fnHolderListKeepTwiceKeepsAtTheLesserAndLetsTheRestGoWrong)

end Rows
end Go.Proofs.Qxb6612910a
