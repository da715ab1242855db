/-
  No cell of these rows narrows 'for every input' (looked for: loops, veiled, ifaces, maps, wideKeys, modest, calm, conditions, laid).
  DERIVED. THE GIVEN ROWS OF THIS SEAT. 2 by the template 'for every input the law returns true; each argument reads behind the call as it read before'; 0 by the template 'total and deterministic' (their statements: Qxb6612869aFmtTotals.lean).
  GIVEN WITH THE SEED: the statements are not yours to turn. If you find one false, say at which input.
  Laid BY PROGRAM, IN A SANDBOX (cutbox-rows.mjs): the forced cells as the released guide's own fill.sh prints them over the translation 5d0cf62659865d1e… (all of the seat's roots in one cut). By AI agents, Wed Nov 11 2026. No macro, syntax, notation, axiom, sorry.
-/
import Derived.Test.Qxb6612869aFmtChecked
import GoSem.Claim
import GoSem.ClaimJoined
import GoSem.ClaimMapViews
import Derived.JoinedTies
import Derived.KernelRfl
namespace Go.Proofs.Qxb6612869aFmt
/- THE CELL 'sum', in the pinned program and in every row, IS THE sha256 OF THE DUMP (.gsa) THAT Qxb6612869aFmtProg.lean LOADS. Nothing in Lean hashes anything: it is a label: what it is worth is what the hold of that sum in a sandbox is worth. -/
noncomputable def Tryf.pinned : Pinned := { name := "qxb6612869afmt", sum := "5d0cf62659865d1ebbc3b80d2370cd337ff127f8f6c3cc8f8a91881ee73913e7", checked := Tryf.checked }
namespace Rows
def none {H : Type} : Left H := { results := [], args := [] }

/-- 'zzlaws_internal_resolve_b1.FnInAbstractJoinedChain': WHATEVER THE INPUT: true; the input reads as it did. -/
def fnInAbstractJoinedChainSpec : ChangeSpec := { name := "fnInAbstractJoinedChain", fn := fun _ => fun
  | [d1, d2] => { results := [.lit (.bool true)], args := [d1, d2] }
  | _ => none }
def fnInAbstractJoinedChainRow : OpenClaim := { program := "qxb6612869afmt", sum := "5d0cf62659865d1ebbc3b80d2370cd337ff127f8f6c3cc8f8a91881ee73913e7", func := "example.com/vole/vole/zzlaws_internal_resolve_b1.FnInAbstractJoinedChain", spec := "fnInAbstractJoinedChain", stops := ["fmt.errorf"], inPlace := ["fmt.errorf"], apart := false }
/-- NO THEOREM (fmt's text is open here; it may be false): for the released tool's asking of the row's closed facts alone. THE STATEMENT IS 'FnInAbstractJoinedChainToldSaid' (Qxb6612869aFmtCards.lean). -/
def FnInAbstractJoinedChainFormAsk : Prop := fnInAbstractJoinedChainRow.holds Tryf.pinned (OpenSpec.ofChange fnInAbstractJoinedChainSpec)

/-- ITS FALSE NEIGHBOUR: 'it returns false'. Refute it at one input. -/
def fnInAbstractJoinedChainWrong : ChangeSpec := { name := "fnInAbstractJoinedChain", fn := fun _ => fun
  | [d1, d2] => { results := [.lit (.bool false)], args := [d1, d2] }
  | _ => none }
def FnInAbstractJoinedChainWrongFormAsk : Prop := fnInAbstractJoinedChainRow.holds Tryf.pinned (OpenSpec.ofChange fnInAbstractJoinedChainWrong)

/-- 'zzlaws_internal_resolve_b1.FnInAbstractOneScopeInserted': WHATEVER THE INPUT: true; the input reads as it did. -/
def fnInAbstractOneScopeInsertedSpec : ChangeSpec := { name := "fnInAbstractOneScopeInserted", fn := fun _ => fun
  | [d1, d2, d3] => { results := [.lit (.bool true)], args := [d1, d2, d3] }
  | _ => none }
def fnInAbstractOneScopeInsertedRow : OpenClaim := { program := "qxb6612869afmt", sum := "5d0cf62659865d1ebbc3b80d2370cd337ff127f8f6c3cc8f8a91881ee73913e7", func := "example.com/vole/vole/zzlaws_internal_resolve_b1.FnInAbstractOneScopeInserted", spec := "fnInAbstractOneScopeInserted", stops := ["fmt.errorf"], inPlace := ["fmt.errorf"], apart := false }
/-- NO THEOREM (fmt's text is open here; it may be false): for the released tool's asking of the row's closed facts alone. THE STATEMENT IS 'FnInAbstractOneScopeInsertedToldSaid' (Qxb6612869aFmtCards.lean). -/
def FnInAbstractOneScopeInsertedFormAsk : Prop := fnInAbstractOneScopeInsertedRow.holds Tryf.pinned (OpenSpec.ofChange fnInAbstractOneScopeInsertedSpec)

/-- ITS FALSE NEIGHBOUR: 'it returns false'. Refute it at one input. -/
def fnInAbstractOneScopeInsertedWrong : ChangeSpec := { name := "fnInAbstractOneScopeInserted", fn := fun _ => fun
  | [d1, d2, d3] => { results := [.lit (.bool false)], args := [d1, d2, d3] }
  | _ => none }
def FnInAbstractOneScopeInsertedWrongFormAsk : Prop := fnInAbstractOneScopeInsertedRow.holds Tryf.pinned (OpenSpec.ofChange fnInAbstractOneScopeInsertedWrong)

end Rows
end Go.Proofs.Qxb6612869aFmt
