/-
  DERIVED. GIVEN WITH THE SEED: THE CARDS: each row of Qxb6612869aFmtRows.lean that lists a variable, with what it lists TIED to the program's text (the seventh form; the later family's looks); each row that meets fmt, with fmt's text TOLD by the authors' own Lean function (tested against real Go, not proved from fmt's source: count such statements apart). THE CARD IS WHAT COUNTS. Prove the row's statement (the work); the ties are given (Qxb6612869aFmtTie.lean); close each card by the builder's one call (the guide's Derived/Test/ToyasCard.lean, 'card_holds'). Laid BY PROGRAM, IN A SANDBOX (cutbox-door.mjs). By AI agents, Wed Nov 11 2026. No macro, syntax, notation, axiom, sorry.
-/
import Derived.Test.Qxb6612869aFmtRows
import GoSem.ClaimSeven
namespace Go.Proofs.Qxb6612869aFmt
namespace Rows

/-- THE TOLD CARD OF 'zzlaws_internal_resolve_b1.FnInAbstractJoinedChain'. -/
def fnInAbstractJoinedChainCard : Claim7 := { stood := { row := fnInAbstractJoinedChainRow, standIns := [], harness := (true, "09e8f33632dc01535722a4692b56f3b5d9d694e760333dd338ea1493efca62f2"), looks := false }, told := true, goes := false }
def FnInAbstractJoinedChainToldSaid : Prop := Claim7.holds Tryf.pinned (.plain (OpenSpec.ofChange fnInAbstractJoinedChainSpec)) fnInAbstractJoinedChainCard
/-- ITS FALSE NEIGHBOUR. Refute it at one input. -/
def FnInAbstractJoinedChainToldWrongFalsely : Prop := Claim7.holds Tryf.pinned (.plain (OpenSpec.ofChange fnInAbstractJoinedChainWrong)) fnInAbstractJoinedChainCard

/-- THE TOLD CARD OF 'zzlaws_internal_resolve_b1.FnInAbstractOneScopeInserted'. -/
def fnInAbstractOneScopeInsertedCard : Claim7 := { stood := { row := fnInAbstractOneScopeInsertedRow, standIns := [], harness := (true, "09e8f33632dc01535722a4692b56f3b5d9d694e760333dd338ea1493efca62f2"), looks := false }, told := true, goes := false }
def FnInAbstractOneScopeInsertedToldSaid : Prop := Claim7.holds Tryf.pinned (.plain (OpenSpec.ofChange fnInAbstractOneScopeInsertedSpec)) fnInAbstractOneScopeInsertedCard
/-- ITS FALSE NEIGHBOUR. Refute it at one input. -/
def FnInAbstractOneScopeInsertedToldWrongFalsely : Prop := Claim7.holds Tryf.pinned (.plain (OpenSpec.ofChange fnInAbstractOneScopeInsertedWrong)) fnInAbstractOneScopeInsertedCard
end Rows
end Go.Proofs.Qxb6612869aFmt
