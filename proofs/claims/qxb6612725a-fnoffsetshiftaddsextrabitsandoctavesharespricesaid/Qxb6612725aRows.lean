/-
  No cell of these rows narrows 'for every input' (looked for: loops, veiled, ifaces, maps, wideKeys, modest, calm, conditions, laid).
  DERIVED. THE GIVEN ROWS OF THIS SEAT. 3 by the template 'for every input the law returns true; each argument reads behind the call as it read before'; 0 by the template 'total and deterministic' (their statements: Qxb6612725aTotals.lean).
  GIVEN WITH THE SEED: the statements are not yours to turn. If you find one false, say at which input.
  Laid BY PROGRAM, IN A SANDBOX (cutbox-rows.mjs): the forced cells as the released guide's own fill.sh prints them over the translation d817d6f755719352… (all of the seat's roots in one cut). By AI agents, Wed Nov 11 2026. No macro, syntax, notation, axiom, sorry.
-/
import Derived.Test.Qxb6612725aChecked
import GoSem.Claim
import GoSem.ClaimJoined
import GoSem.ClaimMapViews
import Derived.JoinedTies
import Derived.KernelRfl
namespace Go.Proofs.Qxb6612725a
/- THE CELL 'sum', in the pinned program and in every row, IS THE sha256 OF THE DUMP (.gsa) THAT Qxb6612725aProg.lean LOADS. Nothing in Lean hashes anything: it is a label: what it is worth is what the hold of that sum in a sandbox is worth. -/
noncomputable def Try.pinned : Pinned := { name := "qxb6612725a", sum := "d817d6f755719352a941f333980ac8710f536a4fe2a7237a4e951c7e99a39443", checked := Try.checked }
namespace Rows
def none {H : Type} : Left H := { results := [], args := [] }

/-- 'zzlaws_internal_zstdenc_b1.FnOfCodeIsBucketAndShiftAddsToIt': WHATEVER THE INPUT: true; the input reads as it did. -/
def fnOfCodeIsBucketAndShiftAddsToItSpec : ChangeSpec := { name := "fnOfCodeIsBucketAndShiftAddsToIt", fn := fun _ => fun
  | [d1, d2] => { results := [.lit (.bool true)], args := [d1, d2] }
  | _ => none }
def fnOfCodeIsBucketAndShiftAddsToItRow : OpenClaim := { program := "qxb6612725a", sum := "d817d6f755719352a941f333980ac8710f536a4fe2a7237a4e951c7e99a39443", func := "example.com/quaymark/quaymark/zzlaws_internal_zstdenc_b1.FnOfCodeIsBucketAndShiftAddsToIt", spec := "fnOfCodeIsBucketAndShiftAddsToIt", apart := false }
def FnOfCodeIsBucketAndShiftAddsToItSaid : Prop := fnOfCodeIsBucketAndShiftAddsToItRow.holds Try.pinned (OpenSpec.ofChange fnOfCodeIsBucketAndShiftAddsToItSpec)

/-- ITS FALSE NEIGHBOUR: 'it returns false'. Refute it at one input. -/
def fnOfCodeIsBucketAndShiftAddsToItWrong : ChangeSpec := { name := "fnOfCodeIsBucketAndShiftAddsToIt", fn := fun _ => fun
  | [d1, d2] => { results := [.lit (.bool false)], args := [d1, d2] }
  | _ => none }
def FnOfCodeIsBucketAndShiftAddsToItWrongFalsely : Prop := fnOfCodeIsBucketAndShiftAddsToItRow.holds Try.pinned (OpenSpec.ofChange fnOfCodeIsBucketAndShiftAddsToItWrong)

/-- 'zzlaws_internal_zstdenc_b1.FnOfCodeMonotoneAndEqualExactlyInOneOctave': WHATEVER THE INPUT: true; the input reads as it did. -/
def fnOfCodeMonotoneAndEqualExactlyInOneOctaveSpec : ChangeSpec := { name := "fnOfCodeMonotoneAndEqualExactlyInOneOctave", fn := fun _ => fun
  | [d1, d2] => { results := [.lit (.bool true)], args := [d1, d2] }
  | _ => none }
def fnOfCodeMonotoneAndEqualExactlyInOneOctaveRow : OpenClaim := { program := "qxb6612725a", sum := "d817d6f755719352a941f333980ac8710f536a4fe2a7237a4e951c7e99a39443", func := "example.com/quaymark/quaymark/zzlaws_internal_zstdenc_b1.FnOfCodeMonotoneAndEqualExactlyInOneOctave", spec := "fnOfCodeMonotoneAndEqualExactlyInOneOctave", apart := false }
def FnOfCodeMonotoneAndEqualExactlyInOneOctaveSaid : Prop := fnOfCodeMonotoneAndEqualExactlyInOneOctaveRow.holds Try.pinned (OpenSpec.ofChange fnOfCodeMonotoneAndEqualExactlyInOneOctaveSpec)

/-- ITS FALSE NEIGHBOUR: 'it returns false'. Refute it at one input. -/
def fnOfCodeMonotoneAndEqualExactlyInOneOctaveWrong : ChangeSpec := { name := "fnOfCodeMonotoneAndEqualExactlyInOneOctave", fn := fun _ => fun
  | [d1, d2] => { results := [.lit (.bool false)], args := [d1, d2] }
  | _ => none }
def FnOfCodeMonotoneAndEqualExactlyInOneOctaveWrongFalsely : Prop := fnOfCodeMonotoneAndEqualExactlyInOneOctaveRow.holds Try.pinned (OpenSpec.ofChange fnOfCodeMonotoneAndEqualExactlyInOneOctaveWrong)

/-- 'zzlaws_internal_zstdenc_b1.FnOffsetShiftAddsExtraBitsAndOctaveSharesPrice': WHATEVER THE INPUT: true; the input reads as it did. -/
def fnOffsetShiftAddsExtraBitsAndOctaveSharesPriceSpec : ChangeSpec := { name := "fnOffsetShiftAddsExtraBitsAndOctaveSharesPrice", fn := fun _ => fun
  | [d1, d2, d3, d4] => { results := [.lit (.bool true)], args := [d1, d2, d3, d4] }
  | _ => none }
def fnOffsetShiftAddsExtraBitsAndOctaveSharesPriceRow : OpenClaim := { program := "qxb6612725a", sum := "d817d6f755719352a941f333980ac8710f536a4fe2a7237a4e951c7e99a39443", func := "example.com/quaymark/quaymark/zzlaws_internal_zstdenc_b1.FnOffsetShiftAddsExtraBitsAndOctaveSharesPrice", spec := "fnOffsetShiftAddsExtraBitsAndOctaveSharesPrice", apart := false }
def FnOffsetShiftAddsExtraBitsAndOctaveSharesPriceSaid : Prop := fnOffsetShiftAddsExtraBitsAndOctaveSharesPriceRow.holds Try.pinned (OpenSpec.ofChange fnOffsetShiftAddsExtraBitsAndOctaveSharesPriceSpec)

/-- ITS FALSE NEIGHBOUR: 'it returns false'. Refute it at one input. -/
def fnOffsetShiftAddsExtraBitsAndOctaveSharesPriceWrong : ChangeSpec := { name := "fnOffsetShiftAddsExtraBitsAndOctaveSharesPrice", fn := fun _ => fun
  | [d1, d2, d3, d4] => { results := [.lit (.bool false)], args := [d1, d2, d3, d4] }
  | _ => none }
def FnOffsetShiftAddsExtraBitsAndOctaveSharesPriceWrongFalsely : Prop := fnOffsetShiftAddsExtraBitsAndOctaveSharesPriceRow.holds Try.pinned (OpenSpec.ofChange fnOffsetShiftAddsExtraBitsAndOctaveSharesPriceWrong)

end Rows
end Go.Proofs.Qxb6612725a
