/-
  No cell of these rows narrows 'for every input' (looked for: loops, veiled, ifaces, maps, wideKeys, modest, calm, conditions, laid).
  DERIVED. THE GIVEN ROWS OF THIS SEAT. 4 by the template 'for every input the law returns true; each argument reads behind the call as it read before'; 0 by the template 'total and deterministic' (their statements: Qxb6605612aTotals.lean).
  GIVEN WITH THE SEED: the statements are not yours to turn. If you find one false, say at which input.
  Laid BY PROGRAM, IN A SANDBOX (cutbox-rows.mjs): the forced cells as the released guide's own fill.sh prints them over the translation 9c391399df4327fc… (all of the seat's roots in one cut). By AI agents, Wed Nov 11 2026. No macro, syntax, notation, axiom, sorry.
-/
import Derived.Test.Qxb6605612aChecked
import GoSem.Claim
import GoSem.ClaimJoined
import GoSem.ClaimMapViews
import Derived.JoinedTies
import Derived.KernelRfl
namespace Go.Proofs.Qxb6605612a
/- THE CELL 'sum', in the pinned program and in every row, IS THE sha256 OF THE DUMP (.gsa) THAT Qxb6605612aProg.lean LOADS. Nothing in Lean hashes anything: it is a label: what it is worth is what the hold of that sum in a sandbox is worth. -/
noncomputable def Try.pinned : Pinned := { name := "qxb6605612a", sum := "9c391399df4327fce0913dc669ec5429b61c4882ba4c6b9bd9af2c86475bb2ca", checked := Try.checked }
namespace Rows
def none {H : Type} : Left H := { results := [], args := [] }

/-- 'zzlaws_root_b1.FnMaxCostFillsOneWindow': WHATEVER THE INPUT: true; the input reads as it did. -/
def fnMaxCostFillsOneWindowSpec : ChangeSpec := { name := "fnMaxCostFillsOneWindow", fn := fun _ => fun
  | [d1, d2, d3, d4] => { results := [.lit (.bool true)], args := [d1, d2, d3, d4] }
  | _ => none }
def fnMaxCostFillsOneWindowRow : OpenClaim := { program := "qxb6605612a", sum := "9c391399df4327fce0913dc669ec5429b61c4882ba4c6b9bd9af2c86475bb2ca", func := "example.com/permit/permit/zzlaws_root_b1.FnMaxCostFillsOneWindow", spec := "fnMaxCostFillsOneWindow", inPlace := ["math/bits.Sub64", "math/bits.Add64"], named := ["math/bits.divideError", "math/bits.overflowError"], apart := false }
def FnMaxCostFillsOneWindowSaid : Prop := fnMaxCostFillsOneWindowRow.holds Try.pinned (OpenSpec.ofChange fnMaxCostFillsOneWindowSpec)

/-- ITS FALSE NEIGHBOUR: 'it returns false'. Refute it at one input. -/
def fnMaxCostFillsOneWindowWrong : ChangeSpec := { name := "fnMaxCostFillsOneWindow", fn := fun _ => fun
  | [d1, d2, d3, d4] => { results := [.lit (.bool false)], args := [d1, d2, d3, d4] }
  | _ => none }
def FnMaxCostFillsOneWindowWrongFalsely : Prop := fnMaxCostFillsOneWindowRow.holds Try.pinned (OpenSpec.ofChange fnMaxCostFillsOneWindowWrong)

/-- 'zzlaws_root_b1.FnAdmitsExactByWindow': WHATEVER THE INPUT: true; the input reads as it did. -/
def fnAdmitsExactByWindowSpec : ChangeSpec := { name := "fnAdmitsExactByWindow", fn := fun _ => fun
  | [d1, d2, d3, d4, d5, d6, d7, d8, d9, d10, d11, d12] => { results := [.lit (.bool true)], args := [d1, d2, d3, d4, d5, d6, d7, d8, d9, d10, d11, d12] }
  | _ => none }
def fnAdmitsExactByWindowRow : OpenClaim := { program := "qxb6605612a", sum := "9c391399df4327fce0913dc669ec5429b61c4882ba4c6b9bd9af2c86475bb2ca", func := "example.com/permit/permit/zzlaws_root_b1.FnAdmitsExactByWindow", spec := "fnAdmitsExactByWindow", inPlace := ["math/bits.Sub64", "math/bits.Add64"], named := ["math/bits.divideError", "math/bits.overflowError"], apart := false }
def FnAdmitsExactByWindowSaid : Prop := fnAdmitsExactByWindowRow.holds Try.pinned (OpenSpec.ofChange fnAdmitsExactByWindowSpec)

/-- ITS FALSE NEIGHBOUR: 'it returns false'. Refute it at one input. -/
def fnAdmitsExactByWindowWrong : ChangeSpec := { name := "fnAdmitsExactByWindow", fn := fun _ => fun
  | [d1, d2, d3, d4, d5, d6, d7, d8, d9, d10, d11, d12] => { results := [.lit (.bool false)], args := [d1, d2, d3, d4, d5, d6, d7, d8, d9, d10, d11, d12] }
  | _ => none }
def FnAdmitsExactByWindowWrongFalsely : Prop := fnAdmitsExactByWindowRow.holds Try.pinned (OpenSpec.ofChange fnAdmitsExactByWindowWrong)

/-- 'zzlaws_root_b1.FnAdmitsZeroCostAndMonotone': WHATEVER THE INPUT: true; the input reads as it did. -/
def fnAdmitsZeroCostAndMonotoneSpec : ChangeSpec := { name := "fnAdmitsZeroCostAndMonotone", fn := fun _ => fun
  | [d1, d2, d3, d4, d5, d6, d7, d8, d9, d10, d11] => { results := [.lit (.bool true)], args := [d1, d2, d3, d4, d5, d6, d7, d8, d9, d10, d11] }
  | _ => none }
def fnAdmitsZeroCostAndMonotoneRow : OpenClaim := { program := "qxb6605612a", sum := "9c391399df4327fce0913dc669ec5429b61c4882ba4c6b9bd9af2c86475bb2ca", func := "example.com/permit/permit/zzlaws_root_b1.FnAdmitsZeroCostAndMonotone", spec := "fnAdmitsZeroCostAndMonotone", inPlace := ["math/bits.Sub64", "math/bits.Add64"], named := ["math/bits.divideError", "math/bits.overflowError"], apart := false }
def FnAdmitsZeroCostAndMonotoneSaid : Prop := fnAdmitsZeroCostAndMonotoneRow.holds Try.pinned (OpenSpec.ofChange fnAdmitsZeroCostAndMonotoneSpec)

/-- ITS FALSE NEIGHBOUR: 'it returns false'. Refute it at one input. -/
def fnAdmitsZeroCostAndMonotoneWrong : ChangeSpec := { name := "fnAdmitsZeroCostAndMonotone", fn := fun _ => fun
  | [d1, d2, d3, d4, d5, d6, d7, d8, d9, d10, d11] => { results := [.lit (.bool false)], args := [d1, d2, d3, d4, d5, d6, d7, d8, d9, d10, d11] }
  | _ => none }
def FnAdmitsZeroCostAndMonotoneWrongFalsely : Prop := fnAdmitsZeroCostAndMonotoneRow.holds Try.pinned (OpenSpec.ofChange fnAdmitsZeroCostAndMonotoneWrong)

/-- 'zzlaws_root_b1.FnPerEqualExactlyWhenWrittenEqual': WHATEVER THE INPUT: true; the input reads as it did. -/
def fnPerEqualExactlyWhenWrittenEqualSpec : ChangeSpec := { name := "fnPerEqualExactlyWhenWrittenEqual", fn := fun _ => fun
  | [d1, d2, d3, d4] => { results := [.lit (.bool true)], args := [d1, d2, d3, d4] }
  | _ => none }
def fnPerEqualExactlyWhenWrittenEqualRow : OpenClaim := { program := "qxb6605612a", sum := "9c391399df4327fce0913dc669ec5429b61c4882ba4c6b9bd9af2c86475bb2ca", func := "example.com/permit/permit/zzlaws_root_b1.FnPerEqualExactlyWhenWrittenEqual", spec := "fnPerEqualExactlyWhenWrittenEqual", apart := false }
def FnPerEqualExactlyWhenWrittenEqualSaid : Prop := fnPerEqualExactlyWhenWrittenEqualRow.holds Try.pinned (OpenSpec.ofChange fnPerEqualExactlyWhenWrittenEqualSpec)

/-- ITS FALSE NEIGHBOUR: 'it returns false'. Refute it at one input. -/
def fnPerEqualExactlyWhenWrittenEqualWrong : ChangeSpec := { name := "fnPerEqualExactlyWhenWrittenEqual", fn := fun _ => fun
  | [d1, d2, d3, d4] => { results := [.lit (.bool false)], args := [d1, d2, d3, d4] }
  | _ => none }
def FnPerEqualExactlyWhenWrittenEqualWrongFalsely : Prop := fnPerEqualExactlyWhenWrittenEqualRow.holds Try.pinned (OpenSpec.ofChange fnPerEqualExactlyWhenWrittenEqualWrong)

end Rows
end Go.Proofs.Qxb6605612a
