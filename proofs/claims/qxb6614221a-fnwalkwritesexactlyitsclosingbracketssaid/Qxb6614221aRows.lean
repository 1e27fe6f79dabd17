/-
  No cell of these rows narrows 'for every input' (looked for: loops, veiled, ifaces, maps, wideKeys, modest, calm, conditions, laid).
  DERIVED. THE GIVEN ROWS OF THIS SEAT. 4 by the template 'for every input the law returns true; each argument reads behind the call as it read before'; 0 by the template 'total and deterministic' (their statements: Qxb6614221aTotals.lean).
  GIVEN WITH THE SEED: the statements are not yours to turn. If you find one false, say at which input.
  Laid BY PROGRAM, IN A SANDBOX (cutbox-rows.mjs): the forced cells as the released guide's own fill.sh prints them over the translation 465c1264df74c82b… (all of the seat's roots in one cut). By AI agents, Wed Nov 11 2026. No macro, syntax, notation, axiom, sorry.
-/
import Derived.Test.Qxb6614221aChecked
import GoSem.Claim
import GoSem.ClaimJoined
import GoSem.ClaimMapViews
import Derived.JoinedTies
import Derived.KernelRfl
namespace Go.Proofs.Qxb6614221a
/- THE CELL 'sum', in the pinned program and in every row, IS THE sha256 OF THE DUMP (.gsa) THAT Qxb6614221aProg.lean LOADS. Nothing in Lean hashes anything: it is a label: what it is worth is what the hold of that sum in a sandbox is worth. -/
noncomputable def Try.pinned : Pinned := { name := "qxb6614221a", sum := "465c1264df74c82b6017575315ddc4bb9afc56b121acc7b0c452bac00c36cd23", checked := Try.checked }
namespace Rows
def none {H : Type} : Left H := { results := [], args := [] }

/-- 'zzlaws_value_b1.FnLenCountsBytesAtEveryCut': WHATEVER THE INPUT: true; the input reads as it did. -/
def fnLenCountsBytesAtEveryCutSpec : ChangeSpec := { name := "fnLenCountsBytesAtEveryCut", fn := fun _ => fun
  | [d1, d2] => { results := [.lit (.bool true)], args := [d1, d2] }
  | _ => none }
def fnLenCountsBytesAtEveryCutRow : OpenClaim := { program := "qxb6614221a", sum := "465c1264df74c82b6017575315ddc4bb9afc56b121acc7b0c452bac00c36cd23", func := "example.com/fernshell/fernshell/zzlaws_value_b1.FnLenCountsBytesAtEveryCut", spec := "fnLenCountsBytesAtEveryCut", apart := false }
def FnLenCountsBytesAtEveryCutSaid : Prop := fnLenCountsBytesAtEveryCutRow.holds Try.pinned (OpenSpec.ofChange fnLenCountsBytesAtEveryCutSpec)

/-- ITS FALSE NEIGHBOUR: 'it returns false'. Refute it at one input. -/
def fnLenCountsBytesAtEveryCutWrong : ChangeSpec := { name := "fnLenCountsBytesAtEveryCut", fn := fun _ => fun
  | [d1, d2] => { results := [.lit (.bool false)], args := [d1, d2] }
  | _ => none }
def FnLenCountsBytesAtEveryCutWrongFalsely : Prop := fnLenCountsBytesAtEveryCutRow.holds Try.pinned (OpenSpec.ofChange fnLenCountsBytesAtEveryCutWrong)

/-- 'zzlaws_value_b1.FnWalkWritesExactlyItsClosingBrackets': WHATEVER THE INPUT: true; the input reads as it did. -/
def fnWalkWritesExactlyItsClosingBracketsSpec : ChangeSpec := { name := "fnWalkWritesExactlyItsClosingBrackets", fn := fun _ => fun
  | [d1, d2] => { results := [.lit (.bool true)], args := [d1, d2] }
  | _ => none }
def fnWalkWritesExactlyItsClosingBracketsRow : OpenClaim := { program := "qxb6614221a", sum := "465c1264df74c82b6017575315ddc4bb9afc56b121acc7b0c452bac00c36cd23", func := "example.com/fernshell/fernshell/zzlaws_value_b1.FnWalkWritesExactlyItsClosingBrackets", spec := "fnWalkWritesExactlyItsClosingBrackets", apart := false }
def FnWalkWritesExactlyItsClosingBracketsSaid : Prop := fnWalkWritesExactlyItsClosingBracketsRow.holds Try.pinned (OpenSpec.ofChange fnWalkWritesExactlyItsClosingBracketsSpec)

/-- ITS FALSE NEIGHBOUR: 'it returns false'. Refute it at one input. -/
def fnWalkWritesExactlyItsClosingBracketsWrong : ChangeSpec := { name := "fnWalkWritesExactlyItsClosingBrackets", fn := fun _ => fun
  | [d1, d2] => { results := [.lit (.bool false)], args := [d1, d2] }
  | _ => none }
def FnWalkWritesExactlyItsClosingBracketsWrongFalsely : Prop := fnWalkWritesExactlyItsClosingBracketsRow.holds Try.pinned (OpenSpec.ofChange fnWalkWritesExactlyItsClosingBracketsWrong)

/-- 'zzlaws_value_b1.FnListSliceHoldsTheElementsBetween': WHATEVER THE INPUT: true; the input reads as it did. -/
def fnListSliceHoldsTheElementsBetweenSpec : ChangeSpec := { name := "fnListSliceHoldsTheElementsBetween", fn := fun _ => fun
  | [d1, d2, d3] => { results := [.lit (.bool true)], args := [d1, d2, d3] }
  | _ => none }
def fnListSliceHoldsTheElementsBetweenRow : OpenClaim := { program := "qxb6614221a", sum := "465c1264df74c82b6017575315ddc4bb9afc56b121acc7b0c452bac00c36cd23", func := "example.com/fernshell/fernshell/zzlaws_value_b1.FnListSliceHoldsTheElementsBetween", spec := "fnListSliceHoldsTheElementsBetween", recurses := true, apart := false }
def FnListSliceHoldsTheElementsBetweenSaid : Prop := fnListSliceHoldsTheElementsBetweenRow.holds Try.pinned (OpenSpec.ofChange fnListSliceHoldsTheElementsBetweenSpec)

/-- ITS FALSE NEIGHBOUR: 'it returns false'. Refute it at one input. -/
def fnListSliceHoldsTheElementsBetweenWrong : ChangeSpec := { name := "fnListSliceHoldsTheElementsBetween", fn := fun _ => fun
  | [d1, d2, d3] => { results := [.lit (.bool false)], args := [d1, d2, d3] }
  | _ => none }
def FnListSliceHoldsTheElementsBetweenWrongFalsely : Prop := fnListSliceHoldsTheElementsBetweenRow.holds Try.pinned (OpenSpec.ofChange fnListSliceHoldsTheElementsBetweenWrong)

/-- 'zzlaws_value_b1.FnListSliceOfASliceIsOneSlice': WHATEVER THE INPUT: true; the input reads as it did. -/
def fnListSliceOfASliceIsOneSliceSpec : ChangeSpec := { name := "fnListSliceOfASliceIsOneSlice", fn := fun _ => fun
  | [d1, d2, d3, d4, d5] => { results := [.lit (.bool true)], args := [d1, d2, d3, d4, d5] }
  | _ => none }
def fnListSliceOfASliceIsOneSliceRow : OpenClaim := { program := "qxb6614221a", sum := "465c1264df74c82b6017575315ddc4bb9afc56b121acc7b0c452bac00c36cd23", func := "example.com/fernshell/fernshell/zzlaws_value_b1.FnListSliceOfASliceIsOneSlice", spec := "fnListSliceOfASliceIsOneSlice", recurses := true, apart := false }
def FnListSliceOfASliceIsOneSliceSaid : Prop := fnListSliceOfASliceIsOneSliceRow.holds Try.pinned (OpenSpec.ofChange fnListSliceOfASliceIsOneSliceSpec)

/-- ITS FALSE NEIGHBOUR: 'it returns false'. Refute it at one input. -/
def fnListSliceOfASliceIsOneSliceWrong : ChangeSpec := { name := "fnListSliceOfASliceIsOneSlice", fn := fun _ => fun
  | [d1, d2, d3, d4, d5] => { results := [.lit (.bool false)], args := [d1, d2, d3, d4, d5] }
  | _ => none }
def FnListSliceOfASliceIsOneSliceWrongFalsely : Prop := fnListSliceOfASliceIsOneSliceRow.holds Try.pinned (OpenSpec.ofChange fnListSliceOfASliceIsOneSliceWrong)

end Rows
end Go.Proofs.Qxb6614221a
