/-
  No cell of these rows narrows 'for every input' (looked for: loops, veiled, ifaces, maps, wideKeys, modest, calm, conditions, laid).
  DERIVED. THE GIVEN ROWS OF THIS SEAT. 5 by the template 'for every input the law returns true; each argument reads behind the call as it read before'; 0 by the template 'total and deterministic' (their statements: Qxb6000522aTotals.lean).
  GIVEN WITH THE SEED: the statements are not yours to turn. If you find one false, say at which input.
  Laid BY PROGRAM, IN A SANDBOX (cutbox-rows.mjs): the forced cells as the released guide's own fill.sh prints them over the translation a12b062a93ca01c3… (all of the seat's roots in one cut). By AI agents, Wed Nov 11 2026. No macro, syntax, notation, axiom, sorry.
-/
import Derived.Test.Qxb6000522aChecked
import GoSem.Claim
import GoSem.ClaimJoined
import GoSem.ClaimMapViews
import Derived.JoinedTies
import Derived.KernelRfl
namespace Go.Proofs.Qxb6000522a
/- THE CELL 'sum', in the pinned program and in every row, IS THE sha256 OF THE DUMP (.gsa) THAT Qxb6000522aProg.lean LOADS. Nothing in Lean hashes anything: it is a label: what it is worth is what the hold of that sum in a sandbox is worth. -/
noncomputable def Try.pinned : Pinned := { name := "qxb6000522a", sum := "a12b062a93ca01c3df263ce93f9ceccfb1f35e11304170535341b95538bf7377", checked := Try.checked }
namespace Rows
def none {H : Type} : Left H := { results := [], args := [] }

/-- 'zzlaws_root_b1.FnIsPrintableStringSpec': WHATEVER THE INPUT: true; the input reads as it did. -/
def fnIsPrintableStringSpecSpec : ChangeSpec := { name := "fnIsPrintableStringSpec", fn := fun _ => fun
  | [d] => { results := [.lit (.bool true)], args := [d] }
  | _ => none }
def fnIsPrintableStringSpecRow : OpenClaim := { program := "qxb6000522a", sum := "a12b062a93ca01c3df263ce93f9ceccfb1f35e11304170535341b95538bf7377", func := "example.com/certwright/certwright/zzlaws_root_b1.FnIsPrintableStringSpec", spec := "fnIsPrintableStringSpec", inPlace := ["internal/bytealg.IndexByteString"], apart := false }
def FnIsPrintableStringSpecSaid : Prop := fnIsPrintableStringSpecRow.holds Try.pinned (OpenSpec.ofChange fnIsPrintableStringSpecSpec)

/-- ITS FALSE NEIGHBOUR: 'it returns false'. Refute it at one input. -/
def fnIsPrintableStringSpecWrong : ChangeSpec := { name := "fnIsPrintableStringSpec", fn := fun _ => fun
  | [d] => { results := [.lit (.bool false)], args := [d] }
  | _ => none }
def FnIsPrintableStringSpecWrongFalsely : Prop := fnIsPrintableStringSpecRow.holds Try.pinned (OpenSpec.ofChange fnIsPrintableStringSpecWrong)

/-- 'zzlaws_root_b1.FnIsPrintableStringConcat': WHATEVER THE INPUT: true; the input reads as it did. -/
def fnIsPrintableStringConcatSpec : ChangeSpec := { name := "fnIsPrintableStringConcat", fn := fun _ => fun
  | [d1, d2] => { results := [.lit (.bool true)], args := [d1, d2] }
  | _ => none }
def fnIsPrintableStringConcatRow : OpenClaim := { program := "qxb6000522a", sum := "a12b062a93ca01c3df263ce93f9ceccfb1f35e11304170535341b95538bf7377", func := "example.com/certwright/certwright/zzlaws_root_b1.FnIsPrintableStringConcat", spec := "fnIsPrintableStringConcat", inPlace := ["internal/bytealg.IndexByteString"], apart := false }
def FnIsPrintableStringConcatSaid : Prop := fnIsPrintableStringConcatRow.holds Try.pinned (OpenSpec.ofChange fnIsPrintableStringConcatSpec)

/-- ITS FALSE NEIGHBOUR: 'it returns false'. Refute it at one input. -/
def fnIsPrintableStringConcatWrong : ChangeSpec := { name := "fnIsPrintableStringConcat", fn := fun _ => fun
  | [d1, d2] => { results := [.lit (.bool false)], args := [d1, d2] }
  | _ => none }
def FnIsPrintableStringConcatWrongFalsely : Prop := fnIsPrintableStringConcatRow.holds Try.pinned (OpenSpec.ofChange fnIsPrintableStringConcatWrong)

/-- 'zzlaws_root_b1.FnNameSeparatorFirst': WHATEVER THE INPUT: true; the input reads as it did. -/
def fnNameSeparatorFirstSpec : ChangeSpec := { name := "fnNameSeparatorFirst", fn := fun _ => fun
  | [d1, d2] => { results := [.lit (.bool true)], args := [d1, d2] }
  | _ => none }
def fnNameSeparatorFirstRow : OpenClaim := { program := "qxb6000522a", sum := "a12b062a93ca01c3df263ce93f9ceccfb1f35e11304170535341b95538bf7377", func := "example.com/certwright/certwright/zzlaws_root_b1.FnNameSeparatorFirst", spec := "fnNameSeparatorFirst", inPlace := ["internal/bytealg.IndexByteString"], apart := false }
def FnNameSeparatorFirstSaid : Prop := fnNameSeparatorFirstRow.holds Try.pinned (OpenSpec.ofChange fnNameSeparatorFirstSpec)

/-- ITS FALSE NEIGHBOUR: 'it returns false'. Refute it at one input. -/
def fnNameSeparatorFirstWrong : ChangeSpec := { name := "fnNameSeparatorFirst", fn := fun _ => fun
  | [d1, d2] => { results := [.lit (.bool false)], args := [d1, d2] }
  | _ => none }
def FnNameSeparatorFirstWrongFalsely : Prop := fnNameSeparatorFirstRow.holds Try.pinned (OpenSpec.ofChange fnNameSeparatorFirstWrong)

/-- 'zzlaws_root_b1.FnNameSeparatorMonotone': WHATEVER THE INPUT: true; the input reads as it did. -/
def fnNameSeparatorMonotoneSpec : ChangeSpec := { name := "fnNameSeparatorMonotone", fn := fun _ => fun
  | [d1, d2, d3] => { results := [.lit (.bool true)], args := [d1, d2, d3] }
  | _ => none }
def fnNameSeparatorMonotoneRow : OpenClaim := { program := "qxb6000522a", sum := "a12b062a93ca01c3df263ce93f9ceccfb1f35e11304170535341b95538bf7377", func := "example.com/certwright/certwright/zzlaws_root_b1.FnNameSeparatorMonotone", spec := "fnNameSeparatorMonotone", inPlace := ["internal/bytealg.IndexByteString"], apart := false }
def FnNameSeparatorMonotoneSaid : Prop := fnNameSeparatorMonotoneRow.holds Try.pinned (OpenSpec.ofChange fnNameSeparatorMonotoneSpec)

/-- ITS FALSE NEIGHBOUR: 'it returns false'. Refute it at one input. -/
def fnNameSeparatorMonotoneWrong : ChangeSpec := { name := "fnNameSeparatorMonotone", fn := fun _ => fun
  | [d1, d2, d3] => { results := [.lit (.bool false)], args := [d1, d2, d3] }
  | _ => none }
def FnNameSeparatorMonotoneWrongFalsely : Prop := fnNameSeparatorMonotoneRow.holds Try.pinned (OpenSpec.ofChange fnNameSeparatorMonotoneWrong)

/-- 'zzlaws_root_b1.FnNameSeparatorRestart': WHATEVER THE INPUT: true; the input reads as it did. -/
def fnNameSeparatorRestartSpec : ChangeSpec := { name := "fnNameSeparatorRestart", fn := fun _ => fun
  | [d1, d2, d3] => { results := [.lit (.bool true)], args := [d1, d2, d3] }
  | _ => none }
def fnNameSeparatorRestartRow : OpenClaim := { program := "qxb6000522a", sum := "a12b062a93ca01c3df263ce93f9ceccfb1f35e11304170535341b95538bf7377", func := "example.com/certwright/certwright/zzlaws_root_b1.FnNameSeparatorRestart", spec := "fnNameSeparatorRestart", inPlace := ["internal/bytealg.IndexByteString"], apart := false }
def FnNameSeparatorRestartSaid : Prop := fnNameSeparatorRestartRow.holds Try.pinned (OpenSpec.ofChange fnNameSeparatorRestartSpec)

/-- ITS FALSE NEIGHBOUR: 'it returns false'. Refute it at one input. -/
def fnNameSeparatorRestartWrong : ChangeSpec := { name := "fnNameSeparatorRestart", fn := fun _ => fun
  | [d1, d2, d3] => { results := [.lit (.bool false)], args := [d1, d2, d3] }
  | _ => none }
def FnNameSeparatorRestartWrongFalsely : Prop := fnNameSeparatorRestartRow.holds Try.pinned (OpenSpec.ofChange fnNameSeparatorRestartWrong)

end Rows
end Go.Proofs.Qxb6000522a
