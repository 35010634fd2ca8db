/-
  No cell of these rows narrows 'for every input' (looked for: loops, veiled, ifaces, maps, wideKeys, modest, calm, conditions, laid).
  DERIVED. THE GIVEN ROWS OF THIS SEAT. 6 by the template 'for every input the law returns true; each argument reads behind the call as it read before'; 0 by the template 'total and deterministic' (their statements: Qxb6000491aTotals.lean).
  GIVEN WITH THE SEED: the statements are not yours to turn. If you find one false, say at which input.
  Laid BY PROGRAM, IN A SANDBOX (cutbox-rows.mjs): the forced cells as the released guide's own fill.sh prints them over the translation 07addd8fdca84b24… (all of the seat's roots in one cut). By AI agents, Wed Nov 11 2026. No macro, syntax, notation, axiom, sorry.
-/
import Derived.Test.Qxb6000491aChecked
import GoSem.Claim
import GoSem.ClaimJoined
import GoSem.ClaimMapViews
import Derived.JoinedTies
import Derived.KernelRfl
namespace Go.Proofs.Qxb6000491a
/- THE CELL 'sum', in the pinned program and in every row, IS THE sha256 OF THE DUMP (.gsa) THAT Qxb6000491aProg.lean LOADS. Nothing in Lean hashes anything: it is a label: what it is worth is what the hold of that sum in a sandbox is worth. -/
noncomputable def Try.pinned : Pinned := { name := "qxb6000491a", sum := "07addd8fdca84b241e6b33a22d5a2d0e85231c250558ef3379827ab4ab12d2fc", checked := Try.checked }
namespace Rows
def none {H : Type} : Left H := { results := [], args := [] }

/-- 'zzlaws_root_b1.FnLowerASCIIIdempotentLowers': WHATEVER THE INPUT: true; the input reads as it did. -/
def fnLowerASCIIIdempotentLowersSpec : ChangeSpec := { name := "fnLowerASCIIIdempotentLowers", fn := fun _ => fun
  | [d] => { results := [.lit (.bool true)], args := [d] }
  | _ => none }
def fnLowerASCIIIdempotentLowersRow : OpenClaim := { program := "qxb6000491a", sum := "07addd8fdca84b241e6b33a22d5a2d0e85231c250558ef3379827ab4ab12d2fc", func := "example.com/certmail/certmail/zzlaws_root_b1.FnLowerASCIIIdempotentLowers", spec := "fnLowerASCIIIdempotentLowers", plainKeys := false, apart := false }
def FnLowerASCIIIdempotentLowersSaid : Prop := fnLowerASCIIIdempotentLowersRow.holds Try.pinned (OpenSpec.ofChange fnLowerASCIIIdempotentLowersSpec)

/-- ITS FALSE NEIGHBOUR: 'it returns false'. Refute it at one input. -/
def fnLowerASCIIIdempotentLowersWrong : ChangeSpec := { name := "fnLowerASCIIIdempotentLowers", fn := fun _ => fun
  | [d] => { results := [.lit (.bool false)], args := [d] }
  | _ => none }
def FnLowerASCIIIdempotentLowersWrongFalsely : Prop := fnLowerASCIIIdempotentLowersRow.holds Try.pinned (OpenSpec.ofChange fnLowerASCIIIdempotentLowersWrong)

/-- 'zzlaws_root_b1.FnLowerASCIIFoldEquality': WHATEVER THE INPUT: true; the input reads as it did. -/
def fnLowerASCIIFoldEqualitySpec : ChangeSpec := { name := "fnLowerASCIIFoldEquality", fn := fun _ => fun
  | [d1, d2] => { results := [.lit (.bool true)], args := [d1, d2] }
  | _ => none }
def fnLowerASCIIFoldEqualityRow : OpenClaim := { program := "qxb6000491a", sum := "07addd8fdca84b241e6b33a22d5a2d0e85231c250558ef3379827ab4ab12d2fc", func := "example.com/certmail/certmail/zzlaws_root_b1.FnLowerASCIIFoldEquality", spec := "fnLowerASCIIFoldEquality", plainKeys := false, apart := false }
def FnLowerASCIIFoldEqualitySaid : Prop := fnLowerASCIIFoldEqualityRow.holds Try.pinned (OpenSpec.ofChange fnLowerASCIIFoldEqualitySpec)

/-- ITS FALSE NEIGHBOUR: 'it returns false'. Refute it at one input. -/
def fnLowerASCIIFoldEqualityWrong : ChangeSpec := { name := "fnLowerASCIIFoldEquality", fn := fun _ => fun
  | [d1, d2] => { results := [.lit (.bool false)], args := [d1, d2] }
  | _ => none }
def FnLowerASCIIFoldEqualityWrongFalsely : Prop := fnLowerASCIIFoldEqualityRow.holds Try.pinned (OpenSpec.ofChange fnLowerASCIIFoldEqualityWrong)

/-- 'zzlaws_root_b1.FnLowerASCIIConcat': WHATEVER THE INPUT: true; the input reads as it did. -/
def fnLowerASCIIConcatSpec : ChangeSpec := { name := "fnLowerASCIIConcat", fn := fun _ => fun
  | [d1, d2] => { results := [.lit (.bool true)], args := [d1, d2] }
  | _ => none }
def fnLowerASCIIConcatRow : OpenClaim := { program := "qxb6000491a", sum := "07addd8fdca84b241e6b33a22d5a2d0e85231c250558ef3379827ab4ab12d2fc", func := "example.com/certmail/certmail/zzlaws_root_b1.FnLowerASCIIConcat", spec := "fnLowerASCIIConcat", plainKeys := false, apart := false }
def FnLowerASCIIConcatSaid : Prop := fnLowerASCIIConcatRow.holds Try.pinned (OpenSpec.ofChange fnLowerASCIIConcatSpec)

/-- ITS FALSE NEIGHBOUR: 'it returns false'. Refute it at one input. -/
def fnLowerASCIIConcatWrong : ChangeSpec := { name := "fnLowerASCIIConcat", fn := fun _ => fun
  | [d1, d2] => { results := [.lit (.bool false)], args := [d1, d2] }
  | _ => none }
def FnLowerASCIIConcatWrongFalsely : Prop := fnLowerASCIIConcatRow.holds Try.pinned (OpenSpec.ofChange fnLowerASCIIConcatWrong)

/-- 'zzlaws_root_b1.FnSubtreesFirstMatchesLinearScan': WHATEVER THE INPUT: true; the input reads as it did. -/
def fnSubtreesFirstMatchesLinearScanSpec : ChangeSpec := { name := "fnSubtreesFirstMatchesLinearScan", fn := fun _ => fun
  | [d1, d2, d3, d4, d5] => { results := [.lit (.bool true)], args := [d1, d2, d3, d4, d5] }
  | _ => none }
def fnSubtreesFirstMatchesLinearScanRow : OpenClaim := { program := "qxb6000491a", sum := "07addd8fdca84b241e6b33a22d5a2d0e85231c250558ef3379827ab4ab12d2fc", func := "example.com/certmail/certmail/zzlaws_root_b1.FnSubtreesFirstMatchesLinearScan", spec := "fnSubtreesFirstMatchesLinearScan", inPlace := ["internal/bytealg.CountString", "internal/bytealg.IndexByteString", "internal/bytealg.IndexString"], named := ["internal/bytealg.MaxLen"], plainKeys := false, apart := false }
def FnSubtreesFirstMatchesLinearScanSaid : Prop := fnSubtreesFirstMatchesLinearScanRow.holds Try.pinned (OpenSpec.ofChange fnSubtreesFirstMatchesLinearScanSpec)

/-- ITS FALSE NEIGHBOUR: 'it returns false'. Refute it at one input. -/
def fnSubtreesFirstMatchesLinearScanWrong : ChangeSpec := { name := "fnSubtreesFirstMatchesLinearScan", fn := fun _ => fun
  | [d1, d2, d3, d4, d5] => { results := [.lit (.bool false)], args := [d1, d2, d3, d4, d5] }
  | _ => none }
def FnSubtreesFirstMatchesLinearScanWrongFalsely : Prop := fnSubtreesFirstMatchesLinearScanRow.holds Try.pinned (OpenSpec.ofChange fnSubtreesFirstMatchesLinearScanWrong)

/-- 'zzlaws_root_b1.FnSubtreesFirstStableUnderAdd': WHATEVER THE INPUT: true; the input reads as it did. -/
def fnSubtreesFirstStableUnderAddSpec : ChangeSpec := { name := "fnSubtreesFirstStableUnderAdd", fn := fun _ => fun
  | [d1, d2, d3, d4, d5, d6, d7, d8] => { results := [.lit (.bool true)], args := [d1, d2, d3, d4, d5, d6, d7, d8] }
  | _ => none }
def fnSubtreesFirstStableUnderAddRow : OpenClaim := { program := "qxb6000491a", sum := "07addd8fdca84b241e6b33a22d5a2d0e85231c250558ef3379827ab4ab12d2fc", func := "example.com/certmail/certmail/zzlaws_root_b1.FnSubtreesFirstStableUnderAdd", spec := "fnSubtreesFirstStableUnderAdd", inPlace := ["internal/bytealg.CountString", "internal/bytealg.IndexByteString", "internal/bytealg.IndexString"], named := ["internal/bytealg.MaxLen"], plainKeys := false, apart := false }
def FnSubtreesFirstStableUnderAddSaid : Prop := fnSubtreesFirstStableUnderAddRow.holds Try.pinned (OpenSpec.ofChange fnSubtreesFirstStableUnderAddSpec)

/-- ITS FALSE NEIGHBOUR: 'it returns false'. Refute it at one input. -/
def fnSubtreesFirstStableUnderAddWrong : ChangeSpec := { name := "fnSubtreesFirstStableUnderAdd", fn := fun _ => fun
  | [d1, d2, d3, d4, d5, d6, d7, d8] => { results := [.lit (.bool false)], args := [d1, d2, d3, d4, d5, d6, d7, d8] }
  | _ => none }
def FnSubtreesFirstStableUnderAddWrongFalsely : Prop := fnSubtreesFirstStableUnderAddRow.holds Try.pinned (OpenSpec.ofChange fnSubtreesFirstStableUnderAddWrong)

/-- 'zzlaws_root_b1.FnSubtreesFirstSplitAgreement': WHATEVER THE INPUT: true; the input reads as it did. -/
def fnSubtreesFirstSplitAgreementSpec : ChangeSpec := { name := "fnSubtreesFirstSplitAgreement", fn := fun _ => fun
  | [d1, d2, d3, d4, d5, d6] => { results := [.lit (.bool true)], args := [d1, d2, d3, d4, d5, d6] }
  | _ => none }
def fnSubtreesFirstSplitAgreementRow : OpenClaim := { program := "qxb6000491a", sum := "07addd8fdca84b241e6b33a22d5a2d0e85231c250558ef3379827ab4ab12d2fc", func := "example.com/certmail/certmail/zzlaws_root_b1.FnSubtreesFirstSplitAgreement", spec := "fnSubtreesFirstSplitAgreement", inPlace := ["internal/bytealg.CountString", "internal/bytealg.IndexByteString", "internal/bytealg.IndexString"], named := ["internal/bytealg.MaxLen"], plainKeys := false, apart := false }
def FnSubtreesFirstSplitAgreementSaid : Prop := fnSubtreesFirstSplitAgreementRow.holds Try.pinned (OpenSpec.ofChange fnSubtreesFirstSplitAgreementSpec)

/-- ITS FALSE NEIGHBOUR: 'it returns false'. Refute it at one input. -/
def fnSubtreesFirstSplitAgreementWrong : ChangeSpec := { name := "fnSubtreesFirstSplitAgreement", fn := fun _ => fun
  | [d1, d2, d3, d4, d5, d6] => { results := [.lit (.bool false)], args := [d1, d2, d3, d4, d5, d6] }
  | _ => none }
def FnSubtreesFirstSplitAgreementWrongFalsely : Prop := fnSubtreesFirstSplitAgreementRow.holds Try.pinned (OpenSpec.ofChange fnSubtreesFirstSplitAgreementWrong)

end Rows
end Go.Proofs.Qxb6000491a
