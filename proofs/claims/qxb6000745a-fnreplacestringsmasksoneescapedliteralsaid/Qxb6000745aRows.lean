/-
  No cell of these rows narrows 'for every input' (looked for: loops, veiled, ifaces, maps, wideKeys, modest, calm, conditions, laid).
  DERIVED. THE GIVEN ROWS OF THIS SEAT. 9 by the template 'for every input the law returns true; each argument reads behind the call as it read before'; 0 by the template 'total and deterministic' (their statements: Qxb6000745aTotals.lean).
  GIVEN WITH THE SEED: the statements are not yours to turn. If you find one false, say at which input.
  Laid BY PROGRAM, IN A SANDBOX (cutbox-rows.mjs): the forced cells as the released guide's own fill.sh prints them over the translation ebbcecb482999487… (all of the seat's roots in one cut). By AI agents, Wed Nov 11 2026. No macro, syntax, notation, axiom, sorry.
-/
import Derived.Test.Qxb6000745aChecked
import GoSem.Claim
import GoSem.ClaimJoined
import GoSem.ClaimMapViews
import Derived.JoinedTies
import Derived.KernelRfl
namespace Go.Proofs.Qxb6000745a
/- THE CELL 'sum', in the pinned program and in every row, IS THE sha256 OF THE DUMP (.gsa) THAT Qxb6000745aProg.lean LOADS. Nothing in Lean hashes anything: it is a label: what it is worth is what the hold of that sum in a sandbox is worth. -/
noncomputable def Try.pinned : Pinned := { name := "qxb6000745a", sum := "ebbcecb4829994878fcbd7dd1c6a9a33a0e7a1d457669a825e94d121b48b73b7", checked := Try.checked }
namespace Rows
def none {H : Type} : Left H := { results := [], args := [] }

/-- 'zzlaws_pkg_query_b1.FnCollapseSpaceMatchesWordModel': WHATEVER THE INPUT: true; the input reads as it did. -/
def fnCollapseSpaceMatchesWordModelSpec : ChangeSpec := { name := "fnCollapseSpaceMatchesWordModel", fn := fun _ => fun
  | [d] => { results := [.lit (.bool true)], args := [d] }
  | _ => none }
def fnCollapseSpaceMatchesWordModelRow : OpenClaim := { program := "qxb6000745a", sum := "ebbcecb4829994878fcbd7dd1c6a9a33a0e7a1d457669a825e94d121b48b73b7", func := "example.com/spanrail/spanrail/zzlaws_pkg_query_b1.FnCollapseSpaceMatchesWordModel", spec := "fnCollapseSpaceMatchesWordModel", inPlace := ["internal/bytealg.IndexByteString", "internal/abi.NoEscape"], apart := false }
def FnCollapseSpaceMatchesWordModelSaid : Prop := fnCollapseSpaceMatchesWordModelRow.holds Try.pinned (OpenSpec.ofChange fnCollapseSpaceMatchesWordModelSpec)

/-- ITS FALSE NEIGHBOUR: 'it returns false'. Refute it at one input. -/
def fnCollapseSpaceMatchesWordModelWrong : ChangeSpec := { name := "fnCollapseSpaceMatchesWordModel", fn := fun _ => fun
  | [d] => { results := [.lit (.bool false)], args := [d] }
  | _ => none }
def FnCollapseSpaceMatchesWordModelWrongFalsely : Prop := fnCollapseSpaceMatchesWordModelRow.holds Try.pinned (OpenSpec.ofChange fnCollapseSpaceMatchesWordModelWrong)

/-- 'zzlaws_pkg_query_b1.FnCollapseSpaceIdempotent': WHATEVER THE INPUT: true; the input reads as it did. -/
def fnCollapseSpaceIdempotentSpec : ChangeSpec := { name := "fnCollapseSpaceIdempotent", fn := fun _ => fun
  | [d] => { results := [.lit (.bool true)], args := [d] }
  | _ => none }
def fnCollapseSpaceIdempotentRow : OpenClaim := { program := "qxb6000745a", sum := "ebbcecb4829994878fcbd7dd1c6a9a33a0e7a1d457669a825e94d121b48b73b7", func := "example.com/spanrail/spanrail/zzlaws_pkg_query_b1.FnCollapseSpaceIdempotent", spec := "fnCollapseSpaceIdempotent", inPlace := ["internal/bytealg.IndexByteString", "internal/abi.NoEscape"], apart := false }
def FnCollapseSpaceIdempotentSaid : Prop := fnCollapseSpaceIdempotentRow.holds Try.pinned (OpenSpec.ofChange fnCollapseSpaceIdempotentSpec)

/-- ITS FALSE NEIGHBOUR: 'it returns false'. Refute it at one input. -/
def fnCollapseSpaceIdempotentWrong : ChangeSpec := { name := "fnCollapseSpaceIdempotent", fn := fun _ => fun
  | [d] => { results := [.lit (.bool false)], args := [d] }
  | _ => none }
def FnCollapseSpaceIdempotentWrongFalsely : Prop := fnCollapseSpaceIdempotentRow.holds Try.pinned (OpenSpec.ofChange fnCollapseSpaceIdempotentWrong)

/-- 'zzlaws_pkg_query_b1.FnCollapseSpaceNormalForm': WHATEVER THE INPUT: true; the input reads as it did. -/
def fnCollapseSpaceNormalFormSpec : ChangeSpec := { name := "fnCollapseSpaceNormalForm", fn := fun _ => fun
  | [d] => { results := [.lit (.bool true)], args := [d] }
  | _ => none }
def fnCollapseSpaceNormalFormRow : OpenClaim := { program := "qxb6000745a", sum := "ebbcecb4829994878fcbd7dd1c6a9a33a0e7a1d457669a825e94d121b48b73b7", func := "example.com/spanrail/spanrail/zzlaws_pkg_query_b1.FnCollapseSpaceNormalForm", spec := "fnCollapseSpaceNormalForm", inPlace := ["internal/bytealg.IndexByteString", "internal/abi.NoEscape"], apart := false }
def FnCollapseSpaceNormalFormSaid : Prop := fnCollapseSpaceNormalFormRow.holds Try.pinned (OpenSpec.ofChange fnCollapseSpaceNormalFormSpec)

/-- ITS FALSE NEIGHBOUR: 'it returns false'. Refute it at one input. -/
def fnCollapseSpaceNormalFormWrong : ChangeSpec := { name := "fnCollapseSpaceNormalForm", fn := fun _ => fun
  | [d] => { results := [.lit (.bool false)], args := [d] }
  | _ => none }
def FnCollapseSpaceNormalFormWrongFalsely : Prop := fnCollapseSpaceNormalFormRow.holds Try.pinned (OpenSpec.ofChange fnCollapseSpaceNormalFormWrong)

/-- 'zzlaws_pkg_query_b1.FnReplaceStringsMasksOneEscapedLiteral': WHATEVER THE INPUT: true; the input reads as it did. -/
def fnReplaceStringsMasksOneEscapedLiteralSpec : ChangeSpec := { name := "fnReplaceStringsMasksOneEscapedLiteral", fn := fun _ => fun
  | [d1, d2, d3] => { results := [.lit (.bool true)], args := [d1, d2, d3] }
  | _ => none }
def fnReplaceStringsMasksOneEscapedLiteralRow : OpenClaim := { program := "qxb6000745a", sum := "ebbcecb4829994878fcbd7dd1c6a9a33a0e7a1d457669a825e94d121b48b73b7", func := "example.com/spanrail/spanrail/zzlaws_pkg_query_b1.FnReplaceStringsMasksOneEscapedLiteral", spec := "fnReplaceStringsMasksOneEscapedLiteral", inPlace := ["internal/bytealg.IndexByteString", "internal/abi.NoEscape"], apart := false }
def FnReplaceStringsMasksOneEscapedLiteralSaid : Prop := fnReplaceStringsMasksOneEscapedLiteralRow.holds Try.pinned (OpenSpec.ofChange fnReplaceStringsMasksOneEscapedLiteralSpec)

/-- ITS FALSE NEIGHBOUR: 'it returns false'. Refute it at one input. -/
def fnReplaceStringsMasksOneEscapedLiteralWrong : ChangeSpec := { name := "fnReplaceStringsMasksOneEscapedLiteral", fn := fun _ => fun
  | [d1, d2, d3] => { results := [.lit (.bool false)], args := [d1, d2, d3] }
  | _ => none }
def FnReplaceStringsMasksOneEscapedLiteralWrongFalsely : Prop := fnReplaceStringsMasksOneEscapedLiteralRow.holds Try.pinned (OpenSpec.ofChange fnReplaceStringsMasksOneEscapedLiteralWrong)

/-- 'zzlaws_pkg_query_b1.FnReplaceStringsLeavesAtMostOneQuote': WHATEVER THE INPUT: true; the input reads as it did. -/
def fnReplaceStringsLeavesAtMostOneQuoteSpec : ChangeSpec := { name := "fnReplaceStringsLeavesAtMostOneQuote", fn := fun _ => fun
  | [d] => { results := [.lit (.bool true)], args := [d] }
  | _ => none }
def fnReplaceStringsLeavesAtMostOneQuoteRow : OpenClaim := { program := "qxb6000745a", sum := "ebbcecb4829994878fcbd7dd1c6a9a33a0e7a1d457669a825e94d121b48b73b7", func := "example.com/spanrail/spanrail/zzlaws_pkg_query_b1.FnReplaceStringsLeavesAtMostOneQuote", spec := "fnReplaceStringsLeavesAtMostOneQuote", inPlace := ["internal/bytealg.IndexByteString", "internal/abi.NoEscape"], apart := false }
def FnReplaceStringsLeavesAtMostOneQuoteSaid : Prop := fnReplaceStringsLeavesAtMostOneQuoteRow.holds Try.pinned (OpenSpec.ofChange fnReplaceStringsLeavesAtMostOneQuoteSpec)

/-- ITS FALSE NEIGHBOUR: 'it returns false'. Refute it at one input. -/
def fnReplaceStringsLeavesAtMostOneQuoteWrong : ChangeSpec := { name := "fnReplaceStringsLeavesAtMostOneQuote", fn := fun _ => fun
  | [d] => { results := [.lit (.bool false)], args := [d] }
  | _ => none }
def FnReplaceStringsLeavesAtMostOneQuoteWrongFalsely : Prop := fnReplaceStringsLeavesAtMostOneQuoteRow.holds Try.pinned (OpenSpec.ofChange fnReplaceStringsLeavesAtMostOneQuoteWrong)

/-- 'zzlaws_pkg_query_b1.FnReplaceStringsIdempotent': WHATEVER THE INPUT: true; the input reads as it did. -/
def fnReplaceStringsIdempotentSpec : ChangeSpec := { name := "fnReplaceStringsIdempotent", fn := fun _ => fun
  | [d] => { results := [.lit (.bool true)], args := [d] }
  | _ => none }
def fnReplaceStringsIdempotentRow : OpenClaim := { program := "qxb6000745a", sum := "ebbcecb4829994878fcbd7dd1c6a9a33a0e7a1d457669a825e94d121b48b73b7", func := "example.com/spanrail/spanrail/zzlaws_pkg_query_b1.FnReplaceStringsIdempotent", spec := "fnReplaceStringsIdempotent", inPlace := ["internal/bytealg.IndexByteString", "internal/abi.NoEscape"], apart := false }
def FnReplaceStringsIdempotentSaid : Prop := fnReplaceStringsIdempotentRow.holds Try.pinned (OpenSpec.ofChange fnReplaceStringsIdempotentSpec)

/-- ITS FALSE NEIGHBOUR: 'it returns false'. Refute it at one input. -/
def fnReplaceStringsIdempotentWrong : ChangeSpec := { name := "fnReplaceStringsIdempotent", fn := fun _ => fun
  | [d] => { results := [.lit (.bool false)], args := [d] }
  | _ => none }
def FnReplaceStringsIdempotentWrongFalsely : Prop := fnReplaceStringsIdempotentRow.holds Try.pinned (OpenSpec.ofChange fnReplaceStringsIdempotentWrong)

/-- 'zzlaws_pkg_query_b1.FnPlaceholderListLenMeasuresBuiltList': WHATEVER THE INPUT: true; the input reads as it did. -/
def fnPlaceholderListLenMeasuresBuiltListSpec : ChangeSpec := { name := "fnPlaceholderListLenMeasuresBuiltList", fn := fun _ => fun
  | [d1, d2, d3] => { results := [.lit (.bool true)], args := [d1, d2, d3] }
  | _ => none }
def fnPlaceholderListLenMeasuresBuiltListRow : OpenClaim := { program := "qxb6000745a", sum := "ebbcecb4829994878fcbd7dd1c6a9a33a0e7a1d457669a825e94d121b48b73b7", func := "example.com/spanrail/spanrail/zzlaws_pkg_query_b1.FnPlaceholderListLenMeasuresBuiltList", spec := "fnPlaceholderListLenMeasuresBuiltList", apart := false }
def FnPlaceholderListLenMeasuresBuiltListSaid : Prop := fnPlaceholderListLenMeasuresBuiltListRow.holds Try.pinned (OpenSpec.ofChange fnPlaceholderListLenMeasuresBuiltListSpec)

/-- ITS FALSE NEIGHBOUR: 'it returns false'. Refute it at one input. -/
def fnPlaceholderListLenMeasuresBuiltListWrong : ChangeSpec := { name := "fnPlaceholderListLenMeasuresBuiltList", fn := fun _ => fun
  | [d1, d2, d3] => { results := [.lit (.bool false)], args := [d1, d2, d3] }
  | _ => none }
def FnPlaceholderListLenMeasuresBuiltListWrongFalsely : Prop := fnPlaceholderListLenMeasuresBuiltListRow.holds Try.pinned (OpenSpec.ofChange fnPlaceholderListLenMeasuresBuiltListWrong)

/-- 'zzlaws_pkg_query_b1.FnPlaceholderListLenPrefixClosed': WHATEVER THE INPUT: true; the input reads as it did. -/
def fnPlaceholderListLenPrefixClosedSpec : ChangeSpec := { name := "fnPlaceholderListLenPrefixClosed", fn := fun _ => fun
  | [d] => { results := [.lit (.bool true)], args := [d] }
  | _ => none }
def fnPlaceholderListLenPrefixClosedRow : OpenClaim := { program := "qxb6000745a", sum := "ebbcecb4829994878fcbd7dd1c6a9a33a0e7a1d457669a825e94d121b48b73b7", func := "example.com/spanrail/spanrail/zzlaws_pkg_query_b1.FnPlaceholderListLenPrefixClosed", spec := "fnPlaceholderListLenPrefixClosed", apart := false }
def FnPlaceholderListLenPrefixClosedSaid : Prop := fnPlaceholderListLenPrefixClosedRow.holds Try.pinned (OpenSpec.ofChange fnPlaceholderListLenPrefixClosedSpec)

/-- ITS FALSE NEIGHBOUR: 'it returns false'. Refute it at one input. -/
def fnPlaceholderListLenPrefixClosedWrong : ChangeSpec := { name := "fnPlaceholderListLenPrefixClosed", fn := fun _ => fun
  | [d] => { results := [.lit (.bool false)], args := [d] }
  | _ => none }
def FnPlaceholderListLenPrefixClosedWrongFalsely : Prop := fnPlaceholderListLenPrefixClosedRow.holds Try.pinned (OpenSpec.ofChange fnPlaceholderListLenPrefixClosedWrong)

/-- 'zzlaws_pkg_query_b1.FnPlaceholderListLenLeadingSpace': WHATEVER THE INPUT: true; the input reads as it did. -/
def fnPlaceholderListLenLeadingSpaceSpec : ChangeSpec := { name := "fnPlaceholderListLenLeadingSpace", fn := fun _ => fun
  | [d] => { results := [.lit (.bool true)], args := [d] }
  | _ => none }
def fnPlaceholderListLenLeadingSpaceRow : OpenClaim := { program := "qxb6000745a", sum := "ebbcecb4829994878fcbd7dd1c6a9a33a0e7a1d457669a825e94d121b48b73b7", func := "example.com/spanrail/spanrail/zzlaws_pkg_query_b1.FnPlaceholderListLenLeadingSpace", spec := "fnPlaceholderListLenLeadingSpace", apart := false }
def FnPlaceholderListLenLeadingSpaceSaid : Prop := fnPlaceholderListLenLeadingSpaceRow.holds Try.pinned (OpenSpec.ofChange fnPlaceholderListLenLeadingSpaceSpec)

/-- ITS FALSE NEIGHBOUR: 'it returns false'. Refute it at one input. -/
def fnPlaceholderListLenLeadingSpaceWrong : ChangeSpec := { name := "fnPlaceholderListLenLeadingSpace", fn := fun _ => fun
  | [d] => { results := [.lit (.bool false)], args := [d] }
  | _ => none }
def FnPlaceholderListLenLeadingSpaceWrongFalsely : Prop := fnPlaceholderListLenLeadingSpaceRow.holds Try.pinned (OpenSpec.ofChange fnPlaceholderListLenLeadingSpaceWrong)

end Rows
end Go.Proofs.Qxb6000745a
