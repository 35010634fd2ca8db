/-
  No cell of these rows narrows 'for every input' (looked for: loops, veiled, ifaces, maps, wideKeys, modest, calm, conditions, laid).
  DERIVED. THE GIVEN ROWS OF THIS SEAT. 3 by the template 'for every input the law returns true; each argument reads behind the call as it read before'; 0 by the template 'total and deterministic' (their statements: Qxb6000075aTotals.lean).
  GIVEN WITH THE SEED: the statements are not yours to turn. If you find one false, say at which input.
  Laid BY PROGRAM, IN A SANDBOX (cutbox-rows.mjs): the forced cells as the released guide's own fill.sh prints them over the translation f7d9a44c9bdcc00f… (all of the seat's roots in one cut). By AI agents, Wed Nov 11 2026. No macro, syntax, notation, axiom, sorry.
-/
import Derived.Test.Qxb6000075aChecked
import GoSem.Claim
import GoSem.ClaimJoined
import GoSem.ClaimMapViews
import Derived.JoinedTies
import Derived.KernelRfl
namespace Go.Proofs.Qxb6000075a
/- THE CELL 'sum', in the pinned program and in every row, IS THE sha256 OF THE DUMP (.gsa) THAT Qxb6000075aProg.lean LOADS. Nothing in Lean hashes anything: it is a label: what it is worth is what the hold of that sum in a sandbox is worth. -/
noncomputable def Try.pinned : Pinned := { name := "qxb6000075a", sum := "f7d9a44c9bdcc00f824fd7abb4da057898e1918d17c052f2e659019782af905f", checked := Try.checked }
namespace Rows
def none {H : Type} : Left H := { results := [], args := [] }

/-- 'zzlaws_root_b1.FnUnquoteWordsModel': WHATEVER THE INPUT: true; the input reads as it did. -/
def fnUnquoteWordsModelSpec : ChangeSpec := { name := "fnUnquoteWordsModel", fn := fun _ => fun
  | [d] => { results := [.lit (.bool true)], args := [d] }
  | _ => none }
def fnUnquoteWordsModelRow : OpenClaim := { program := "qxb6000075a", sum := "f7d9a44c9bdcc00f824fd7abb4da057898e1918d17c052f2e659019782af905f", func := "example.com/addrwright/addrwright/zzlaws_root_b1.FnUnquoteWordsModel", spec := "fnUnquoteWordsModel", inPlace := ["internal/bytealg.IndexByteString", "internal/abi.NoEscape", "internal/bytealg.MakeNoZero"], apart := false }
def FnUnquoteWordsModelSaid : Prop := fnUnquoteWordsModelRow.holds Try.pinned (OpenSpec.ofChange fnUnquoteWordsModelSpec)

/-- ITS FALSE NEIGHBOUR: 'it returns false'. Refute it at one input. -/
def fnUnquoteWordsModelWrong : ChangeSpec := { name := "fnUnquoteWordsModel", fn := fun _ => fun
  | [d] => { results := [.lit (.bool false)], args := [d] }
  | _ => none }
def FnUnquoteWordsModelWrongFalsely : Prop := fnUnquoteWordsModelRow.holds Try.pinned (OpenSpec.ofChange fnUnquoteWordsModelWrong)

/-- 'zzlaws_root_b1.FnUnquoteWordsQuotedRoundTrip': WHATEVER THE INPUT: true; the input reads as it did. -/
def fnUnquoteWordsQuotedRoundTripSpec : ChangeSpec := { name := "fnUnquoteWordsQuotedRoundTrip", fn := fun _ => fun
  | [d1, d2, d3] => { results := [.lit (.bool true)], args := [d1, d2, d3] }
  | _ => none }
def fnUnquoteWordsQuotedRoundTripRow : OpenClaim := { program := "qxb6000075a", sum := "f7d9a44c9bdcc00f824fd7abb4da057898e1918d17c052f2e659019782af905f", func := "example.com/addrwright/addrwright/zzlaws_root_b1.FnUnquoteWordsQuotedRoundTrip", spec := "fnUnquoteWordsQuotedRoundTrip", inPlace := ["internal/bytealg.IndexByteString", "internal/abi.NoEscape", "internal/bytealg.MakeNoZero"], apart := false }
def FnUnquoteWordsQuotedRoundTripSaid : Prop := fnUnquoteWordsQuotedRoundTripRow.holds Try.pinned (OpenSpec.ofChange fnUnquoteWordsQuotedRoundTripSpec)

/-- ITS FALSE NEIGHBOUR: 'it returns false'. Refute it at one input. -/
def fnUnquoteWordsQuotedRoundTripWrong : ChangeSpec := { name := "fnUnquoteWordsQuotedRoundTrip", fn := fun _ => fun
  | [d1, d2, d3] => { results := [.lit (.bool false)], args := [d1, d2, d3] }
  | _ => none }
def FnUnquoteWordsQuotedRoundTripWrongFalsely : Prop := fnUnquoteWordsQuotedRoundTripRow.holds Try.pinned (OpenSpec.ofChange fnUnquoteWordsQuotedRoundTripWrong)

/-- 'zzlaws_root_b1.FnReadLocalPartConsumes': WHATEVER THE INPUT: true; the input reads as it did. -/
def fnReadLocalPartConsumesSpec : ChangeSpec := { name := "fnReadLocalPartConsumes", fn := fun _ => fun
  | [d1, d2] => { results := [.lit (.bool true)], args := [d1, d2] }
  | _ => none }
def fnReadLocalPartConsumesRow : OpenClaim := { program := "qxb6000075a", sum := "f7d9a44c9bdcc00f824fd7abb4da057898e1918d17c052f2e659019782af905f", func := "example.com/addrwright/addrwright/zzlaws_root_b1.FnReadLocalPartConsumes", spec := "fnReadLocalPartConsumes", inPlace := ["internal/bytealg.IndexByteString", "internal/bytealg.IndexString"], named := ["internal/bytealg.MaxLen"], apart := false }
def FnReadLocalPartConsumesSaid : Prop := fnReadLocalPartConsumesRow.holds Try.pinned (OpenSpec.ofChange fnReadLocalPartConsumesSpec)

/-- ITS FALSE NEIGHBOUR: 'it returns false'. Refute it at one input. -/
def fnReadLocalPartConsumesWrong : ChangeSpec := { name := "fnReadLocalPartConsumes", fn := fun _ => fun
  | [d1, d2] => { results := [.lit (.bool false)], args := [d1, d2] }
  | _ => none }
def FnReadLocalPartConsumesWrongFalsely : Prop := fnReadLocalPartConsumesRow.holds Try.pinned (OpenSpec.ofChange fnReadLocalPartConsumesWrong)

end Rows
end Go.Proofs.Qxb6000075a
