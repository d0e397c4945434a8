/-
  No cell of these rows narrows 'for every input' (looked for: loops, veiled, ifaces, maps, wideKeys, modest, calm, conditions, laid).
  DERIVED. THE GIVEN ROWS OF THIS SEAT. 5 by the template 'for every input the law returns true; each argument reads behind the call as it read before'; 0 by the template 'total and deterministic' (their statements: Qxb6601857aTotals.lean).
  GIVEN WITH THE SEED: the statements are not yours to turn. If you find one false, say at which input.
  Laid BY PROGRAM, IN A SANDBOX (cutbox-rows.mjs): the forced cells as the released guide's own fill.sh prints them over the translation 3be6c23ec1c1ede2… (all of the seat's roots in one cut). By AI agents, Wed Nov 11 2026. No macro, syntax, notation, axiom, sorry.
-/
import Derived.Test.Qxb6601857aChecked
import GoSem.Claim
import GoSem.ClaimJoined
import GoSem.ClaimMapViews
import Derived.JoinedTies
import Derived.KernelRfl
namespace Go.Proofs.Qxb6601857a
/- THE CELL 'sum', in the pinned program and in every row, IS THE sha256 OF THE DUMP (.gsa) THAT Qxb6601857aProg.lean LOADS. Nothing in Lean hashes anything: it is a label: what it is worth is what the hold of that sum in a sandbox is worth. -/
noncomputable def Try.pinned : Pinned := { name := "qxb6601857a", sum := "3be6c23ec1c1ede214b0bc9382893311b55d4e69357cdc5ca44421aea65d5c2b", checked := Try.checked }
namespace Rows
def none {H : Type} : Left H := { results := [], args := [] }

/-- 'zzlaws_query_b1.FnAppendCanonicalStringDecodesBack': WHATEVER THE INPUT: true; the input reads as it did. -/
def fnAppendCanonicalStringDecodesBackSpec : ChangeSpec := { name := "fnAppendCanonicalStringDecodesBack", fn := fun _ => fun
  | [d1, d2] => { results := [.lit (.bool true)], args := [d1, d2] }
  | _ => none }
def fnAppendCanonicalStringDecodesBackRow : OpenClaim := { program := "qxb6601857a", sum := "3be6c23ec1c1ede214b0bc9382893311b55d4e69357cdc5ca44421aea65d5c2b", func := "example.com/sievework/sievework/zzlaws_query_b1.FnAppendCanonicalStringDecodesBack", spec := "fnAppendCanonicalStringDecodesBack", apart := false }
def FnAppendCanonicalStringDecodesBackSaid : Prop := fnAppendCanonicalStringDecodesBackRow.holds Try.pinned (OpenSpec.ofChange fnAppendCanonicalStringDecodesBackSpec)

/-- ITS FALSE NEIGHBOUR: 'it returns false'. Refute it at one input. -/
def fnAppendCanonicalStringDecodesBackWrong : ChangeSpec := { name := "fnAppendCanonicalStringDecodesBack", fn := fun _ => fun
  | [d1, d2] => { results := [.lit (.bool false)], args := [d1, d2] }
  | _ => none }
def FnAppendCanonicalStringDecodesBackWrongFalsely : Prop := fnAppendCanonicalStringDecodesBackRow.holds Try.pinned (OpenSpec.ofChange fnAppendCanonicalStringDecodesBackWrong)

/-- 'zzlaws_query_b1.FnAppendCanonicalStringSplitsAtAnyByte': WHATEVER THE INPUT: true; the input reads as it did. -/
def fnAppendCanonicalStringSplitsAtAnyByteSpec : ChangeSpec := { name := "fnAppendCanonicalStringSplitsAtAnyByte", fn := fun _ => fun
  | [d1, d2] => { results := [.lit (.bool true)], args := [d1, d2] }
  | _ => none }
def fnAppendCanonicalStringSplitsAtAnyByteRow : OpenClaim := { program := "qxb6601857a", sum := "3be6c23ec1c1ede214b0bc9382893311b55d4e69357cdc5ca44421aea65d5c2b", func := "example.com/sievework/sievework/zzlaws_query_b1.FnAppendCanonicalStringSplitsAtAnyByte", spec := "fnAppendCanonicalStringSplitsAtAnyByte", apart := false }
def FnAppendCanonicalStringSplitsAtAnyByteSaid : Prop := fnAppendCanonicalStringSplitsAtAnyByteRow.holds Try.pinned (OpenSpec.ofChange fnAppendCanonicalStringSplitsAtAnyByteSpec)

/-- ITS FALSE NEIGHBOUR: 'it returns false'. Refute it at one input. -/
def fnAppendCanonicalStringSplitsAtAnyByteWrong : ChangeSpec := { name := "fnAppendCanonicalStringSplitsAtAnyByte", fn := fun _ => fun
  | [d1, d2] => { results := [.lit (.bool false)], args := [d1, d2] }
  | _ => none }
def FnAppendCanonicalStringSplitsAtAnyByteWrongFalsely : Prop := fnAppendCanonicalStringSplitsAtAnyByteRow.holds Try.pinned (OpenSpec.ofChange fnAppendCanonicalStringSplitsAtAnyByteWrong)

/-- 'zzlaws_query_b1.FnAppendCanonicalStringGrowthBounds': WHATEVER THE INPUT: true; the input reads as it did. -/
def fnAppendCanonicalStringGrowthBoundsSpec : ChangeSpec := { name := "fnAppendCanonicalStringGrowthBounds", fn := fun _ => fun
  | [d1, d2] => { results := [.lit (.bool true)], args := [d1, d2] }
  | _ => none }
def fnAppendCanonicalStringGrowthBoundsRow : OpenClaim := { program := "qxb6601857a", sum := "3be6c23ec1c1ede214b0bc9382893311b55d4e69357cdc5ca44421aea65d5c2b", func := "example.com/sievework/sievework/zzlaws_query_b1.FnAppendCanonicalStringGrowthBounds", spec := "fnAppendCanonicalStringGrowthBounds", apart := false }
def FnAppendCanonicalStringGrowthBoundsSaid : Prop := fnAppendCanonicalStringGrowthBoundsRow.holds Try.pinned (OpenSpec.ofChange fnAppendCanonicalStringGrowthBoundsSpec)

/-- ITS FALSE NEIGHBOUR: 'it returns false'. Refute it at one input. -/
def fnAppendCanonicalStringGrowthBoundsWrong : ChangeSpec := { name := "fnAppendCanonicalStringGrowthBounds", fn := fun _ => fun
  | [d1, d2] => { results := [.lit (.bool false)], args := [d1, d2] }
  | _ => none }
def FnAppendCanonicalStringGrowthBoundsWrongFalsely : Prop := fnAppendCanonicalStringGrowthBoundsRow.holds Try.pinned (OpenSpec.ofChange fnAppendCanonicalStringGrowthBoundsWrong)

/-- 'zzlaws_query_b1.FnValueEndFindsTheValuesEnd': WHATEVER THE INPUT: true; the input reads as it did. -/
def fnValueEndFindsTheValuesEndSpec : ChangeSpec := { name := "fnValueEndFindsTheValuesEnd", fn := fun _ => fun
  | [d1, d2, d3, d4] => { results := [.lit (.bool true)], args := [d1, d2, d3, d4] }
  | _ => none }
def fnValueEndFindsTheValuesEndRow : OpenClaim := { program := "qxb6601857a", sum := "3be6c23ec1c1ede214b0bc9382893311b55d4e69357cdc5ca44421aea65d5c2b", func := "example.com/sievework/sievework/zzlaws_query_b1.FnValueEndFindsTheValuesEnd", spec := "fnValueEndFindsTheValuesEnd", inPlace := ["internal/bytealg.IndexByteString"], recurses := true, apart := false }
def FnValueEndFindsTheValuesEndSaid : Prop := fnValueEndFindsTheValuesEndRow.holds Try.pinned (OpenSpec.ofChange fnValueEndFindsTheValuesEndSpec)

/-- ITS FALSE NEIGHBOUR: 'it returns false'. Refute it at one input. -/
def fnValueEndFindsTheValuesEndWrong : ChangeSpec := { name := "fnValueEndFindsTheValuesEnd", fn := fun _ => fun
  | [d1, d2, d3, d4] => { results := [.lit (.bool false)], args := [d1, d2, d3, d4] }
  | _ => none }
def FnValueEndFindsTheValuesEndWrongFalsely : Prop := fnValueEndFindsTheValuesEndRow.holds Try.pinned (OpenSpec.ofChange fnValueEndFindsTheValuesEndWrong)

/-- 'zzlaws_query_b1.FnValueEndStepsOverEveryMember': WHATEVER THE INPUT: true; the input reads as it did. -/
def fnValueEndStepsOverEveryMemberSpec : ChangeSpec := { name := "fnValueEndStepsOverEveryMember", fn := fun _ => fun
  | [d1, d2] => { results := [.lit (.bool true)], args := [d1, d2] }
  | _ => none }
def fnValueEndStepsOverEveryMemberRow : OpenClaim := { program := "qxb6601857a", sum := "3be6c23ec1c1ede214b0bc9382893311b55d4e69357cdc5ca44421aea65d5c2b", func := "example.com/sievework/sievework/zzlaws_query_b1.FnValueEndStepsOverEveryMember", spec := "fnValueEndStepsOverEveryMember", inPlace := ["internal/bytealg.IndexByteString"], recurses := true, apart := false }
def FnValueEndStepsOverEveryMemberSaid : Prop := fnValueEndStepsOverEveryMemberRow.holds Try.pinned (OpenSpec.ofChange fnValueEndStepsOverEveryMemberSpec)

/-- ITS FALSE NEIGHBOUR: 'it returns false'. Refute it at one input. -/
def fnValueEndStepsOverEveryMemberWrong : ChangeSpec := { name := "fnValueEndStepsOverEveryMember", fn := fun _ => fun
  | [d1, d2] => { results := [.lit (.bool false)], args := [d1, d2] }
  | _ => none }
def FnValueEndStepsOverEveryMemberWrongFalsely : Prop := fnValueEndStepsOverEveryMemberRow.holds Try.pinned (OpenSpec.ofChange fnValueEndStepsOverEveryMemberWrong)

end Rows
end Go.Proofs.Qxb6601857a
