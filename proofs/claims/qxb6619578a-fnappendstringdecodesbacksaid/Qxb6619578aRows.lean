/-
  No cell of these rows narrows 'for every input' (looked for: loops, veiled, ifaces, maps, wideKeys, modest, calm, conditions, laid).
  DERIVED. THE GIVEN ROWS OF THIS SEAT. 5 by the template 'for every input the law returns true; each argument reads behind the call as it read before'; 0 by the template 'total and deterministic' (their statements: Qxb6619578aTotals.lean).
  GIVEN WITH THE SEED: the statements are not yours to turn. If you find one false, say at which input.
  Laid BY PROGRAM, IN A SANDBOX (cutbox-rows.mjs): the forced cells as the released guide's own fill.sh prints them over the translation f179893f8f2c7587… (all of the seat's roots in one cut). By AI agents, Wed Nov 11 2026. No macro, syntax, notation, axiom, sorry.
-/
import Derived.Test.Qxb6619578aChecked
import GoSem.Claim
import GoSem.ClaimJoined
import GoSem.ClaimMapViews
import Derived.JoinedTies
import Derived.KernelRfl
namespace Go.Proofs.Qxb6619578a
/- THE CELL 'sum', in the pinned program and in every row, IS THE sha256 OF THE DUMP (.gsa) THAT Qxb6619578aProg.lean LOADS. Nothing in Lean hashes anything: it is a label: what it is worth is what the hold of that sum in a sandbox is worth. -/
noncomputable def Try.pinned : Pinned := { name := "qxb6619578a", sum := "f179893f8f2c758716e29059128efeb5e909ba4cc4a74d32868205a25c959af1", checked := Try.checked }
namespace Rows
def none {H : Type} : Left H := { results := [], args := [] }

/-- 'zzlaws_internal_strictjson_b1.FnHasOptionJoinAndInsert': WHATEVER THE INPUT: true; the input reads as it did. -/
def fnHasOptionJoinAndInsertSpec : ChangeSpec := { name := "fnHasOptionJoinAndInsert", fn := fun _ => fun
  | [d1, d2, d3] => { results := [.lit (.bool true)], args := [d1, d2, d3] }
  | _ => none }
def fnHasOptionJoinAndInsertRow : OpenClaim := { program := "qxb6619578a", sum := "f179893f8f2c758716e29059128efeb5e909ba4cc4a74d32868205a25c959af1", func := "example.com/suricate/suricate/zzlaws_internal_strictjson_b1.FnHasOptionJoinAndInsert", spec := "fnHasOptionJoinAndInsert", inPlace := ["internal/bytealg.IndexByteString", "internal/bytealg.IndexString"], named := ["internal/bytealg.MaxLen"], apart := false }
def FnHasOptionJoinAndInsertSaid : Prop := fnHasOptionJoinAndInsertRow.holds Try.pinned (OpenSpec.ofChange fnHasOptionJoinAndInsertSpec)

/-- ITS FALSE NEIGHBOUR: 'it returns false'. Refute it at one input. -/
def fnHasOptionJoinAndInsertWrong : ChangeSpec := { name := "fnHasOptionJoinAndInsert", fn := fun _ => fun
  | [d1, d2, d3] => { results := [.lit (.bool false)], args := [d1, d2, d3] }
  | _ => none }
def FnHasOptionJoinAndInsertWrongFalsely : Prop := fnHasOptionJoinAndInsertRow.holds Try.pinned (OpenSpec.ofChange fnHasOptionJoinAndInsertWrong)

/-- 'zzlaws_internal_strictjson_b1.FnHex4Spec': WHATEVER THE INPUT: true; the input reads as it did. -/
def fnHex4SpecSpec : ChangeSpec := { name := "fnHex4Spec", fn := fun _ => fun
  | [d] => { results := [.lit (.bool true)], args := [d] }
  | _ => none }
def fnHex4SpecRow : OpenClaim := { program := "qxb6619578a", sum := "f179893f8f2c758716e29059128efeb5e909ba4cc4a74d32868205a25c959af1", func := "example.com/suricate/suricate/zzlaws_internal_strictjson_b1.FnHex4Spec", spec := "fnHex4Spec", apart := false }
def FnHex4SpecSaid : Prop := fnHex4SpecRow.holds Try.pinned (OpenSpec.ofChange fnHex4SpecSpec)

/-- ITS FALSE NEIGHBOUR: 'it returns false'. Refute it at one input. -/
def fnHex4SpecWrong : ChangeSpec := { name := "fnHex4Spec", fn := fun _ => fun
  | [d] => { results := [.lit (.bool false)], args := [d] }
  | _ => none }
def FnHex4SpecWrongFalsely : Prop := fnHex4SpecRow.holds Try.pinned (OpenSpec.ofChange fnHex4SpecWrong)

/-- 'zzlaws_internal_strictjson_b1.FnAppendStringDecodesBack': WHATEVER THE INPUT: true; the input reads as it did. -/
def fnAppendStringDecodesBackSpec : ChangeSpec := { name := "fnAppendStringDecodesBack", fn := fun _ => fun
  | [d1, d2] => { results := [.lit (.bool true)], args := [d1, d2] }
  | _ => none }
def fnAppendStringDecodesBackRow : OpenClaim := { program := "qxb6619578a", sum := "f179893f8f2c758716e29059128efeb5e909ba4cc4a74d32868205a25c959af1", func := "example.com/suricate/suricate/zzlaws_internal_strictjson_b1.FnAppendStringDecodesBack", spec := "fnAppendStringDecodesBack", apart := false }
def FnAppendStringDecodesBackSaid : Prop := fnAppendStringDecodesBackRow.holds Try.pinned (OpenSpec.ofChange fnAppendStringDecodesBackSpec)

/-- ITS FALSE NEIGHBOUR: 'it returns false'. Refute it at one input. -/
def fnAppendStringDecodesBackWrong : ChangeSpec := { name := "fnAppendStringDecodesBack", fn := fun _ => fun
  | [d1, d2] => { results := [.lit (.bool false)], args := [d1, d2] }
  | _ => none }
def FnAppendStringDecodesBackWrongFalsely : Prop := fnAppendStringDecodesBackRow.holds Try.pinned (OpenSpec.ofChange fnAppendStringDecodesBackWrong)

/-- 'zzlaws_internal_strictjson_b1.FnAppendStringCutAndPrefix': WHATEVER THE INPUT: true; the input reads as it did. -/
def fnAppendStringCutAndPrefixSpec : ChangeSpec := { name := "fnAppendStringCutAndPrefix", fn := fun _ => fun
  | [d1, d2, d3] => { results := [.lit (.bool true)], args := [d1, d2, d3] }
  | _ => none }
def fnAppendStringCutAndPrefixRow : OpenClaim := { program := "qxb6619578a", sum := "f179893f8f2c758716e29059128efeb5e909ba4cc4a74d32868205a25c959af1", func := "example.com/suricate/suricate/zzlaws_internal_strictjson_b1.FnAppendStringCutAndPrefix", spec := "fnAppendStringCutAndPrefix", apart := false }
def FnAppendStringCutAndPrefixSaid : Prop := fnAppendStringCutAndPrefixRow.holds Try.pinned (OpenSpec.ofChange fnAppendStringCutAndPrefixSpec)

/-- ITS FALSE NEIGHBOUR: 'it returns false'. Refute it at one input. -/
def fnAppendStringCutAndPrefixWrong : ChangeSpec := { name := "fnAppendStringCutAndPrefix", fn := fun _ => fun
  | [d1, d2, d3] => { results := [.lit (.bool false)], args := [d1, d2, d3] }
  | _ => none }
def FnAppendStringCutAndPrefixWrongFalsely : Prop := fnAppendStringCutAndPrefixRow.holds Try.pinned (OpenSpec.ofChange fnAppendStringCutAndPrefixWrong)

/-- 'zzlaws_internal_strictjson_b1.FnHex4ReadsAppendStringEscapes': WHATEVER THE INPUT: true; the input reads as it did. -/
def fnHex4ReadsAppendStringEscapesSpec : ChangeSpec := { name := "fnHex4ReadsAppendStringEscapes", fn := fun _ => fun
  | [d] => { results := [.lit (.bool true)], args := [d] }
  | _ => none }
def fnHex4ReadsAppendStringEscapesRow : OpenClaim := { program := "qxb6619578a", sum := "f179893f8f2c758716e29059128efeb5e909ba4cc4a74d32868205a25c959af1", func := "example.com/suricate/suricate/zzlaws_internal_strictjson_b1.FnHex4ReadsAppendStringEscapes", spec := "fnHex4ReadsAppendStringEscapes", apart := false }
def FnHex4ReadsAppendStringEscapesSaid : Prop := fnHex4ReadsAppendStringEscapesRow.holds Try.pinned (OpenSpec.ofChange fnHex4ReadsAppendStringEscapesSpec)

/-- ITS FALSE NEIGHBOUR: 'it returns false'. Refute it at one input. -/
def fnHex4ReadsAppendStringEscapesWrong : ChangeSpec := { name := "fnHex4ReadsAppendStringEscapes", fn := fun _ => fun
  | [d] => { results := [.lit (.bool false)], args := [d] }
  | _ => none }
def FnHex4ReadsAppendStringEscapesWrongFalsely : Prop := fnHex4ReadsAppendStringEscapesRow.holds Try.pinned (OpenSpec.ofChange fnHex4ReadsAppendStringEscapesWrong)

end Rows
end Go.Proofs.Qxb6619578a
