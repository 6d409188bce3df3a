/-
  No cell of these rows narrows 'for every input' (looked for: loops, veiled, ifaces, maps, wideKeys, modest, calm, conditions, laid).
  DERIVED. THE GIVEN ROWS OF THIS SEAT. 2 by the template 'for every input the law returns true; each argument reads behind the call as it read before'; 0 by the template 'total and deterministic' (their statements: Qxb6619417aTotals.lean).
  GIVEN WITH THE SEED: the statements are not yours to turn. If you find one false, say at which input.
  Laid BY PROGRAM, IN A SANDBOX (cutbox-rows.mjs): the forced cells as the released guide's own fill.sh prints them over the translation 9866fd9798f60dc3… (all of the seat's roots in one cut). By AI agents, Wed Nov 11 2026. No macro, syntax, notation, axiom, sorry.
-/
import Derived.Test.Qxb6619417aChecked
import GoSem.Claim
import GoSem.ClaimJoined
import GoSem.ClaimMapViews
import Derived.JoinedTies
import Derived.KernelRfl
namespace Go.Proofs.Qxb6619417a
/- THE CELL 'sum', in the pinned program and in every row, IS THE sha256 OF THE DUMP (.gsa) THAT Qxb6619417aProg.lean LOADS. Nothing in Lean hashes anything: it is a label: what it is worth is what the hold of that sum in a sandbox is worth. -/
noncomputable def Try.pinned : Pinned := { name := "qxb6619417a", sum := "9866fd9798f60dc32df90e2ffa30cf3ea6905ecc2bfe21b6ceb996fde5ec11c2", checked := Try.checked }
namespace Rows
def none {H : Type} : Left H := { results := [], args := [] }

/-- 'zzlaws_root_b1.FnTokenLenIsTheTokenAtTheStart': WHATEVER THE INPUT: true; the input reads as it did. -/
def fnTokenLenIsTheTokenAtTheStartSpec : ChangeSpec := { name := "fnTokenLenIsTheTokenAtTheStart", fn := fun _ => fun
  | [d] => { results := [.lit (.bool true)], args := [d] }
  | _ => none }
def fnTokenLenIsTheTokenAtTheStartRow : OpenClaim := { program := "qxb6619417a", sum := "9866fd9798f60dc32df90e2ffa30cf3ea6905ecc2bfe21b6ceb996fde5ec11c2", func := "example.com/tallowframe/tallowframe/zzlaws_root_b1.FnTokenLenIsTheTokenAtTheStart", spec := "fnTokenLenIsTheTokenAtTheStart", apart := false }
def FnTokenLenIsTheTokenAtTheStartSaid : Prop := fnTokenLenIsTheTokenAtTheStartRow.holds Try.pinned (OpenSpec.ofChange fnTokenLenIsTheTokenAtTheStartSpec)

/-- ITS FALSE NEIGHBOUR: 'it returns false'. Refute it at one input. -/
def fnTokenLenIsTheTokenAtTheStartWrong : ChangeSpec := { name := "fnTokenLenIsTheTokenAtTheStart", fn := fun _ => fun
  | [d] => { results := [.lit (.bool false)], args := [d] }
  | _ => none }
def FnTokenLenIsTheTokenAtTheStartWrongFalsely : Prop := fnTokenLenIsTheTokenAtTheStartRow.holds Try.pinned (OpenSpec.ofChange fnTokenLenIsTheTokenAtTheStartWrong)

/-- 'zzlaws_root_b1.FnTokenLenReadsAQuotedTextWhole': WHATEVER THE INPUT: true; the input reads as it did. -/
def fnTokenLenReadsAQuotedTextWholeSpec : ChangeSpec := { name := "fnTokenLenReadsAQuotedTextWhole", fn := fun _ => fun
  | [d1, d2, d3] => { results := [.lit (.bool true)], args := [d1, d2, d3] }
  | _ => none }
def fnTokenLenReadsAQuotedTextWholeRow : OpenClaim := { program := "qxb6619417a", sum := "9866fd9798f60dc32df90e2ffa30cf3ea6905ecc2bfe21b6ceb996fde5ec11c2", func := "example.com/tallowframe/tallowframe/zzlaws_root_b1.FnTokenLenReadsAQuotedTextWhole", spec := "fnTokenLenReadsAQuotedTextWhole", apart := false }
def FnTokenLenReadsAQuotedTextWholeSaid : Prop := fnTokenLenReadsAQuotedTextWholeRow.holds Try.pinned (OpenSpec.ofChange fnTokenLenReadsAQuotedTextWholeSpec)

/-- ITS FALSE NEIGHBOUR: 'it returns false'. Refute it at one input. -/
def fnTokenLenReadsAQuotedTextWholeWrong : ChangeSpec := { name := "fnTokenLenReadsAQuotedTextWhole", fn := fun _ => fun
  | [d1, d2, d3] => { results := [.lit (.bool false)], args := [d1, d2, d3] }
  | _ => none }
def FnTokenLenReadsAQuotedTextWholeWrongFalsely : Prop := fnTokenLenReadsAQuotedTextWholeRow.holds Try.pinned (OpenSpec.ofChange fnTokenLenReadsAQuotedTextWholeWrong)

end Rows
end Go.Proofs.Qxb6619417a
