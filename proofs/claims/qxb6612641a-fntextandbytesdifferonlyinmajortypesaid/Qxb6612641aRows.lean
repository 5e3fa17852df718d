/-
  No cell of these rows narrows 'for every input' (looked for: loops, veiled, ifaces, maps, wideKeys, modest, calm, conditions, laid).
  DERIVED. THE GIVEN ROWS OF THIS SEAT. 3 by the template 'for every input the law returns true; each argument reads behind the call as it read before'; 0 by the template 'total and deterministic' (their statements: Qxb6612641aTotals.lean).
  GIVEN WITH THE SEED: the statements are not yours to turn. If you find one false, say at which input.
  Laid BY PROGRAM, IN A SANDBOX (cutbox-rows.mjs): the forced cells as the released guide's own fill.sh prints them over the translation 355ad27f12e123b0… (all of the seat's roots in one cut). By AI agents, Wed Nov 11 2026. No macro, syntax, notation, axiom, sorry.
-/
import Derived.Test.Qxb6612641aChecked
import GoSem.Claim
import GoSem.ClaimJoined
import GoSem.ClaimMapViews
import Derived.JoinedTies
import Derived.KernelRfl
namespace Go.Proofs.Qxb6612641a
/- THE CELL 'sum', in the pinned program and in every row, IS THE sha256 OF THE DUMP (.gsa) THAT Qxb6612641aProg.lean LOADS. Nothing in Lean hashes anything: it is a label: what it is worth is what the hold of that sum in a sandbox is worth. -/
noncomputable def Try.pinned : Pinned := { name := "qxb6612641a", sum := "355ad27f12e123b030b1b713d724e5ad946b5d5cfe60e3638fcf957fcb961e82", checked := Try.checked }
namespace Rows
def none {H : Type} : Left H := { results := [], args := [] }

/-- 'zzlaws_internal_cbor_b1.FnAppendBytesTwiceReadsBack': WHATEVER THE INPUT: true; the input reads as it did. -/
def fnAppendBytesTwiceReadsBackSpec : ChangeSpec := { name := "fnAppendBytesTwiceReadsBack", fn := fun _ => fun
  | [d1, d2, d3] => { results := [.lit (.bool true)], args := [d1, d2, d3] }
  | _ => none }
def fnAppendBytesTwiceReadsBackRow : OpenClaim := { program := "qxb6612641a", sum := "355ad27f12e123b030b1b713d724e5ad946b5d5cfe60e3638fcf957fcb961e82", func := "example.com/trellis/trellis/zzlaws_internal_cbor_b1.FnAppendBytesTwiceReadsBack", spec := "fnAppendBytesTwiceReadsBack", named := ["encoding/binary.BigEndian"], apart := false }
def FnAppendBytesTwiceReadsBackSaid : Prop := fnAppendBytesTwiceReadsBackRow.holds Try.pinned (OpenSpec.ofChange fnAppendBytesTwiceReadsBackSpec)

/-- ITS FALSE NEIGHBOUR: 'it returns false'. Refute it at one input. -/
def fnAppendBytesTwiceReadsBackWrong : ChangeSpec := { name := "fnAppendBytesTwiceReadsBack", fn := fun _ => fun
  | [d1, d2, d3] => { results := [.lit (.bool false)], args := [d1, d2, d3] }
  | _ => none }
def FnAppendBytesTwiceReadsBackWrongFalsely : Prop := fnAppendBytesTwiceReadsBackRow.holds Try.pinned (OpenSpec.ofChange fnAppendBytesTwiceReadsBackWrong)

/-- 'zzlaws_internal_cbor_b1.FnAppendTextTwiceReadsBack': WHATEVER THE INPUT: true; the input reads as it did. -/
def fnAppendTextTwiceReadsBackSpec : ChangeSpec := { name := "fnAppendTextTwiceReadsBack", fn := fun _ => fun
  | [d1, d2, d3] => { results := [.lit (.bool true)], args := [d1, d2, d3] }
  | _ => none }
def fnAppendTextTwiceReadsBackRow : OpenClaim := { program := "qxb6612641a", sum := "355ad27f12e123b030b1b713d724e5ad946b5d5cfe60e3638fcf957fcb961e82", func := "example.com/trellis/trellis/zzlaws_internal_cbor_b1.FnAppendTextTwiceReadsBack", spec := "fnAppendTextTwiceReadsBack", named := ["encoding/binary.BigEndian"], apart := false }
def FnAppendTextTwiceReadsBackSaid : Prop := fnAppendTextTwiceReadsBackRow.holds Try.pinned (OpenSpec.ofChange fnAppendTextTwiceReadsBackSpec)

/-- ITS FALSE NEIGHBOUR: 'it returns false'. Refute it at one input. -/
def fnAppendTextTwiceReadsBackWrong : ChangeSpec := { name := "fnAppendTextTwiceReadsBack", fn := fun _ => fun
  | [d1, d2, d3] => { results := [.lit (.bool false)], args := [d1, d2, d3] }
  | _ => none }
def FnAppendTextTwiceReadsBackWrongFalsely : Prop := fnAppendTextTwiceReadsBackRow.holds Try.pinned (OpenSpec.ofChange fnAppendTextTwiceReadsBackWrong)

/-- 'zzlaws_internal_cbor_b1.FnTextAndBytesDifferOnlyInMajorType': WHATEVER THE INPUT: true; the input reads as it did. -/
def fnTextAndBytesDifferOnlyInMajorTypeSpec : ChangeSpec := { name := "fnTextAndBytesDifferOnlyInMajorType", fn := fun _ => fun
  | [d1, d2] => { results := [.lit (.bool true)], args := [d1, d2] }
  | _ => none }
def fnTextAndBytesDifferOnlyInMajorTypeRow : OpenClaim := { program := "qxb6612641a", sum := "355ad27f12e123b030b1b713d724e5ad946b5d5cfe60e3638fcf957fcb961e82", func := "example.com/trellis/trellis/zzlaws_internal_cbor_b1.FnTextAndBytesDifferOnlyInMajorType", spec := "fnTextAndBytesDifferOnlyInMajorType", named := ["encoding/binary.BigEndian"], apart := false }
def FnTextAndBytesDifferOnlyInMajorTypeSaid : Prop := fnTextAndBytesDifferOnlyInMajorTypeRow.holds Try.pinned (OpenSpec.ofChange fnTextAndBytesDifferOnlyInMajorTypeSpec)

/-- ITS FALSE NEIGHBOUR: 'it returns false'. Refute it at one input. -/
def fnTextAndBytesDifferOnlyInMajorTypeWrong : ChangeSpec := { name := "fnTextAndBytesDifferOnlyInMajorType", fn := fun _ => fun
  | [d1, d2] => { results := [.lit (.bool false)], args := [d1, d2] }
  | _ => none }
def FnTextAndBytesDifferOnlyInMajorTypeWrongFalsely : Prop := fnTextAndBytesDifferOnlyInMajorTypeRow.holds Try.pinned (OpenSpec.ofChange fnTextAndBytesDifferOnlyInMajorTypeWrong)

end Rows
end Go.Proofs.Qxb6612641a
