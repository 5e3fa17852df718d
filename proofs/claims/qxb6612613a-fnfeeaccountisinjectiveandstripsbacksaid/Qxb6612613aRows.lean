/-
  No cell of these rows narrows 'for every input' (looked for: loops, veiled, ifaces, maps, wideKeys, modest, calm, conditions, laid).
  DERIVED. THE GIVEN ROWS OF THIS SEAT. 1 by the template 'for every input the law returns true; each argument reads behind the call as it read before'; 0 by the template 'total and deterministic' (their statements: Qxb6612613aTotals.lean).
  GIVEN WITH THE SEED: the statements are not yours to turn. If you find one false, say at which input.
  Laid BY PROGRAM, IN A SANDBOX (cutbox-rows.mjs): the forced cells as the released guide's own fill.sh prints them over the translation c6e7c90e845a0d4d… (all of the seat's roots in one cut). By AI agents, Wed Nov 11 2026. No macro, syntax, notation, axiom, sorry.
-/
import Derived.Test.Qxb6612613aChecked
import GoSem.Claim
import GoSem.ClaimJoined
import GoSem.ClaimMapViews
import Derived.JoinedTies
import Derived.KernelRfl
namespace Go.Proofs.Qxb6612613a
/- THE CELL 'sum', in the pinned program and in every row, IS THE sha256 OF THE DUMP (.gsa) THAT Qxb6612613aProg.lean LOADS. Nothing in Lean hashes anything: it is a label: what it is worth is what the hold of that sum in a sandbox is worth. -/
noncomputable def Try.pinned : Pinned := { name := "qxb6612613a", sum := "c6e7c90e845a0d4d143587e4368c59a10c59984e79a7502b6096aa8021b5f02c", checked := Try.checked }
namespace Rows
def none {H : Type} : Left H := { results := [], args := [] }

/-- 'zzlaws_pkg_fund_b1.FnFeeAccountIsInjectiveAndStripsBack': WHATEVER THE INPUT: true; the input reads as it did. -/
def fnFeeAccountIsInjectiveAndStripsBackSpec : ChangeSpec := { name := "fnFeeAccountIsInjectiveAndStripsBack", fn := fun _ => fun
  | [d1, d2, d3] => { results := [.lit (.bool true)], args := [d1, d2, d3] }
  | _ => none }
def fnFeeAccountIsInjectiveAndStripsBackRow : OpenClaim := { program := "qxb6612613a", sum := "c6e7c90e845a0d4d143587e4368c59a10c59984e79a7502b6096aa8021b5f02c", func := "example.com/fundward/fundward/zzlaws_pkg_fund_b1.FnFeeAccountIsInjectiveAndStripsBack", spec := "fnFeeAccountIsInjectiveAndStripsBack", apart := false }
def FnFeeAccountIsInjectiveAndStripsBackSaid : Prop := fnFeeAccountIsInjectiveAndStripsBackRow.holds Try.pinned (OpenSpec.ofChange fnFeeAccountIsInjectiveAndStripsBackSpec)

/-- ITS FALSE NEIGHBOUR: 'it returns false'. Refute it at one input. -/
def fnFeeAccountIsInjectiveAndStripsBackWrong : ChangeSpec := { name := "fnFeeAccountIsInjectiveAndStripsBack", fn := fun _ => fun
  | [d1, d2, d3] => { results := [.lit (.bool false)], args := [d1, d2, d3] }
  | _ => none }
def FnFeeAccountIsInjectiveAndStripsBackWrongFalsely : Prop := fnFeeAccountIsInjectiveAndStripsBackRow.holds Try.pinned (OpenSpec.ofChange fnFeeAccountIsInjectiveAndStripsBackWrong)

end Rows
end Go.Proofs.Qxb6612613a
