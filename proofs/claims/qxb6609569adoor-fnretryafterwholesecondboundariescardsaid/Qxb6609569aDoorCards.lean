/-
  DERIVED. GIVEN WITH THE SEED: THE CARDS: each row of Qxb6609569aDoorRows.lean that lists a variable, with what it lists TIED to the program's text (the seventh form; the later family's looks); each row that meets fmt, with fmt's text TOLD by the authors' own Lean function (tested against real Go, not proved from fmt's source: count such statements apart). THE CARD IS WHAT COUNTS. Prove the row's statement (the work); the ties are given (Qxb6609569aDoorTie.lean); close each card by the builder's one call (the guide's Derived/Test/ToyasCard.lean, 'card_holds'). Laid BY PROGRAM, IN A SANDBOX (cutbox-door.mjs). By AI agents, Wed Nov 11 2026. No macro, syntax, notation, axiom, sorry.
-/
import Derived.Test.Qxb6609569aDoorRows
import GoSem.ClaimSeven
namespace Go.Proofs.Qxb6609569aDoor
namespace Rows

/-- THE TIED CARD OF 'zzlaws_internal_api_b1.FnRetryAfterIsSecondsRoundedUp'. -/
def fnRetryAfterIsSecondsRoundedUpCard : Claim7 := { stood := { row := fnRetryAfterIsSecondsRoundedUpRow, standIns := [], harness := (true, "dc604d7fe7d4ceb3941345f8a482c9b5fb6c7ffddcfd473629059bb6f50326aa"), looks := false }, kinds := [], alts := [], laidByText := true, laidKinds := [.data, .data, .data], laidTests := true, laidLooks := .later }
def FnRetryAfterIsSecondsRoundedUpCardSaid : Prop := Claim7.holds Tryd.pinned (.plain (OpenSpec.ofChange fnRetryAfterIsSecondsRoundedUpSpec)) fnRetryAfterIsSecondsRoundedUpCard

/-- THE TIED CARD OF 'zzlaws_internal_api_b1.FnRetryAfterWholeSecondBoundaries'. -/
def fnRetryAfterWholeSecondBoundariesCard : Claim7 := { stood := { row := fnRetryAfterWholeSecondBoundariesRow, standIns := [], harness := (true, "dc604d7fe7d4ceb3941345f8a482c9b5fb6c7ffddcfd473629059bb6f50326aa"), looks := false }, kinds := [], alts := [], laidByText := true, laidKinds := [.data, .data, .data], laidTests := true, laidLooks := .later }
def FnRetryAfterWholeSecondBoundariesCardSaid : Prop := Claim7.holds Tryd.pinned (.plain (OpenSpec.ofChange fnRetryAfterWholeSecondBoundariesSpec)) fnRetryAfterWholeSecondBoundariesCard
end Rows
end Go.Proofs.Qxb6609569aDoor
