/-
  DERIVED. GIVEN WITH THE SEED: THE CARDS: each row of Qxb6601842aDoorRows.lean that lists a variable, with what it lists TIED to the program's text (the seventh form; the later family's looks); each row that meets fmt, with fmt's text TOLD by the authors' own Lean function (tested against real Go, not proved from fmt's source: count such statements apart). THE CARD IS WHAT COUNTS. Prove the row's statement (the work); the ties are given (Qxb6601842aDoorTie.lean); close each card by the builder's one call (the guide's Derived/Test/ToyasCard.lean, 'card_holds'). Laid BY PROGRAM, IN A SANDBOX (cutbox-door.mjs). By AI agents, Wed Nov 11 2026. No macro, syntax, notation, axiom, sorry.
-/
import Derived.Test.Qxb6601842aDoorRows
import GoSem.ClaimSeven
namespace Go.Proofs.Qxb6601842aDoor
namespace Rows

/-- THE TIED CARD OF 'zzlaws_internal_tokens_b1.FnWriteStringCanonicalRoundTrip'. -/
def fnWriteStringCanonicalRoundTripCard : Claim7 := { stood := { row := fnWriteStringCanonicalRoundTripRow, standIns := [], harness := (true, "717085869105bdfd47973b10035083065984ddb01d89ced759e0dbaec6d1159d"), looks := false }, kinds := [], alts := [], laidByText := true, laidKinds := [.sentinel], laidTests := true, laidLooks := .later }
def FnWriteStringCanonicalRoundTripCardSaid : Prop := Claim7.holds Tryd.pinned (.plain (OpenSpec.ofChange fnWriteStringCanonicalRoundTripSpec)) fnWriteStringCanonicalRoundTripCard

/-- THE TIED CARD OF 'zzlaws_internal_tokens_b1.FnWriteStringConcat'. -/
def fnWriteStringConcatCard : Claim7 := { stood := { row := fnWriteStringConcatRow, standIns := [], harness := (true, "717085869105bdfd47973b10035083065984ddb01d89ced759e0dbaec6d1159d"), looks := false }, kinds := [], alts := [], laidByText := true, laidKinds := [.sentinel], laidTests := true, laidLooks := .later }
def FnWriteStringConcatCardSaid : Prop := Claim7.holds Tryd.pinned (.plain (OpenSpec.ofChange fnWriteStringConcatSpec)) fnWriteStringConcatCard

/-- THE TIED CARD OF 'zzlaws_internal_tokens_b1.FnAppendJSONWhole'. -/
def fnAppendJSONWholeCard : Claim7 := { stood := { row := fnAppendJSONWholeRow, standIns := [], harness := (true, "717085869105bdfd47973b10035083065984ddb01d89ced759e0dbaec6d1159d"), looks := false }, kinds := [], alts := [], laidByText := true, laidKinds := [.data, .data, .data, .data, .pinned, .pinned], laidTests := true, laidLooks := .later }
def FnAppendJSONWholeCardSaid : Prop := Claim7.holds Tryd.pinned (.plain (OpenSpec.ofChange fnAppendJSONWholeSpec)) fnAppendJSONWholeCard
end Rows
end Go.Proofs.Qxb6601842aDoor
