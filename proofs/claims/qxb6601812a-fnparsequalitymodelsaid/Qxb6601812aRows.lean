/-
  No cell of these rows narrows 'for every input' (looked for: loops, veiled, ifaces, maps, wideKeys, modest, calm, conditions, laid).
  DERIVED. THE GIVEN ROWS OF THIS SEAT. 6 by the template 'for every input the law returns true; each argument reads behind the call as it read before'; 0 by the template 'total and deterministic' (their statements: Qxb6601812aTotals.lean).
  GIVEN WITH THE SEED: the statements are not yours to turn. If you find one false, say at which input.
  Laid BY PROGRAM, IN A SANDBOX (cutbox-rows.mjs): the forced cells as the released guide's own fill.sh prints them over the translation 87d46c2adbbb36bd… (all of the seat's roots in one cut). By AI agents, Wed Nov 11 2026. No macro, syntax, notation, axiom, sorry.
-/
import Derived.Test.Qxb6601812aChecked
import GoSem.Claim
import GoSem.ClaimJoined
import GoSem.ClaimMapViews
import Derived.JoinedTies
import Derived.KernelRfl
namespace Go.Proofs.Qxb6601812a
/- THE CELL 'sum', in the pinned program and in every row, IS THE sha256 OF THE DUMP (.gsa) THAT Qxb6601812aProg.lean LOADS. Nothing in Lean hashes anything: it is a label: what it is worth is what the hold of that sum in a sandbox is worth. -/
noncomputable def Try.pinned : Pinned := { name := "qxb6601812a", sum := "87d46c2adbbb36bd043e74c731625f65bbb5213eb36e488e1486ec79db30f027", checked := Try.checked }
namespace Rows
def none {H : Type} : Left H := { results := [], args := [] }

/-- 'zzlaws_root_b1.FnSplitArgsCharacterized': WHATEVER THE INPUT: true; the input reads as it did. -/
def fnSplitArgsCharacterizedSpec : ChangeSpec := { name := "fnSplitArgsCharacterized", fn := fun _ => fun
  | [d1, d2] => { results := [.lit (.bool true)], args := [d1, d2] }
  | _ => none }
def fnSplitArgsCharacterizedRow : OpenClaim := { program := "qxb6601812a", sum := "87d46c2adbbb36bd043e74c731625f65bbb5213eb36e488e1486ec79db30f027", func := "example.com/halyard/halyard/zzlaws_root_b1.FnSplitArgsCharacterized", spec := "fnSplitArgsCharacterized", apart := false }
def FnSplitArgsCharacterizedSaid : Prop := fnSplitArgsCharacterizedRow.holds Try.pinned (OpenSpec.ofChange fnSplitArgsCharacterizedSpec)

/-- ITS FALSE NEIGHBOUR: 'it returns false'. Refute it at one input. -/
def fnSplitArgsCharacterizedWrong : ChangeSpec := { name := "fnSplitArgsCharacterized", fn := fun _ => fun
  | [d1, d2] => { results := [.lit (.bool false)], args := [d1, d2] }
  | _ => none }
def FnSplitArgsCharacterizedWrongFalsely : Prop := fnSplitArgsCharacterizedRow.holds Try.pinned (OpenSpec.ofChange fnSplitArgsCharacterizedWrong)

/-- 'zzlaws_root_b1.FnSplitArgsLimitKeepsTail': WHATEVER THE INPUT: true; the input reads as it did. -/
def fnSplitArgsLimitKeepsTailSpec : ChangeSpec := { name := "fnSplitArgsLimitKeepsTail", fn := fun _ => fun
  | [d1, d2] => { results := [.lit (.bool true)], args := [d1, d2] }
  | _ => none }
def fnSplitArgsLimitKeepsTailRow : OpenClaim := { program := "qxb6601812a", sum := "87d46c2adbbb36bd043e74c731625f65bbb5213eb36e488e1486ec79db30f027", func := "example.com/halyard/halyard/zzlaws_root_b1.FnSplitArgsLimitKeepsTail", spec := "fnSplitArgsLimitKeepsTail", apart := false }
def FnSplitArgsLimitKeepsTailSaid : Prop := fnSplitArgsLimitKeepsTailRow.holds Try.pinned (OpenSpec.ofChange fnSplitArgsLimitKeepsTailSpec)

/-- ITS FALSE NEIGHBOUR: 'it returns false'. Refute it at one input. -/
def fnSplitArgsLimitKeepsTailWrong : ChangeSpec := { name := "fnSplitArgsLimitKeepsTail", fn := fun _ => fun
  | [d1, d2] => { results := [.lit (.bool false)], args := [d1, d2] }
  | _ => none }
def FnSplitArgsLimitKeepsTailWrongFalsely : Prop := fnSplitArgsLimitKeepsTailRow.holds Try.pinned (OpenSpec.ofChange fnSplitArgsLimitKeepsTailWrong)

/-- 'zzlaws_root_b1.FnSplitArgsPieceSplitsWhole': WHATEVER THE INPUT: true; the input reads as it did. -/
def fnSplitArgsPieceSplitsWholeSpec : ChangeSpec := { name := "fnSplitArgsPieceSplitsWhole", fn := fun _ => fun
  | [d1, d2] => { results := [.lit (.bool true)], args := [d1, d2] }
  | _ => none }
def fnSplitArgsPieceSplitsWholeRow : OpenClaim := { program := "qxb6601812a", sum := "87d46c2adbbb36bd043e74c731625f65bbb5213eb36e488e1486ec79db30f027", func := "example.com/halyard/halyard/zzlaws_root_b1.FnSplitArgsPieceSplitsWhole", spec := "fnSplitArgsPieceSplitsWhole", apart := false }
def FnSplitArgsPieceSplitsWholeSaid : Prop := fnSplitArgsPieceSplitsWholeRow.holds Try.pinned (OpenSpec.ofChange fnSplitArgsPieceSplitsWholeSpec)

/-- ITS FALSE NEIGHBOUR: 'it returns false'. Refute it at one input. -/
def fnSplitArgsPieceSplitsWholeWrong : ChangeSpec := { name := "fnSplitArgsPieceSplitsWhole", fn := fun _ => fun
  | [d1, d2] => { results := [.lit (.bool false)], args := [d1, d2] }
  | _ => none }
def FnSplitArgsPieceSplitsWholeWrongFalsely : Prop := fnSplitArgsPieceSplitsWholeRow.holds Try.pinned (OpenSpec.ofChange fnSplitArgsPieceSplitsWholeWrong)

/-- 'zzlaws_root_b1.FnParseQualityModel': WHATEVER THE INPUT: true; the input reads as it did. -/
def fnParseQualityModelSpec : ChangeSpec := { name := "fnParseQualityModel", fn := fun _ => fun
  | [d] => { results := [.lit (.bool true)], args := [d] }
  | _ => none }
def fnParseQualityModelRow : OpenClaim := { program := "qxb6601812a", sum := "87d46c2adbbb36bd043e74c731625f65bbb5213eb36e488e1486ec79db30f027", func := "example.com/halyard/halyard/zzlaws_root_b1.FnParseQualityModel", spec := "fnParseQualityModel", apart := false }
def FnParseQualityModelSaid : Prop := fnParseQualityModelRow.holds Try.pinned (OpenSpec.ofChange fnParseQualityModelSpec)

/-- ITS FALSE NEIGHBOUR: 'it returns false'. Refute it at one input. -/
def fnParseQualityModelWrong : ChangeSpec := { name := "fnParseQualityModel", fn := fun _ => fun
  | [d] => { results := [.lit (.bool false)], args := [d] }
  | _ => none }
def FnParseQualityModelWrongFalsely : Prop := fnParseQualityModelRow.holds Try.pinned (OpenSpec.ofChange fnParseQualityModelWrong)

/-- 'zzlaws_root_b1.FnParseQualityRoundTrip': WHATEVER THE INPUT: true; the input reads as it did. -/
def fnParseQualityRoundTripSpec : ChangeSpec := { name := "fnParseQualityRoundTrip", fn := fun _ => fun
  | [d] => { results := [.lit (.bool true)], args := [d] }
  | _ => none }
def fnParseQualityRoundTripRow : OpenClaim := { program := "qxb6601812a", sum := "87d46c2adbbb36bd043e74c731625f65bbb5213eb36e488e1486ec79db30f027", func := "example.com/halyard/halyard/zzlaws_root_b1.FnParseQualityRoundTrip", spec := "fnParseQualityRoundTrip", apart := false }
def FnParseQualityRoundTripSaid : Prop := fnParseQualityRoundTripRow.holds Try.pinned (OpenSpec.ofChange fnParseQualityRoundTripSpec)

/-- ITS FALSE NEIGHBOUR: 'it returns false'. Refute it at one input. -/
def fnParseQualityRoundTripWrong : ChangeSpec := { name := "fnParseQualityRoundTrip", fn := fun _ => fun
  | [d] => { results := [.lit (.bool false)], args := [d] }
  | _ => none }
def FnParseQualityRoundTripWrongFalsely : Prop := fnParseQualityRoundTripRow.holds Try.pinned (OpenSpec.ofChange fnParseQualityRoundTripWrong)

/-- 'zzlaws_root_b1.FnParseQualityPadding': WHATEVER THE INPUT: true; the input reads as it did. -/
def fnParseQualityPaddingSpec : ChangeSpec := { name := "fnParseQualityPadding", fn := fun _ => fun
  | [d] => { results := [.lit (.bool true)], args := [d] }
  | _ => none }
def fnParseQualityPaddingRow : OpenClaim := { program := "qxb6601812a", sum := "87d46c2adbbb36bd043e74c731625f65bbb5213eb36e488e1486ec79db30f027", func := "example.com/halyard/halyard/zzlaws_root_b1.FnParseQualityPadding", spec := "fnParseQualityPadding", apart := false }
def FnParseQualityPaddingSaid : Prop := fnParseQualityPaddingRow.holds Try.pinned (OpenSpec.ofChange fnParseQualityPaddingSpec)

/-- ITS FALSE NEIGHBOUR: 'it returns false'. Refute it at one input. -/
def fnParseQualityPaddingWrong : ChangeSpec := { name := "fnParseQualityPadding", fn := fun _ => fun
  | [d] => { results := [.lit (.bool false)], args := [d] }
  | _ => none }
def FnParseQualityPaddingWrongFalsely : Prop := fnParseQualityPaddingRow.holds Try.pinned (OpenSpec.ofChange fnParseQualityPaddingWrong)

end Rows
end Go.Proofs.Qxb6601812a
