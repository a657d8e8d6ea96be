/-
  No cell of these rows narrows 'for every input' (looked for: loops, veiled, ifaces, maps, wideKeys, modest, calm, conditions, laid).
  DERIVED. THE GIVEN ROWS OF THIS SEAT. 4 by the template 'for every input the law returns true; each argument reads behind the call as it read before'; 0 by the template 'total and deterministic' (their statements: Qxb6602253aTotals.lean).
  GIVEN WITH THE SEED: the statements are not yours to turn. If you find one false, say at which input.
  Laid BY PROGRAM, IN A SANDBOX (cutbox-rows.mjs): the forced cells as the released guide's own fill.sh prints them over the translation aa9f39d9d7ef18e1… (all of the seat's roots in one cut). By AI agents, Wed Nov 11 2026. No macro, syntax, notation, axiom, sorry.
-/
import Derived.Test.Qxb6602253aChecked
import GoSem.Claim
import GoSem.ClaimJoined
import GoSem.ClaimMapViews
import Derived.JoinedTies
import Derived.KernelRfl
namespace Go.Proofs.Qxb6602253a
/- THE CELL 'sum', in the pinned program and in every row, IS THE sha256 OF THE DUMP (.gsa) THAT Qxb6602253aProg.lean LOADS. Nothing in Lean hashes anything: it is a label: what it is worth is what the hold of that sum in a sandbox is worth. -/
noncomputable def Try.pinned : Pinned := { name := "qxb6602253a", sum := "aa9f39d9d7ef18e16e61ee39f4d36ef29deba4e9bc1605a601a2030174e6f64d", checked := Try.checked }
namespace Rows
def none {H : Type} : Left H := { results := [], args := [] }

/-- 'zzlaws_pkg_sale_b1.FnValidIDMatchesAlphabetModel': WHATEVER THE INPUT: true; the input reads as it did. -/
def fnValidIDMatchesAlphabetModelSpec : ChangeSpec := { name := "fnValidIDMatchesAlphabetModel", fn := fun _ => fun
  | [d] => { results := [.lit (.bool true)], args := [d] }
  | _ => none }
def fnValidIDMatchesAlphabetModelRow : OpenClaim := { program := "qxb6602253a", sum := "aa9f39d9d7ef18e16e61ee39f4d36ef29deba4e9bc1605a601a2030174e6f64d", func := "example.com/surgegate/surgegate/zzlaws_pkg_sale_b1.FnValidIDMatchesAlphabetModel", spec := "fnValidIDMatchesAlphabetModel", apart := false }
def FnValidIDMatchesAlphabetModelSaid : Prop := fnValidIDMatchesAlphabetModelRow.holds Try.pinned (OpenSpec.ofChange fnValidIDMatchesAlphabetModelSpec)

/-- ITS FALSE NEIGHBOUR: 'it returns false'. Refute it at one input. -/
def fnValidIDMatchesAlphabetModelWrong : ChangeSpec := { name := "fnValidIDMatchesAlphabetModel", fn := fun _ => fun
  | [d] => { results := [.lit (.bool false)], args := [d] }
  | _ => none }
def FnValidIDMatchesAlphabetModelWrongFalsely : Prop := fnValidIDMatchesAlphabetModelRow.holds Try.pinned (OpenSpec.ofChange fnValidIDMatchesAlphabetModelWrong)

/-- 'zzlaws_pkg_sale_b1.FnValidIDPrefixClosed': WHATEVER THE INPUT: true; the input reads as it did. -/
def fnValidIDPrefixClosedSpec : ChangeSpec := { name := "fnValidIDPrefixClosed", fn := fun _ => fun
  | [d] => { results := [.lit (.bool true)], args := [d] }
  | _ => none }
def fnValidIDPrefixClosedRow : OpenClaim := { program := "qxb6602253a", sum := "aa9f39d9d7ef18e16e61ee39f4d36ef29deba4e9bc1605a601a2030174e6f64d", func := "example.com/surgegate/surgegate/zzlaws_pkg_sale_b1.FnValidIDPrefixClosed", spec := "fnValidIDPrefixClosed", apart := false }
def FnValidIDPrefixClosedSaid : Prop := fnValidIDPrefixClosedRow.holds Try.pinned (OpenSpec.ofChange fnValidIDPrefixClosedSpec)

/-- ITS FALSE NEIGHBOUR: 'it returns false'. Refute it at one input. -/
def fnValidIDPrefixClosedWrong : ChangeSpec := { name := "fnValidIDPrefixClosed", fn := fun _ => fun
  | [d] => { results := [.lit (.bool false)], args := [d] }
  | _ => none }
def FnValidIDPrefixClosedWrongFalsely : Prop := fnValidIDPrefixClosedRow.holds Try.pinned (OpenSpec.ofChange fnValidIDPrefixClosedWrong)

/-- 'zzlaws_pkg_sale_b1.FnValidIDConcatClosed': WHATEVER THE INPUT: true; the input reads as it did. -/
def fnValidIDConcatClosedSpec : ChangeSpec := { name := "fnValidIDConcatClosed", fn := fun _ => fun
  | [d1, d2] => { results := [.lit (.bool true)], args := [d1, d2] }
  | _ => none }
def fnValidIDConcatClosedRow : OpenClaim := { program := "qxb6602253a", sum := "aa9f39d9d7ef18e16e61ee39f4d36ef29deba4e9bc1605a601a2030174e6f64d", func := "example.com/surgegate/surgegate/zzlaws_pkg_sale_b1.FnValidIDConcatClosed", spec := "fnValidIDConcatClosed", apart := false }
def FnValidIDConcatClosedSaid : Prop := fnValidIDConcatClosedRow.holds Try.pinned (OpenSpec.ofChange fnValidIDConcatClosedSpec)

/-- ITS FALSE NEIGHBOUR: 'it returns false'. Refute it at one input. -/
def fnValidIDConcatClosedWrong : ChangeSpec := { name := "fnValidIDConcatClosed", fn := fun _ => fun
  | [d1, d2] => { results := [.lit (.bool false)], args := [d1, d2] }
  | _ => none }
def FnValidIDConcatClosedWrongFalsely : Prop := fnValidIDConcatClosedRow.holds Try.pinned (OpenSpec.ofChange fnValidIDConcatClosedWrong)

/-- 'zzlaws_pkg_sale_b1.FnUnitsMonotoneInQuantity': WHATEVER THE INPUT: true; the input reads as it did. -/
def fnUnitsMonotoneInQuantitySpec : ChangeSpec := { name := "fnUnitsMonotoneInQuantity", fn := fun _ => fun
  | [d1, d2] => { results := [.lit (.bool true)], args := [d1, d2] }
  | _ => none }
def fnUnitsMonotoneInQuantityRow : OpenClaim := { program := "qxb6602253a", sum := "aa9f39d9d7ef18e16e61ee39f4d36ef29deba4e9bc1605a601a2030174e6f64d", func := "example.com/surgegate/surgegate/zzlaws_pkg_sale_b1.FnUnitsMonotoneInQuantity", spec := "fnUnitsMonotoneInQuantity", apart := false }
def FnUnitsMonotoneInQuantitySaid : Prop := fnUnitsMonotoneInQuantityRow.holds Try.pinned (OpenSpec.ofChange fnUnitsMonotoneInQuantitySpec)

/-- ITS FALSE NEIGHBOUR: 'it returns false'. Refute it at one input. -/
def fnUnitsMonotoneInQuantityWrong : ChangeSpec := { name := "fnUnitsMonotoneInQuantity", fn := fun _ => fun
  | [d1, d2] => { results := [.lit (.bool false)], args := [d1, d2] }
  | _ => none }
def FnUnitsMonotoneInQuantityWrongFalsely : Prop := fnUnitsMonotoneInQuantityRow.holds Try.pinned (OpenSpec.ofChange fnUnitsMonotoneInQuantityWrong)

end Rows
end Go.Proofs.Qxb6602253a
