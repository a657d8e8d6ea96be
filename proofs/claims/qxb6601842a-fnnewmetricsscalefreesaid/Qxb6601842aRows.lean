/-
  No cell of these rows narrows 'for every input' (looked for: loops, veiled, ifaces, maps, wideKeys, modest, calm, conditions, laid).
  DERIVED. THE GIVEN ROWS OF THIS SEAT. 3 by the template 'for every input the law returns true; each argument reads behind the call as it read before'; 0 by the template 'total and deterministic' (their statements: Qxb6601842aTotals.lean).
  GIVEN WITH THE SEED: the statements are not yours to turn. If you find one false, say at which input.
  Laid BY PROGRAM, IN A SANDBOX (cutbox-rows.mjs): the forced cells as the released guide's own fill.sh prints them over the translation 059a4f01429653bc… (all of the seat's roots in one cut). By AI agents, Wed Nov 11 2026. No macro, syntax, notation, axiom, sorry.
-/
import Derived.Test.Qxb6601842aChecked
import GoSem.Claim
import GoSem.ClaimJoined
import GoSem.ClaimMapViews
import Derived.JoinedTies
import Derived.KernelRfl
namespace Go.Proofs.Qxb6601842a
/- THE CELL 'sum', in the pinned program and in every row, IS THE sha256 OF THE DUMP (.gsa) THAT Qxb6601842aProg.lean LOADS. Nothing in Lean hashes anything: it is a label: what it is worth is what the hold of that sum in a sandbox is worth. -/
noncomputable def Try.pinned : Pinned := { name := "qxb6601842a", sum := "059a4f01429653bc8bc6ac1ae76e006e81847c1c03a716a60fc5e0335b9feaf7", checked := Try.checked }
namespace Rows
def none {H : Type} : Left H := { results := [], args := [] }

/-- 'zzlaws_internal_tokens_b1.FnNewMetricsWhole': WHATEVER THE INPUT: true; the input reads as it did. -/
def fnNewMetricsWholeSpec : ChangeSpec := { name := "fnNewMetricsWhole", fn := fun _ => fun
  | [d1, d2] => { results := [.lit (.bool true)], args := [d1, d2] }
  | _ => none }
def fnNewMetricsWholeRow : OpenClaim := { program := "qxb6601842a", sum := "059a4f01429653bc8bc6ac1ae76e006e81847c1c03a716a60fc5e0335b9feaf7", func := "example.com/tool-funnel/tool-funnel/zzlaws_internal_tokens_b1.FnNewMetricsWhole", spec := "fnNewMetricsWhole", apart := false }
def FnNewMetricsWholeSaid : Prop := fnNewMetricsWholeRow.holds Try.pinned (OpenSpec.ofChange fnNewMetricsWholeSpec)

/-- ITS FALSE NEIGHBOUR: 'it returns false'. Refute it at one input. -/
def fnNewMetricsWholeWrong : ChangeSpec := { name := "fnNewMetricsWhole", fn := fun _ => fun
  | [d1, d2] => { results := [.lit (.bool false)], args := [d1, d2] }
  | _ => none }
def FnNewMetricsWholeWrongFalsely : Prop := fnNewMetricsWholeRow.holds Try.pinned (OpenSpec.ofChange fnNewMetricsWholeWrong)

/-- 'zzlaws_internal_tokens_b1.FnNewMetricsSavingsFallAsReturnedGrows': WHATEVER THE INPUT: true; the input reads as it did. -/
def fnNewMetricsSavingsFallAsReturnedGrowsSpec : ChangeSpec := { name := "fnNewMetricsSavingsFallAsReturnedGrows", fn := fun _ => fun
  | [d1, d2, d3] => { results := [.lit (.bool true)], args := [d1, d2, d3] }
  | _ => none }
def fnNewMetricsSavingsFallAsReturnedGrowsRow : OpenClaim := { program := "qxb6601842a", sum := "059a4f01429653bc8bc6ac1ae76e006e81847c1c03a716a60fc5e0335b9feaf7", func := "example.com/tool-funnel/tool-funnel/zzlaws_internal_tokens_b1.FnNewMetricsSavingsFallAsReturnedGrows", spec := "fnNewMetricsSavingsFallAsReturnedGrows", apart := false }
def FnNewMetricsSavingsFallAsReturnedGrowsSaid : Prop := fnNewMetricsSavingsFallAsReturnedGrowsRow.holds Try.pinned (OpenSpec.ofChange fnNewMetricsSavingsFallAsReturnedGrowsSpec)

/-- ITS FALSE NEIGHBOUR: 'it returns false'. Refute it at one input. -/
def fnNewMetricsSavingsFallAsReturnedGrowsWrong : ChangeSpec := { name := "fnNewMetricsSavingsFallAsReturnedGrows", fn := fun _ => fun
  | [d1, d2, d3] => { results := [.lit (.bool false)], args := [d1, d2, d3] }
  | _ => none }
def FnNewMetricsSavingsFallAsReturnedGrowsWrongFalsely : Prop := fnNewMetricsSavingsFallAsReturnedGrowsRow.holds Try.pinned (OpenSpec.ofChange fnNewMetricsSavingsFallAsReturnedGrowsWrong)

/-- 'zzlaws_internal_tokens_b1.FnNewMetricsScaleFree': WHATEVER THE INPUT: true; the input reads as it did. -/
def fnNewMetricsScaleFreeSpec : ChangeSpec := { name := "fnNewMetricsScaleFree", fn := fun _ => fun
  | [d1, d2, d3] => { results := [.lit (.bool true)], args := [d1, d2, d3] }
  | _ => none }
def fnNewMetricsScaleFreeRow : OpenClaim := { program := "qxb6601842a", sum := "059a4f01429653bc8bc6ac1ae76e006e81847c1c03a716a60fc5e0335b9feaf7", func := "example.com/tool-funnel/tool-funnel/zzlaws_internal_tokens_b1.FnNewMetricsScaleFree", spec := "fnNewMetricsScaleFree", apart := false }
def FnNewMetricsScaleFreeSaid : Prop := fnNewMetricsScaleFreeRow.holds Try.pinned (OpenSpec.ofChange fnNewMetricsScaleFreeSpec)

/-- ITS FALSE NEIGHBOUR: 'it returns false'. Refute it at one input. -/
def fnNewMetricsScaleFreeWrong : ChangeSpec := { name := "fnNewMetricsScaleFree", fn := fun _ => fun
  | [d1, d2, d3] => { results := [.lit (.bool false)], args := [d1, d2, d3] }
  | _ => none }
def FnNewMetricsScaleFreeWrongFalsely : Prop := fnNewMetricsScaleFreeRow.holds Try.pinned (OpenSpec.ofChange fnNewMetricsScaleFreeWrong)

end Rows
end Go.Proofs.Qxb6601842a
