/-
  NARROWER THAN 'FOR EVERY INPUT', by the rows' own cells (each row's printed sentence says how): FnWriteStringCanonicalRoundTrip: laid · FnWriteStringConcat: laid · FnAppendJSONWhole: laid.
  DERIVED. THE GIVEN ROWS OF THIS SEAT. 3 by the template 'for every input the law returns true; each argument reads behind the call as it read before'; 0 by the template 'total and deterministic' (their statements: Qxb6601842aDoorTotals.lean).
  GIVEN WITH THE SEED: the statements are not yours to turn. If you find one false, say at which input.
  Laid BY PROGRAM, IN A SANDBOX (cutbox-rows.mjs): the forced cells as the released guide's own fill.sh prints them over the translation 6779bc40bbbdfa42… (all of the seat's roots in one cut). By AI agents, Wed Nov 11 2026. No macro, syntax, notation, axiom, sorry.
-/
import Derived.Test.Qxb6601842aDoorChecked
import GoSem.PinnedTables
import GoSem.Claim
import GoSem.ClaimJoined
import GoSem.ClaimMapViews
import Derived.JoinedTies
import Derived.KernelRfl
namespace Go.Proofs.Qxb6601842aDoor
/- THE CELL 'sum', in the pinned program and in every row, IS THE sha256 OF THE DUMP (.gsa) THAT Qxb6601842aDoorProg.lean LOADS. Nothing in Lean hashes anything: it is a label: what it is worth is what the hold of that sum in a sandbox is worth. -/
noncomputable def Tryd.pinned : Pinned := { name := "qxb6601842adoor", sum := "6779bc40bbbdfa42d178deb99102b7f530a48d0e80cb738ac2456f63edcbb1f5", checked := Tryd.checked }
namespace Rows
def none {H : Type} : Left H := { results := [], args := [] }

/- WHAT THE LISTED PACKAGE-LEVEL VARIABLES READ AS WHEN THE CALL BEGINS. Each datum BY PROGRAM (the guide's laid-datum.mjs) off the statement by which the dump's own 'gosem.cut.vars' lays the variable. In a bare row this is a premise. The card (Qxb6601842aDoorCards.lean) ties it to the program's text. -/
def laid_bytes_ErrTooLarge {H : Type} : DataW H := .iface "*errors.errorString" (.ptr (.agg [.lit (.string [98, 121, 116, 101, 115, 46, 66, 117, 102, 102, 101, 114, 58, 32, 116, 111, 111, 32, 108, 97, 114, 103, 101])]))
def laid_math_bits_deBruijn32tab {H : Type} : DataW H := .agg [.lit (.int .u8 0), .lit (.int .u8 1), .lit (.int .u8 28), .lit (.int .u8 2), .lit (.int .u8 29), .lit (.int .u8 14), .lit (.int .u8 24), .lit (.int .u8 3), .lit (.int .u8 30), .lit (.int .u8 22), .lit (.int .u8 20), .lit (.int .u8 15), .lit (.int .u8 25), .lit (.int .u8 17), .lit (.int .u8 4), .lit (.int .u8 8), .lit (.int .u8 31), .lit (.int .u8 27), .lit (.int .u8 13), .lit (.int .u8 23), .lit (.int .u8 21), .lit (.int .u8 19), .lit (.int .u8 16), .lit (.int .u8 7), .lit (.int .u8 26), .lit (.int .u8 12), .lit (.int .u8 18), .lit (.int .u8 6), .lit (.int .u8 11), .lit (.int .u8 5), .lit (.int .u8 10), .lit (.int .u8 9)]
def laid_math_bits_deBruijn64tab {H : Type} : DataW H := .agg [.lit (.int .u8 0), .lit (.int .u8 1), .lit (.int .u8 56), .lit (.int .u8 2), .lit (.int .u8 57), .lit (.int .u8 49), .lit (.int .u8 28), .lit (.int .u8 3), .lit (.int .u8 61), .lit (.int .u8 58), .lit (.int .u8 42), .lit (.int .u8 50), .lit (.int .u8 38), .lit (.int .u8 29), .lit (.int .u8 17), .lit (.int .u8 4), .lit (.int .u8 62), .lit (.int .u8 47), .lit (.int .u8 59), .lit (.int .u8 36), .lit (.int .u8 45), .lit (.int .u8 43), .lit (.int .u8 51), .lit (.int .u8 22), .lit (.int .u8 53), .lit (.int .u8 39), .lit (.int .u8 33), .lit (.int .u8 30), .lit (.int .u8 24), .lit (.int .u8 18), .lit (.int .u8 12), .lit (.int .u8 5), .lit (.int .u8 63), .lit (.int .u8 55), .lit (.int .u8 48), .lit (.int .u8 27), .lit (.int .u8 60), .lit (.int .u8 41), .lit (.int .u8 37), .lit (.int .u8 16), .lit (.int .u8 46), .lit (.int .u8 35), .lit (.int .u8 44), .lit (.int .u8 21), .lit (.int .u8 52), .lit (.int .u8 32), .lit (.int .u8 23), .lit (.int .u8 11), .lit (.int .u8 54), .lit (.int .u8 26), .lit (.int .u8 40), .lit (.int .u8 15), .lit (.int .u8 34), .lit (.int .u8 20), .lit (.int .u8 31), .lit (.int .u8 10), .lit (.int .u8 25), .lit (.int .u8 14), .lit (.int .u8 19), .lit (.int .u8 9), .lit (.int .u8 13), .lit (.int .u8 8), .lit (.int .u8 7), .lit (.int .u8 6)]
def laid_internal_strconv_optimize {H : Type} : DataW H := .lit (.bool true)
def laid_internal_strconv_uint64pow10 {H : Type} : DataW H := .agg [.lit (.int .u64 1), .lit (.int .u64 10), .lit (.int .u64 100), .lit (.int .u64 1000), .lit (.int .u64 10000), .lit (.int .u64 100000), .lit (.int .u64 1000000), .lit (.int .u64 10000000), .lit (.int .u64 100000000), .lit (.int .u64 1000000000), .lit (.int .u64 10000000000), .lit (.int .u64 100000000000), .lit (.int .u64 1000000000000), .lit (.int .u64 10000000000000), .lit (.int .u64 100000000000000), .lit (.int .u64 1000000000000000), .lit (.int .u64 10000000000000000), .lit (.int .u64 100000000000000000), .lit (.int .u64 1000000000000000000), .lit (.int .u64 10000000000000000000)]
/-- One of Go's own tables, pinned by name: the form's constant. -/
def laid_internal_strconv_leftcheats : DataW Unit := Go.Pinned.leftcheats
/-- One of Go's own tables, pinned by name: the form's constant. -/
def laid_internal_strconv_pow10Tab : DataW Unit := Go.Pinned.pow10Tab

/-- 'zzlaws_internal_tokens_b1.FnWriteStringCanonicalRoundTrip': WHATEVER THE INPUT: true; the input reads as it did. -/
def fnWriteStringCanonicalRoundTripSpec : ChangeSpec := { name := "fnWriteStringCanonicalRoundTrip", fn := fun _ => fun
  | [d1, d2] => { results := [.lit (.bool true)], args := [d1, d2] }
  | _ => none }
def fnWriteStringCanonicalRoundTripRow : OpenClaim := { program := "qxb6601842adoor", sum := "6779bc40bbbdfa42d178deb99102b7f530a48d0e80cb738ac2456f63edcbb1f5", func := "example.com/tool-funnel/tool-funnel/zzlaws_internal_tokens_b1.FnWriteStringCanonicalRoundTrip", spec := "fnWriteStringCanonicalRoundTrip", named := ["bytes.ErrTooLarge"], apart := false, laid := [("bytes.ErrTooLarge", laid_bytes_ErrTooLarge)] }
def FnWriteStringCanonicalRoundTripSaid : Prop := fnWriteStringCanonicalRoundTripRow.holds Tryd.pinned (OpenSpec.ofChange fnWriteStringCanonicalRoundTripSpec)

/-- ITS FALSE NEIGHBOUR: 'it returns false'. Refute it at one input. -/
def fnWriteStringCanonicalRoundTripWrong : ChangeSpec := { name := "fnWriteStringCanonicalRoundTrip", fn := fun _ => fun
  | [d1, d2] => { results := [.lit (.bool false)], args := [d1, d2] }
  | _ => none }
def FnWriteStringCanonicalRoundTripWrongFalsely : Prop := fnWriteStringCanonicalRoundTripRow.holds Tryd.pinned (OpenSpec.ofChange fnWriteStringCanonicalRoundTripWrong)

/-- 'zzlaws_internal_tokens_b1.FnWriteStringConcat': WHATEVER THE INPUT: true; the input reads as it did. -/
def fnWriteStringConcatSpec : ChangeSpec := { name := "fnWriteStringConcat", fn := fun _ => fun
  | [d1, d2] => { results := [.lit (.bool true)], args := [d1, d2] }
  | _ => none }
def fnWriteStringConcatRow : OpenClaim := { program := "qxb6601842adoor", sum := "6779bc40bbbdfa42d178deb99102b7f530a48d0e80cb738ac2456f63edcbb1f5", func := "example.com/tool-funnel/tool-funnel/zzlaws_internal_tokens_b1.FnWriteStringConcat", spec := "fnWriteStringConcat", named := ["bytes.ErrTooLarge"], apart := false, laid := [("bytes.ErrTooLarge", laid_bytes_ErrTooLarge)] }
def FnWriteStringConcatSaid : Prop := fnWriteStringConcatRow.holds Tryd.pinned (OpenSpec.ofChange fnWriteStringConcatSpec)

/-- ITS FALSE NEIGHBOUR: 'it returns false'. Refute it at one input. -/
def fnWriteStringConcatWrong : ChangeSpec := { name := "fnWriteStringConcat", fn := fun _ => fun
  | [d1, d2] => { results := [.lit (.bool false)], args := [d1, d2] }
  | _ => none }
def FnWriteStringConcatWrongFalsely : Prop := fnWriteStringConcatRow.holds Tryd.pinned (OpenSpec.ofChange fnWriteStringConcatWrong)

/-- 'zzlaws_internal_tokens_b1.FnAppendJSONWhole': WHATEVER THE INPUT: true; the input reads as it did. -/
def fnAppendJSONWholeSpec : ChangeSpec := { name := "fnAppendJSONWhole", fn := fun _ => fun
  | [d1, d2, d3, d4] => { results := [.lit (.bool true)], args := [d1, d2, d3, d4] }
  | _ => none }
def fnAppendJSONWholeRow : OpenClaim := { program := "qxb6601842adoor", sum := "6779bc40bbbdfa42d178deb99102b7f530a48d0e80cb738ac2456f63edcbb1f5", func := "example.com/tool-funnel/tool-funnel/zzlaws_internal_tokens_b1.FnAppendJSONWhole", spec := "fnAppendJSONWhole", inPlace := ["internal/strconv.float32bits", "internal/strconv.float64bits"], named := ["internal/strconv.uint64pow10", "math/bits.deBruijn32tab", "math/bits.deBruijn64tab", "internal/strconv.optimize", "internal/strconv.pow10Tab", "internal/strconv.leftcheats"], apart := false, laid := [("math/bits.deBruijn32tab", laid_math_bits_deBruijn32tab), ("math/bits.deBruijn64tab", laid_math_bits_deBruijn64tab), ("internal/strconv.optimize", laid_internal_strconv_optimize), ("internal/strconv.uint64pow10", laid_internal_strconv_uint64pow10), ("internal/strconv.leftcheats", laid_internal_strconv_leftcheats), ("internal/strconv.pow10Tab", laid_internal_strconv_pow10Tab)] }
def FnAppendJSONWholeSaid : Prop := fnAppendJSONWholeRow.holds Tryd.pinned (OpenSpec.ofChange fnAppendJSONWholeSpec)

/-- ITS FALSE NEIGHBOUR: 'it returns false'. Refute it at one input. -/
def fnAppendJSONWholeWrong : ChangeSpec := { name := "fnAppendJSONWhole", fn := fun _ => fun
  | [d1, d2, d3, d4] => { results := [.lit (.bool false)], args := [d1, d2, d3, d4] }
  | _ => none }
def FnAppendJSONWholeWrongFalsely : Prop := fnAppendJSONWholeRow.holds Tryd.pinned (OpenSpec.ofChange fnAppendJSONWholeWrong)

end Rows
end Go.Proofs.Qxb6601842aDoor
