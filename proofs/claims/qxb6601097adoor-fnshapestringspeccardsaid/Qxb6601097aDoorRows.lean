/-
  NARROWER THAN 'FOR EVERY INPUT', by the rows' own cells (each row's printed sentence says how): FnShapeStringSpec: laid · FnShapeStringTupleRoundTrip: laid · FnShapeStringInjective: laid · FnTupleSpec: laid · FnTupleLocal: laid.
  DERIVED. THE GIVEN ROWS OF THIS SEAT. 5 by the template 'for every input the law returns true; each argument reads behind the call as it read before'; 0 by the template 'total and deterministic' (their statements: Qxb6601097aDoorTotals.lean).
  GIVEN WITH THE SEED: the statements are not yours to turn. If you find one false, say at which input.
  Laid BY PROGRAM, IN A SANDBOX (cutbox-rows.mjs): the forced cells as the released guide's own fill.sh prints them over the translation 78ac2941eea281bc… (all of the seat's roots in one cut). By AI agents, Wed Nov 11 2026. No macro, syntax, notation, axiom, sorry.
-/
import Derived.Test.Qxb6601097aDoorChecked
import GoSem.Claim
import GoSem.ClaimJoined
import GoSem.ClaimMapViews
import Derived.JoinedTies
import Derived.KernelRfl
namespace Go.Proofs.Qxb6601097aDoor
/- THE CELL 'sum', in the pinned program and in every row, IS THE sha256 OF THE DUMP (.gsa) THAT Qxb6601097aDoorProg.lean LOADS. Nothing in Lean hashes anything: it is a label: what it is worth is what the hold of that sum in a sandbox is worth. -/
noncomputable def Tryd.pinned : Pinned := { name := "qxb6601097adoor", sum := "78ac2941eea281bc9851542b733bd9f1925854149532cebebab67baf1c1acbc6", checked := Tryd.checked }
namespace Rows
def none {H : Type} : Left H := { results := [], args := [] }

/- WHAT THE LISTED PACKAGE-LEVEL VARIABLES READ AS WHEN THE CALL BEGINS. Each datum BY PROGRAM (the guide's laid-datum.mjs) off the statement by which the dump's own 'gosem.cut.vars' lays the variable. In a bare row this is a premise. The card (Qxb6601097aDoorCards.lean) ties it to the program's text. -/
def laid_math_bits_deBruijn32tab {H : Type} : DataW H := .agg [.lit (.int .u8 0), .lit (.int .u8 1), .lit (.int .u8 28), .lit (.int .u8 2), .lit (.int .u8 29), .lit (.int .u8 14), .lit (.int .u8 24), .lit (.int .u8 3), .lit (.int .u8 30), .lit (.int .u8 22), .lit (.int .u8 20), .lit (.int .u8 15), .lit (.int .u8 25), .lit (.int .u8 17), .lit (.int .u8 4), .lit (.int .u8 8), .lit (.int .u8 31), .lit (.int .u8 27), .lit (.int .u8 13), .lit (.int .u8 23), .lit (.int .u8 21), .lit (.int .u8 19), .lit (.int .u8 16), .lit (.int .u8 7), .lit (.int .u8 26), .lit (.int .u8 12), .lit (.int .u8 18), .lit (.int .u8 6), .lit (.int .u8 11), .lit (.int .u8 5), .lit (.int .u8 10), .lit (.int .u8 9)]
def laid_math_bits_deBruijn64tab {H : Type} : DataW H := .agg [.lit (.int .u8 0), .lit (.int .u8 1), .lit (.int .u8 56), .lit (.int .u8 2), .lit (.int .u8 57), .lit (.int .u8 49), .lit (.int .u8 28), .lit (.int .u8 3), .lit (.int .u8 61), .lit (.int .u8 58), .lit (.int .u8 42), .lit (.int .u8 50), .lit (.int .u8 38), .lit (.int .u8 29), .lit (.int .u8 17), .lit (.int .u8 4), .lit (.int .u8 62), .lit (.int .u8 47), .lit (.int .u8 59), .lit (.int .u8 36), .lit (.int .u8 45), .lit (.int .u8 43), .lit (.int .u8 51), .lit (.int .u8 22), .lit (.int .u8 53), .lit (.int .u8 39), .lit (.int .u8 33), .lit (.int .u8 30), .lit (.int .u8 24), .lit (.int .u8 18), .lit (.int .u8 12), .lit (.int .u8 5), .lit (.int .u8 63), .lit (.int .u8 55), .lit (.int .u8 48), .lit (.int .u8 27), .lit (.int .u8 60), .lit (.int .u8 41), .lit (.int .u8 37), .lit (.int .u8 16), .lit (.int .u8 46), .lit (.int .u8 35), .lit (.int .u8 44), .lit (.int .u8 21), .lit (.int .u8 52), .lit (.int .u8 32), .lit (.int .u8 23), .lit (.int .u8 11), .lit (.int .u8 54), .lit (.int .u8 26), .lit (.int .u8 40), .lit (.int .u8 15), .lit (.int .u8 34), .lit (.int .u8 20), .lit (.int .u8 31), .lit (.int .u8 10), .lit (.int .u8 25), .lit (.int .u8 14), .lit (.int .u8 19), .lit (.int .u8 9), .lit (.int .u8 13), .lit (.int .u8 8), .lit (.int .u8 7), .lit (.int .u8 6)]
def laid_internal_strconv_uint64pow10 {H : Type} : DataW H := .agg [.lit (.int .u64 1), .lit (.int .u64 10), .lit (.int .u64 100), .lit (.int .u64 1000), .lit (.int .u64 10000), .lit (.int .u64 100000), .lit (.int .u64 1000000), .lit (.int .u64 10000000), .lit (.int .u64 100000000), .lit (.int .u64 1000000000), .lit (.int .u64 10000000000), .lit (.int .u64 100000000000), .lit (.int .u64 1000000000000), .lit (.int .u64 10000000000000), .lit (.int .u64 100000000000000), .lit (.int .u64 1000000000000000), .lit (.int .u64 10000000000000000), .lit (.int .u64 100000000000000000), .lit (.int .u64 1000000000000000000), .lit (.int .u64 10000000000000000000)]
def laid_strconv_ErrRange {H : Type} : DataW H := .iface "*errors.errorString" (.ptr (.agg [.lit (.string [118, 97, 108, 117, 101, 32, 111, 117, 116, 32, 111, 102, 32, 114, 97, 110, 103, 101])]))
def laid_strconv_ErrSyntax {H : Type} : DataW H := .iface "*errors.errorString" (.ptr (.agg [.lit (.string [105, 110, 118, 97, 108, 105, 100, 32, 115, 121, 110, 116, 97, 120])]))

/-- 'zzlaws_internal_npy_b1.FnShapeStringSpec': WHATEVER THE INPUT: true; the input reads as it did. -/
def fnShapeStringSpecSpec : ChangeSpec := { name := "fnShapeStringSpec", fn := fun _ => fun
  | [d] => { results := [.lit (.bool true)], args := [d] }
  | _ => none }
def fnShapeStringSpecRow : OpenClaim := { program := "qxb6601097adoor", sum := "78ac2941eea281bc9851542b733bd9f1925854149532cebebab67baf1c1acbc6", func := "example.com/veilseek/veilseek/zzlaws_internal_npy_b1.FnShapeStringSpec", spec := "fnShapeStringSpec", inPlace := ["internal/abi.NoEscape", "internal/bytealg.MakeNoZero"], named := ["internal/strconv.uint64pow10", "math/bits.deBruijn32tab", "math/bits.deBruijn64tab"], apart := false, laid := [("math/bits.deBruijn32tab", laid_math_bits_deBruijn32tab), ("math/bits.deBruijn64tab", laid_math_bits_deBruijn64tab), ("internal/strconv.uint64pow10", laid_internal_strconv_uint64pow10)] }
def FnShapeStringSpecSaid : Prop := fnShapeStringSpecRow.holds Tryd.pinned (OpenSpec.ofChange fnShapeStringSpecSpec)

/-- ITS FALSE NEIGHBOUR: 'it returns false'. Refute it at one input. -/
def fnShapeStringSpecWrong : ChangeSpec := { name := "fnShapeStringSpec", fn := fun _ => fun
  | [d] => { results := [.lit (.bool false)], args := [d] }
  | _ => none }
def FnShapeStringSpecWrongFalsely : Prop := fnShapeStringSpecRow.holds Tryd.pinned (OpenSpec.ofChange fnShapeStringSpecWrong)

/-- 'zzlaws_internal_npy_b1.FnShapeStringTupleRoundTrip': WHATEVER THE INPUT: true; the input reads as it did. -/
def fnShapeStringTupleRoundTripSpec : ChangeSpec := { name := "fnShapeStringTupleRoundTrip", fn := fun _ => fun
  | [d] => { results := [.lit (.bool true)], args := [d] }
  | _ => none }
def fnShapeStringTupleRoundTripRow : OpenClaim := { program := "qxb6601097adoor", sum := "78ac2941eea281bc9851542b733bd9f1925854149532cebebab67baf1c1acbc6", func := "example.com/veilseek/veilseek/zzlaws_internal_npy_b1.FnShapeStringTupleRoundTrip", spec := "fnShapeStringTupleRoundTrip", inPlace := ["internal/abi.NoEscape", "internal/bytealg.MakeNoZero", "internal/bytealg.IndexByteString"], named := ["internal/strconv.uint64pow10", "math/bits.deBruijn32tab", "math/bits.deBruijn64tab", "strconv.ErrSyntax", "strconv.ErrRange"], apart := false, laid := [("math/bits.deBruijn32tab", laid_math_bits_deBruijn32tab), ("math/bits.deBruijn64tab", laid_math_bits_deBruijn64tab), ("internal/strconv.uint64pow10", laid_internal_strconv_uint64pow10), ("strconv.ErrRange", laid_strconv_ErrRange), ("strconv.ErrSyntax", laid_strconv_ErrSyntax)] }
def FnShapeStringTupleRoundTripSaid : Prop := fnShapeStringTupleRoundTripRow.holds Tryd.pinned (OpenSpec.ofChange fnShapeStringTupleRoundTripSpec)

/-- ITS FALSE NEIGHBOUR: 'it returns false'. Refute it at one input. -/
def fnShapeStringTupleRoundTripWrong : ChangeSpec := { name := "fnShapeStringTupleRoundTrip", fn := fun _ => fun
  | [d] => { results := [.lit (.bool false)], args := [d] }
  | _ => none }
def FnShapeStringTupleRoundTripWrongFalsely : Prop := fnShapeStringTupleRoundTripRow.holds Tryd.pinned (OpenSpec.ofChange fnShapeStringTupleRoundTripWrong)

/-- 'zzlaws_internal_npy_b1.FnShapeStringInjective': WHATEVER THE INPUT: true; the input reads as it did. -/
def fnShapeStringInjectiveSpec : ChangeSpec := { name := "fnShapeStringInjective", fn := fun _ => fun
  | [d1, d2] => { results := [.lit (.bool true)], args := [d1, d2] }
  | _ => none }
def fnShapeStringInjectiveRow : OpenClaim := { program := "qxb6601097adoor", sum := "78ac2941eea281bc9851542b733bd9f1925854149532cebebab67baf1c1acbc6", func := "example.com/veilseek/veilseek/zzlaws_internal_npy_b1.FnShapeStringInjective", spec := "fnShapeStringInjective", inPlace := ["internal/abi.NoEscape", "internal/bytealg.MakeNoZero"], named := ["internal/strconv.uint64pow10", "math/bits.deBruijn32tab", "math/bits.deBruijn64tab"], apart := false, laid := [("math/bits.deBruijn32tab", laid_math_bits_deBruijn32tab), ("math/bits.deBruijn64tab", laid_math_bits_deBruijn64tab), ("internal/strconv.uint64pow10", laid_internal_strconv_uint64pow10)] }
def FnShapeStringInjectiveSaid : Prop := fnShapeStringInjectiveRow.holds Tryd.pinned (OpenSpec.ofChange fnShapeStringInjectiveSpec)

/-- ITS FALSE NEIGHBOUR: 'it returns false'. Refute it at one input. -/
def fnShapeStringInjectiveWrong : ChangeSpec := { name := "fnShapeStringInjective", fn := fun _ => fun
  | [d1, d2] => { results := [.lit (.bool false)], args := [d1, d2] }
  | _ => none }
def FnShapeStringInjectiveWrongFalsely : Prop := fnShapeStringInjectiveRow.holds Tryd.pinned (OpenSpec.ofChange fnShapeStringInjectiveWrong)

/-- 'zzlaws_internal_npy_b1.FnTupleSpec': WHATEVER THE INPUT: true; the input reads as it did. -/
def fnTupleSpecSpec : ChangeSpec := { name := "fnTupleSpec", fn := fun _ => fun
  | [d1, d2] => { results := [.lit (.bool true)], args := [d1, d2] }
  | _ => none }
def fnTupleSpecRow : OpenClaim := { program := "qxb6601097adoor", sum := "78ac2941eea281bc9851542b733bd9f1925854149532cebebab67baf1c1acbc6", func := "example.com/veilseek/veilseek/zzlaws_internal_npy_b1.FnTupleSpec", spec := "fnTupleSpec", inPlace := ["internal/bytealg.IndexByteString"], named := ["strconv.ErrSyntax", "strconv.ErrRange", "internal/strconv.uint64pow10", "math/bits.deBruijn32tab", "math/bits.deBruijn64tab"], apart := false, laid := [("math/bits.deBruijn32tab", laid_math_bits_deBruijn32tab), ("math/bits.deBruijn64tab", laid_math_bits_deBruijn64tab), ("internal/strconv.uint64pow10", laid_internal_strconv_uint64pow10), ("strconv.ErrRange", laid_strconv_ErrRange), ("strconv.ErrSyntax", laid_strconv_ErrSyntax)] }
def FnTupleSpecSaid : Prop := fnTupleSpecRow.holds Tryd.pinned (OpenSpec.ofChange fnTupleSpecSpec)

/-- ITS FALSE NEIGHBOUR: 'it returns false'. Refute it at one input. -/
def fnTupleSpecWrong : ChangeSpec := { name := "fnTupleSpec", fn := fun _ => fun
  | [d1, d2] => { results := [.lit (.bool false)], args := [d1, d2] }
  | _ => none }
def FnTupleSpecWrongFalsely : Prop := fnTupleSpecRow.holds Tryd.pinned (OpenSpec.ofChange fnTupleSpecWrong)

/-- 'zzlaws_internal_npy_b1.FnTupleLocal': WHATEVER THE INPUT: true; the input reads as it did. -/
def fnTupleLocalSpec : ChangeSpec := { name := "fnTupleLocal", fn := fun _ => fun
  | [d1, d2, d3] => { results := [.lit (.bool true)], args := [d1, d2, d3] }
  | _ => none }
def fnTupleLocalRow : OpenClaim := { program := "qxb6601097adoor", sum := "78ac2941eea281bc9851542b733bd9f1925854149532cebebab67baf1c1acbc6", func := "example.com/veilseek/veilseek/zzlaws_internal_npy_b1.FnTupleLocal", spec := "fnTupleLocal", inPlace := ["internal/bytealg.IndexByteString"], named := ["strconv.ErrSyntax", "strconv.ErrRange", "internal/strconv.uint64pow10", "math/bits.deBruijn32tab", "math/bits.deBruijn64tab"], apart := false, laid := [("math/bits.deBruijn32tab", laid_math_bits_deBruijn32tab), ("math/bits.deBruijn64tab", laid_math_bits_deBruijn64tab), ("internal/strconv.uint64pow10", laid_internal_strconv_uint64pow10), ("strconv.ErrRange", laid_strconv_ErrRange), ("strconv.ErrSyntax", laid_strconv_ErrSyntax)] }
def FnTupleLocalSaid : Prop := fnTupleLocalRow.holds Tryd.pinned (OpenSpec.ofChange fnTupleLocalSpec)

/-- ITS FALSE NEIGHBOUR: 'it returns false'. Refute it at one input. -/
def fnTupleLocalWrong : ChangeSpec := { name := "fnTupleLocal", fn := fun _ => fun
  | [d1, d2, d3] => { results := [.lit (.bool false)], args := [d1, d2, d3] }
  | _ => none }
def FnTupleLocalWrongFalsely : Prop := fnTupleLocalRow.holds Tryd.pinned (OpenSpec.ofChange fnTupleLocalWrong)

end Rows
end Go.Proofs.Qxb6601097aDoor
