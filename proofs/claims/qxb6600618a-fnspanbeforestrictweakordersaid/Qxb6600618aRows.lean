/-
  No cell of these rows narrows 'for every input' (looked for: loops, veiled, ifaces, maps, wideKeys, modest, calm, conditions, laid).
  DERIVED. THE GIVEN ROWS OF THIS SEAT. 6 by the template 'for every input the law returns true; each argument reads behind the call as it read before'; 0 by the template 'total and deterministic' (their statements: Qxb6600618aTotals.lean).
  GIVEN WITH THE SEED: the statements are not yours to turn. If you find one false, say at which input.
  Laid BY PROGRAM, IN A SANDBOX (cutbox-rows.mjs): the forced cells as the released guide's own fill.sh prints them over the translation 195ec7dd77519af7… (all of the seat's roots in one cut). By AI agents, Wed Nov 11 2026. No macro, syntax, notation, axiom, sorry.
-/
import Derived.Test.Qxb6600618aChecked
import GoSem.Claim
import GoSem.ClaimJoined
import GoSem.ClaimMapViews
import Derived.JoinedTies
import Derived.KernelRfl
namespace Go.Proofs.Qxb6600618a
/- THE CELL 'sum', in the pinned program and in every row, IS THE sha256 OF THE DUMP (.gsa) THAT Qxb6600618aProg.lean LOADS. Nothing in Lean hashes anything: it is a label: what it is worth is what the hold of that sum in a sandbox is worth. -/
noncomputable def Try.pinned : Pinned := { name := "qxb6600618a", sum := "195ec7dd77519af764713097cf5174bcddd767130a9042d775da4d1100c57bdd", checked := Try.checked }
namespace Rows
def none {H : Type} : Left H := { results := [], args := [] }

/-- 'zzlaws_root_b1.FnPartLenCaseTable': WHATEVER THE INPUT: true; the input reads as it did. -/
def fnPartLenCaseTableSpec : ChangeSpec := { name := "fnPartLenCaseTable", fn := fun _ => fun
  | [d] => { results := [.lit (.bool true)], args := [d] }
  | _ => none }
def fnPartLenCaseTableRow : OpenClaim := { program := "qxb6600618a", sum := "195ec7dd77519af764713097cf5174bcddd767130a9042d775da4d1100c57bdd", func := "example.com/lockpoint/lockpoint/zzlaws_root_b1.FnPartLenCaseTable", spec := "fnPartLenCaseTable", apart := false }
def FnPartLenCaseTableSaid : Prop := fnPartLenCaseTableRow.holds Try.pinned (OpenSpec.ofChange fnPartLenCaseTableSpec)

/-- ITS FALSE NEIGHBOUR: 'it returns false'. Refute it at one input. -/
def fnPartLenCaseTableWrong : ChangeSpec := { name := "fnPartLenCaseTable", fn := fun _ => fun
  | [d] => { results := [.lit (.bool false)], args := [d] }
  | _ => none }
def FnPartLenCaseTableWrongFalsely : Prop := fnPartLenCaseTableRow.holds Try.pinned (OpenSpec.ofChange fnPartLenCaseTableWrong)

/-- 'zzlaws_root_b1.FnPartLenOrderedByLength': WHATEVER THE INPUT: true; the input reads as it did. -/
def fnPartLenOrderedByLengthSpec : ChangeSpec := { name := "fnPartLenOrderedByLength", fn := fun _ => fun
  | [d1, d2] => { results := [.lit (.bool true)], args := [d1, d2] }
  | _ => none }
def fnPartLenOrderedByLengthRow : OpenClaim := { program := "qxb6600618a", sum := "195ec7dd77519af764713097cf5174bcddd767130a9042d775da4d1100c57bdd", func := "example.com/lockpoint/lockpoint/zzlaws_root_b1.FnPartLenOrderedByLength", spec := "fnPartLenOrderedByLength", apart := false }
def FnPartLenOrderedByLengthSaid : Prop := fnPartLenOrderedByLengthRow.holds Try.pinned (OpenSpec.ofChange fnPartLenOrderedByLengthSpec)

/-- ITS FALSE NEIGHBOUR: 'it returns false'. Refute it at one input. -/
def fnPartLenOrderedByLengthWrong : ChangeSpec := { name := "fnPartLenOrderedByLength", fn := fun _ => fun
  | [d1, d2] => { results := [.lit (.bool false)], args := [d1, d2] }
  | _ => none }
def FnPartLenOrderedByLengthWrongFalsely : Prop := fnPartLenOrderedByLengthRow.holds Try.pinned (OpenSpec.ofChange fnPartLenOrderedByLengthWrong)

/-- 'zzlaws_root_b1.FnBoundBeforeIsByteOrder': WHATEVER THE INPUT: true; the input reads as it did. -/
def fnBoundBeforeIsByteOrderSpec : ChangeSpec := { name := "fnBoundBeforeIsByteOrder", fn := fun _ => fun
  | [d1, d2] => { results := [.lit (.bool true)], args := [d1, d2] }
  | _ => none }
def fnBoundBeforeIsByteOrderRow : OpenClaim := { program := "qxb6600618a", sum := "195ec7dd77519af764713097cf5174bcddd767130a9042d775da4d1100c57bdd", func := "example.com/lockpoint/lockpoint/zzlaws_root_b1.FnBoundBeforeIsByteOrder", spec := "fnBoundBeforeIsByteOrder", apart := false }
def FnBoundBeforeIsByteOrderSaid : Prop := fnBoundBeforeIsByteOrderRow.holds Try.pinned (OpenSpec.ofChange fnBoundBeforeIsByteOrderSpec)

/-- ITS FALSE NEIGHBOUR: 'it returns false'. Refute it at one input. -/
def fnBoundBeforeIsByteOrderWrong : ChangeSpec := { name := "fnBoundBeforeIsByteOrder", fn := fun _ => fun
  | [d1, d2] => { results := [.lit (.bool false)], args := [d1, d2] }
  | _ => none }
def FnBoundBeforeIsByteOrderWrongFalsely : Prop := fnBoundBeforeIsByteOrderRow.holds Try.pinned (OpenSpec.ofChange fnBoundBeforeIsByteOrderWrong)

/-- 'zzlaws_root_b1.FnBoundBeforeStrictTotalOrder': WHATEVER THE INPUT: true; the input reads as it did. -/
def fnBoundBeforeStrictTotalOrderSpec : ChangeSpec := { name := "fnBoundBeforeStrictTotalOrder", fn := fun _ => fun
  | [d1, d2, d3] => { results := [.lit (.bool true)], args := [d1, d2, d3] }
  | _ => none }
def fnBoundBeforeStrictTotalOrderRow : OpenClaim := { program := "qxb6600618a", sum := "195ec7dd77519af764713097cf5174bcddd767130a9042d775da4d1100c57bdd", func := "example.com/lockpoint/lockpoint/zzlaws_root_b1.FnBoundBeforeStrictTotalOrder", spec := "fnBoundBeforeStrictTotalOrder", apart := false }
def FnBoundBeforeStrictTotalOrderSaid : Prop := fnBoundBeforeStrictTotalOrderRow.holds Try.pinned (OpenSpec.ofChange fnBoundBeforeStrictTotalOrderSpec)

/-- ITS FALSE NEIGHBOUR: 'it returns false'. Refute it at one input. -/
def fnBoundBeforeStrictTotalOrderWrong : ChangeSpec := { name := "fnBoundBeforeStrictTotalOrder", fn := fun _ => fun
  | [d1, d2, d3] => { results := [.lit (.bool false)], args := [d1, d2, d3] }
  | _ => none }
def FnBoundBeforeStrictTotalOrderWrongFalsely : Prop := fnBoundBeforeStrictTotalOrderRow.holds Try.pinned (OpenSpec.ofChange fnBoundBeforeStrictTotalOrderWrong)

/-- 'zzlaws_root_b1.FnSpanBeforeIsIndexOrder': WHATEVER THE INPUT: true; the input reads as it did. -/
def fnSpanBeforeIsIndexOrderSpec : ChangeSpec := { name := "fnSpanBeforeIsIndexOrder", fn := fun _ => fun
  | [d1, d2, d3, d4, d5, d6] => { results := [.lit (.bool true)], args := [d1, d2, d3, d4, d5, d6] }
  | _ => none }
def fnSpanBeforeIsIndexOrderRow : OpenClaim := { program := "qxb6600618a", sum := "195ec7dd77519af764713097cf5174bcddd767130a9042d775da4d1100c57bdd", func := "example.com/lockpoint/lockpoint/zzlaws_root_b1.FnSpanBeforeIsIndexOrder", spec := "fnSpanBeforeIsIndexOrder", apart := false }
def FnSpanBeforeIsIndexOrderSaid : Prop := fnSpanBeforeIsIndexOrderRow.holds Try.pinned (OpenSpec.ofChange fnSpanBeforeIsIndexOrderSpec)

/-- ITS FALSE NEIGHBOUR: 'it returns false'. Refute it at one input. -/
def fnSpanBeforeIsIndexOrderWrong : ChangeSpec := { name := "fnSpanBeforeIsIndexOrder", fn := fun _ => fun
  | [d1, d2, d3, d4, d5, d6] => { results := [.lit (.bool false)], args := [d1, d2, d3, d4, d5, d6] }
  | _ => none }
def FnSpanBeforeIsIndexOrderWrongFalsely : Prop := fnSpanBeforeIsIndexOrderRow.holds Try.pinned (OpenSpec.ofChange fnSpanBeforeIsIndexOrderWrong)

/-- 'zzlaws_root_b1.FnSpanBeforeStrictWeakOrder': WHATEVER THE INPUT: true; the input reads as it did. -/
def fnSpanBeforeStrictWeakOrderSpec : ChangeSpec := { name := "fnSpanBeforeStrictWeakOrder", fn := fun _ => fun
  | [d1, d2, d3] => { results := [.lit (.bool true)], args := [d1, d2, d3] }
  | _ => none }
def fnSpanBeforeStrictWeakOrderRow : OpenClaim := { program := "qxb6600618a", sum := "195ec7dd77519af764713097cf5174bcddd767130a9042d775da4d1100c57bdd", func := "example.com/lockpoint/lockpoint/zzlaws_root_b1.FnSpanBeforeStrictWeakOrder", spec := "fnSpanBeforeStrictWeakOrder", apart := false }
def FnSpanBeforeStrictWeakOrderSaid : Prop := fnSpanBeforeStrictWeakOrderRow.holds Try.pinned (OpenSpec.ofChange fnSpanBeforeStrictWeakOrderSpec)

/-- ITS FALSE NEIGHBOUR: 'it returns false'. Refute it at one input. -/
def fnSpanBeforeStrictWeakOrderWrong : ChangeSpec := { name := "fnSpanBeforeStrictWeakOrder", fn := fun _ => fun
  | [d1, d2, d3] => { results := [.lit (.bool false)], args := [d1, d2, d3] }
  | _ => none }
def FnSpanBeforeStrictWeakOrderWrongFalsely : Prop := fnSpanBeforeStrictWeakOrderRow.holds Try.pinned (OpenSpec.ofChange fnSpanBeforeStrictWeakOrderWrong)

end Rows
end Go.Proofs.Qxb6600618a
