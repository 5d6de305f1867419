/-
  WHAT THE ROW's CONDITION GIVES THE WALKS (the table of the powers of ten), AND A START THAT MEETS IT (seat Qxb6601097aDoor).
-/
import Derived.Test.Qxb6601097aDoorShape
import Derived.LaidMore
import Derived.Stop.Joined
import Derived.Lib.LaidTab
import Derived.Stop.LaidErr
namespace Go.Proofs.Qxb6601097aDoor
open Go.ChangeShapes Go.WideShapes Go.ChangeAt Go.RowKit

/-- The three listed tables, as the rows list them. -/
def laid3 : List (String × DataW Unit) := Rows.fnShapeStringSpecRow.laid
theorem laid3_inj : Rows.fnShapeStringInjectiveRow.laid = laid3 := rfl

theorem door_met (os : Os) (args : Array Value) : laidMetH Tryd.prog laid3 ((World.doorLaid Tryd.prog 62 os).forCall (fun _ _ => 0) ⟨#[], args, []⟩).memory :=
  laidMetH_of_parts3 (fuel := 8) (laidMet_of_run' 8 (by kernel_rfl) (by kernel_rfl)) (by kernel_rfl) (by kernel_rfl)

theorem pow_global : ∃ g t e n, Tryd.prog.globalNamed Tryd.powName = some g ∧ (Tryd.prog.globals[g]?).map (·.type) = some t ∧ Tryd.prog.underlying t = some (.array n e) ∧ Tryd.prog.underlying e = some (.int .u64) ∧ Tryd.prog.cellsOf e = 1 ∧ Tryd.prog.cellsOf t = n :=
  ⟨0, 78, 48, 20, by kernel_rfl, by kernel_rfl, by kernel_rfl, by kernel_rfl, by kernel_rfl, by kernel_rfl⟩

theorem tab_of_laid {W : World} (h : laidMetH Tryd.prog laid3 W) : Lib.TabBelow Tryd.prog W.heap.size W Tryd.powName .u64 Lib.pow10Tab := by
  rw [MakeChecks.laidMetH_plain _ _ _ (by kernel_rfl)] at h
  obtain ⟨g, t, e, n, hg, ht, hu, he, hc, hn⟩ := pow_global
  have h0 : laidMet Tryd.prog ((Rows.fnShapeStringSpecRow.named.getD 1 Tryd.powName, Rows.laid_math_bits_deBruijn32tab) :: (Rows.fnShapeStringSpecRow.named.getD 2 Tryd.powName, Rows.laid_math_bits_deBruijn64tab) :: [(Tryd.powName, Lib.tabData .u64 Lib.pow10Tab)]) W := h
  have h1 := laidMet.tail h0
  have h2 := laidMet.tail h1
  exact Lib.tabBelow_of_tabIs (Lib.tabIs_of_head hg ht hu he hc hn h2)
end Go.Proofs.Qxb6601097aDoor
