/-
  A SLICE OF int64 AS AN ARGUMENT, OPENED (seat Qxb6601097aDoor).
-/
import Derived.Test.Qxb6601097aDoorShape
import Derived.OpenShut
namespace Go.Proofs.Qxb6601097aDoor
open Go.ChangeShapes Go.WideShapes Go.ChangeAt Go.RowKit

theorem laidOut : laidOutB Tryd.prog = true := by kernel_rfl
theorem own : ownKnob Tryd.prog.godebug = none := by kernel_rfl
theorem cells2 : Tryd.prog.cellsOf 2 = 1 := by kernel_rfl

theorem in64_of_wf {x : Int} (h : (Lit.int .i64 x).wf = true) : -9223372036854775808 ≤ x ∧ x ≤ 9223372036854775807 := by
  simp [Lit.wf, IntKind.min, IntKind.max, IntKind.signed, IntKind.bits] at h
  exact ⟨by omega, by omega⟩

theorem cell_lt {W : World} {a : Addr} {v : Value} (h : W.cell? a = some v) : a.block < W.heap.size := by
  apply Classical.byContradiction
  intro hn
  have : W.heap[a.block]? = none := by simp; omega
  simp [World.cell?, this] at h
theorem nomem {x : Int} {p : Prop} (h : x ∈ ([] : List Int)) : p := by cases h
theorem ints_open {H : Type} {enc : TypeId × Value → H} {W : World} {base : Nat} {sp : Nat → Bool} {held : Bool} {r : Reach} {b0 : Nat} {v : Value} {d : DataW H} {p : List MemPlace}
    (hv : Value.okWide Tryd.prog W r b0 22 v) (h : DataW.Trod enc Tryd.prog W base sp held 22 v d p) :
    ∃ xs : List Int, IsInts W v xs ∧ In64s xs ∧ xs.length ≤ maxLen := by
  obtain ⟨a, len, cap, rfl⟩ := okWide_slice Tryd.underlying22 hv
  obtain ⟨fuel, hf⟩ := h
  rcases open_ints Tryd.underlying22 Tryd.underlying2 cells2 hf with ⟨hcs, _⟩ | ⟨x, l, c, zs, hcs, _, hl, hm, hz, _, hcell, hwz⟩
  · simp [Value.cells] at hcs
    obtain ⟨rfl, rfl, rfl⟩ := hcs
    exact ⟨[], Or.inl ⟨_, _, rfl, rfl⟩, (fun x hx => nomem hx), Nat.zero_le _⟩
  · simp [Value.cells] at hcs
    obtain ⟨rfl, rfl, rfl⟩ := hcs
    have hz' : len ≤ zs.length := by rw [hz]; split <;> omega
    have hlen : (zs.take len).length = len := by rw [List.length_take]; omega
    refine ⟨zs.take len, ?_, (fun y hy => in64_of_wf (hwz y (List.mem_of_mem_take hy))), by omega⟩
    by_cases h0 : len = 0
    · subst h0; exact Or.inl ⟨_, _, rfl, by simp⟩
    · obtain ⟨b, off, rfl, hc⟩ := ints_at hcell (by omega)
      refine Or.inr ⟨b, off, cap, by rw [hlen], by omega, ?_, fun i hi => ?_⟩
      · have := hc 0 (by omega)
        exact cell_lt this
      · rw [hc i (by omega)]
        congr 2
        rw [List.getD_eq_getElem?_getD, List.getD_eq_getElem?_getD, List.getElem?_take, if_pos (by omega)]
end Go.Proofs.Qxb6601097aDoor
