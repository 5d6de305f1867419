/-
  THE WALK OF FnShapeStringSpec (seat Qxb6601097aDoor).
-/
import Derived.Test.Qxb6601097aDoorModel
namespace Go.Proofs.Qxb6601097aDoor
open Go.ChangeShapes Go.WideShapes Go.ChangeAt Go.RowKit Go.Joins

theorem model_nil (a : Option Addr) (c : Nat) (w : World) :
    Calls Tryd.prog 11 #[.slice a 0 c] w fun e w' => e = .returned (.string ⟨(shapeL []).toArray⟩) ∧ Below w.heap.size w w' := by
  obtain ⟨i0, hi, hz0, hz1, hz2⟩ := info_parts info5
  go_enter Tryd.func11, Tryd.ntmps11
  go_wp2
  go_loopw [3, 4] (fun sv si wr => si = .int .i64 0 ∧ Own w.heap.size wr sv (acc [] 0) ∧ Below w.heap.size w wr) (fun _ _ _ => 0)
  case atStart => exact ⟨rfl, own_lit w, below_alloc1 _ _⟩
  case round =>
    obtain ⟨rfl, hown, hbel⟩ := hrel
    have HO := hidden hown
    have HB := hidden hbel
    have HLen := hidden (show (acc [] 0).length ≤ 3014657 by rw [acc_zero]; simp)
    clear hown hbel
    have HA := hidden (acc_not [] (by simp))
    simp only [List.length_nil] at HA
    generalize acc [] 0 = L at HO HLen HA
    go_wp2_with (at_builtin; refine wpList_append_own _ rfl (.tmp 30) (.tmp 31) 26 rfl w.heap.size 5 i0 (.int .u8 0) 1 1 Tryd.underlying26 hi hz0 hz1 hz2 rfl (by decide) _ _ _ rfl (World.ownsRow.alloc HO.out _) ⟨_, 0, none⟩ 1 1 [.int .u8 41] rfl rfl ?e1 ?e2 ?e3 ?e4 ?e5 ?_)
    case e1 => exact one_new _ _ _ rfl
    case e2 => exact Lib.byteCells_one [41]
    case e3 => have h1 := HLen.out; unfold maxLen; omega
    case e4 => have h1 := HLen.out; omega
    case e5 => have := HB.out.size; simp; omega
    intro v2 w2 hown2 hgrow2 _
    have HR2 := hidden (own_app (m := [41]) HO.out (HB.out.alloc HB.out.size _) (by have := HB.out.size; simp; omega) hown2 hgrow2)
    clear hown2 hgrow2
    rw [HA.out] at HR2
    obtain ⟨g2, c2, rfl⟩ := HR2.out.1.form (by rw [← HA.out]; simp)
    have hconv := conv_own HR2.out.1
    go_wp2
    go_ret
    exact ⟨rfl, HR2.out.2⟩

/-- zzShapeModel. -/
theorem model_any (v : Value) (xs : List Int) (w : World) (hl : xs.length ≤ 131072) (hx : In64s xs) (h : IsInts w v xs) :
    Calls Tryd.prog 11 #[v] w fun e w' => e = .returned (.string ⟨(shapeL xs).toArray⟩) ∧ Below w.heap.size w w' := by
  rcases h with ⟨a, c, rfl, rfl⟩ | ⟨b, o, c, rfl, hc, hb, hcell⟩
  · exact model_nil a c w
  · exact model_some b o c xs w hl hb hx hcell

set_option maxRecDepth 100000 in
theorem guard8_any (a : Option Addr) (n c : Nat) (w : World) (hn : n ≤ maxLen) :
    Calls Tryd.prog 8 #[.slice a n c] w fun e w' => e = .returned (.bool (decide (n ≤ 1048576))) ∧ w' = w := by
  unfold maxLen at hn
  by_cases h1 : n ≤ 1048576
  · go_enter Tryd.func8, Tryd.ntmps8
    go_wp2
    go_ret
    exact ⟨by simp [h1], rfl⟩
  · go_enter Tryd.func8, Tryd.ntmps8
    go_wp2
    go_ret
    exact ⟨by simp [h1], rfl⟩

theorem IsInts.form' {w : World} {v : Value} {xs : List Int} (h : IsInts w v xs) : ∃ a c, v = .slice a xs.length c := by
  rcases h with ⟨a, c, rfl, rfl⟩ | ⟨b, o, c, rfl, _⟩ <;> exact ⟨_, _, rfl⟩

set_option maxRecDepth 100000 in
theorem spec_big (a : Option Addr) (n c : Nat) (w : World) (hn : n ≤ maxLen) (hb : 131072 < n) :
    Calls Tryd.prog 3 #[.slice a n c] w fun e w' => e = .returned (.bool true) ∧ Below w.heap.size w w' := by
  have HG := hidden (guard8_any a n c w hn)
  by_cases h : n ≤ 1048576
  · rw [show decide (n ≤ 1048576) = true by simp [h]] at HG
    clear hn
    go_enter Tryd.func3, Tryd.ntmps3
    go_wp2_with fail
    refine HG.out.mono ?_
    rintro e w1 ⟨rfl, rfl⟩
    go_wp2
    go_ret
    exact ⟨rfl, Below.refl _ _⟩
  · rw [show decide (n ≤ 1048576) = false by simp [h]] at HG
    clear hn hb h
    go_enter Tryd.func3, Tryd.ntmps3
    go_wp2_with fail
    refine HG.out.mono ?_
    rintro e w1 ⟨rfl, rfl⟩
    go_wp2
    go_ret
    exact ⟨rfl, Below.refl _ _⟩

set_option maxRecDepth 100000 in
theorem spec_small (v : Value) (xs : List Int) (w : World) (hs : xs.length ≤ 131072) (h1 : IsInts w v xs) (hx : In64s xs)
    (htab : Lib.TabBelow Tryd.prog w.heap.size w Tryd.powName .u64 Lib.pow10Tab) :
    Calls Tryd.prog 3 #[v] w fun e w' => e = .returned (.bool true) ∧ Below w.heap.size w w' := by
  obtain ⟨a1, c1, rfl⟩ := h1.form'
  have HG := hidden (guard8_any a1 xs.length c1 w (by unfold maxLen; omega))
  rw [show decide (xs.length ≤ 1048576) = true by simp; omega] at HG
  have HC1 := hidden (clone_any _ xs w (by omega) h1)
  have HX := hidden hx
  have HT := hidden htab
  clear h1 hx htab
  go_enter Tryd.func3, Tryd.ntmps3
  go_wp2_with fail
  refine HG.out.mono ?_
  rintro e w0 ⟨rfl, rfl⟩
  go_wp2_with fail
  refine HC1.out.mono ?_
  rintro e w1 ⟨u1, rfl, hu1, hb1⟩
  obtain ⟨b1, d1, rfl⟩ := hu1.form'
  have HS1 := hidden (zzShape_any _ xs w1 (by omega) HX.out (Lib.tabBelow_of_tabIs (HT.out w1 hb1)) hu1)
  have HU1 := hidden hu1
  have HB1 := hidden hb1
  clear hu1 hb1
  go_wp2_with fail
  refine HS1.out.mono ?_
  rintro e w2 ⟨rfl, hb2⟩
  have HM := hidden (model_any _ xs w2 (by omega) HX.out (HU1.out.below hb2))
  have HB2 := hidden (HB1.out.trans (hb2.mono HB1.out.size))
  clear hb2
  go_wp2_with fail
  refine HM.out.mono ?_
  rintro e w3 ⟨rfl, hb3⟩
  have HB3 := hidden (HB2.out.trans (hb3.mono HB2.out.size))
  clear hb3
  go_wp2
  go_ret
  exact ⟨rfl, HB3.out⟩

/-- THE LAW's WALK. -/
theorem law_spec (v : Value) (xs : List Int) (w : World) (m1 : xs.length ≤ maxLen) (h1 : IsInts w v xs) (hx : In64s xs)
    (htab : Lib.TabBelow Tryd.prog w.heap.size w Tryd.powName .u64 Lib.pow10Tab) :
    Calls Tryd.prog 3 #[v] w fun e w' => e = .returned (.bool true) ∧ Below w.heap.size w w' := by
  by_cases hs : xs.length ≤ 131072
  · exact spec_small v xs w hs h1 hx htab
  · obtain ⟨a1, c1, rfl⟩ := h1.form'
    exact spec_big a1 _ c1 w m1 (by omega)
end Go.Proofs.Qxb6601097aDoor
