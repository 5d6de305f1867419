/-
  THE WALK OF FnShapeStringInjective (seat Qxb6601097aDoor).
-/
import Derived.Test.Qxb6601097aDoorInj
namespace Go.Proofs.Qxb6601097aDoor
open Go.ChangeShapes Go.WideShapes Go.ChangeAt Go.RowKit Go.Joins

def fitL (n m : Nat) : Bool := decide (n + m ≤ 1048576)
set_option maxRecDepth 100000 in
theorem guard15_any (a1 a2 : Option Addr) (n m c1 c2 : Nat) (w : World) (hn : n ≤ maxLen) (hm : m ≤ maxLen) :
    Calls Tryd.prog 15 #[.slice a1 n c1, .slice a2 m c2] w fun e w' => e = .returned (.bool (fitL n m)) ∧ w' = w := by
  unfold maxLen at hn hm
  unfold fitL
  by_cases h1 : n ≤ 1048576
  · by_cases h2 : m ≤ 1048576
    · by_cases h3 : n + m ≤ 1048576
      · go_enter Tryd.func15, Tryd.ntmps15
        go_wp2
        go_ret
        exact ⟨by simp [h3], rfl⟩
      · go_enter Tryd.func15, Tryd.ntmps15
        go_wp2
        go_ret
        exact ⟨by simp [h3], rfl⟩
    · have h3 : ¬ n + m ≤ 1048576 := by omega
      go_enter Tryd.func15, Tryd.ntmps15
      go_wp2
      go_ret
      exact ⟨by simp [h3], rfl⟩
  · have h3 : ¬ n + m ≤ 1048576 := by omega
    go_enter Tryd.func15, Tryd.ntmps15
    go_wp2
    go_ret
    exact ⟨by simp [h3], rfl⟩

theorem IsInts.form {w : World} {v : Value} {xs : List Int} (h : IsInts w v xs) : ∃ a c, v = .slice a xs.length c := by
  rcases h with ⟨a, c, rfl, rfl⟩ | ⟨b, o, c, rfl, _⟩ <;> exact ⟨_, _, rfl⟩

set_option maxRecDepth 100000 in
theorem inj_big (a1 a2 : Option Addr) (n m c1 c2 : Nat) (w : World) (hn : n ≤ maxLen) (hm : m ≤ maxLen) (hf : fitL n m = false) :
    Calls Tryd.prog 5 #[.slice a1 n c1, .slice a2 m c2] w fun e w' => e = .returned (.bool true) ∧ Below w.heap.size w w' := by
  have HG := hidden (guard15_any a1 a2 n m c1 c2 w hn hm)
  rw [hf] at HG
  clear hn hm hf
  go_enter Tryd.func5, Tryd.ntmps5
  go_wp2_with fail
  refine HG.out.mono ?_
  rintro e w1 ⟨rfl, rfl⟩
  go_wp2
  go_ret
  exact ⟨rfl, Below.refl _ _⟩

set_option maxRecDepth 100000 in
theorem inj_mid (a1 a2 : Option Addr) (n m c1 c2 : Nat) (w : World) (hn : n + m ≤ 1048576) (hb : 131072 < n + m) :
    Calls Tryd.prog 5 #[.slice a1 n c1, .slice a2 m c2] w fun e w' => e = .returned (.bool true) ∧ Below w.heap.size w w' := by
  have HG := hidden (guard15_any a1 a2 n m c1 c2 w (by unfold maxLen; omega) (by unfold maxLen; omega))
  rw [show fitL n m = true by simp [fitL, hn]] at HG
  by_cases h1 : 131072 < n
  · go_enter Tryd.func5, Tryd.ntmps5
    go_wp2_with fail
    refine HG.out.mono ?_
    rintro e w1 ⟨rfl, rfl⟩
    go_wp2
    go_ret
    exact ⟨rfl, Below.refl _ _⟩
  · by_cases h2 : 131072 < m
    · go_enter Tryd.func5, Tryd.ntmps5
      go_wp2_with fail
      refine HG.out.mono ?_
      rintro e w1 ⟨rfl, rfl⟩
      go_wp2
      go_ret
      exact ⟨rfl, Below.refl _ _⟩
    · go_enter Tryd.func5, Tryd.ntmps5
      go_wp2_with fail
      refine HG.out.mono ?_
      rintro e w1 ⟨rfl, rfl⟩
      go_wp2
      go_ret
      exact ⟨rfl, Below.refl _ _⟩

set_option maxRecDepth 100000 in
theorem inj_small (v1 v2 : Value) (xs ys : List Int) (w : World) (hs : xs.length + ys.length ≤ 131072) (h1 : IsInts w v1 xs) (h2 : IsInts w v2 ys) (hx : In64s xs) (hy : In64s ys)
    (htab : Lib.TabBelow Tryd.prog w.heap.size w Tryd.powName .u64 Lib.pow10Tab) :
    Calls Tryd.prog 5 #[v1, v2] w fun e w' => e = .returned (.bool true) ∧ Below w.heap.size w w' := by
  obtain ⟨a1, c1, rfl⟩ := h1.form
  obtain ⟨a2, c2, rfl⟩ := h2.form
  have HG := hidden (guard15_any a1 a2 xs.length ys.length c1 c2 w (by unfold maxLen; omega) (by unfold maxLen; omega))
  rw [show fitL xs.length ys.length = true by simp [fitL]; omega] at HG
  have HC1 := hidden (clone_any _ xs w (by omega) h1)
  have HI2 := hidden h2
  have HX := hidden hx
  have HY := hidden hy
  have HT := hidden htab
  clear h1 h2 hx hy htab
  go_enter Tryd.func5, Tryd.ntmps5
  go_wp2_with fail
  refine HG.out.mono ?_
  rintro e w0 ⟨rfl, rfl⟩
  go_wp2_with fail
  refine HC1.out.mono ?_
  rintro e w1 ⟨u1, rfl, hu1, hb1⟩
  have HC2 := hidden (clone_any _ ys w1 (by omega) (HI2.out.below hb1))
  obtain ⟨b1, d1, rfl⟩ := hu1.form
  have HU1 := hidden hu1
  have HB1 := hidden hb1
  clear hu1 hb1
  go_wp2_with fail
  refine HC2.out.mono ?_
  rintro e w2 ⟨u2, rfl, hu2, hb2⟩
  have hB2 := HB1.out.trans (hb2.mono HB1.out.size)
  have HS1 := hidden (zzShape_any _ xs w2 (by omega) HX.out (Lib.tabBelow_of_tabIs (HT.out w2 hB2)) (HU1.out.below hb2))
  have HJ1 := hidden (HU1.out.below hb2)
  obtain ⟨b2, d2, rfl⟩ := hu2.form
  have HU2 := hidden hu2
  have HB2 := hidden hB2
  clear hu2 hb2 hB2
  go_wp2_with fail
  refine HS1.out.mono ?_
  rintro e w3 ⟨rfl, hb3⟩
  have hB3 := HB2.out.trans (hb3.mono HB2.out.size)
  have HS2 := hidden (zzShape_any _ ys w3 (by omega) HY.out (Lib.tabBelow_of_tabIs (HT.out w3 hB3)) (HU2.out.below hb3))
  have HK1 := hidden (HJ1.out.below hb3)
  have HK2 := hidden (HU2.out.below hb3)
  have HB3 := hidden hB3
  clear hb3 hB3
  go_wp2_with fail
  refine HS2.out.mono ?_
  rintro e w4 ⟨rfl, hb4⟩
  have HM := hidden (same_any _ _ xs ys w4 (by omega) (HK1.out.below hb4) (HK2.out.below hb4))
  have HB4 := hidden (HB3.out.trans (hb4.mono HB3.out.size))
  clear hb4
  have HF := hidden (show ((shapeL xs == shapeL ys) == decide (xs = ys)) = true by
    by_cases e : xs = ys
    · simp [e]
    · have e' : ¬ shapeL xs = shapeL ys := fun h => e (shape_inj _ _ h)
      simp [e, e'])
  go_wp2_with fail
  refine HM.out.mono ?_
  rintro e w5 ⟨rfl, n, rfl⟩
  go_wp2
  go_ret
  exact ⟨ret_bool HF.out, below_drewN HB4.out n⟩

/-- THE LAW's WALK. -/
theorem law_inj (v1 v2 : Value) (xs ys : List Int) (w : World) (m1 : xs.length ≤ maxLen) (m2 : ys.length ≤ maxLen) (h1 : IsInts w v1 xs) (h2 : IsInts w v2 ys) (hx : In64s xs) (hy : In64s ys)
    (htab : Lib.TabBelow Tryd.prog w.heap.size w Tryd.powName .u64 Lib.pow10Tab) :
    Calls Tryd.prog 5 #[v1, v2] w fun e w' => e = .returned (.bool true) ∧ Below w.heap.size w w' := by
  by_cases hs : xs.length + ys.length ≤ 131072
  · exact inj_small v1 v2 xs ys w hs h1 h2 hx hy htab
  · obtain ⟨a1, c1, rfl⟩ := h1.form
    obtain ⟨a2, c2, rfl⟩ := h2.form
    by_cases hb : xs.length + ys.length ≤ 1048576
    · exact inj_mid a1 a2 _ _ c1 c2 w hb (by omega)
    · exact inj_big a1 a2 _ _ c1 c2 w m1 m2 (by simp [fitL]; omega)
end Go.Proofs.Qxb6601097aDoor
