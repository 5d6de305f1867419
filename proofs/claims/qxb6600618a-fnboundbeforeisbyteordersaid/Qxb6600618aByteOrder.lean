/-
  THE WALK OF FnBoundBeforeIsByteOrder (seat Qxb6600618a).
-/
import Derived.Test.Qxb6600618aBound
namespace Go.Proofs.Qxb6600618a
open Go.ChangeShapes Go.WideShapes Go.ChangeAt Go.RowKit
open Go.Op (bytesLess)

theorem guard2b_any (a b : ByteArray) (w : World) (ha : a.size ≤ maxLen) (hb : b.size ≤ maxLen) :
    Calls Try.prog 12 #[.string a, .string b] w fun e w' => e = .returned (.bool (fit2 a b)) ∧ w' = w := by
  unfold maxLen at ha hb
  unfold fit2
  by_cases h1 : a.size ≤ 1048576
  · by_cases h2 : b.size ≤ 1048576
    · by_cases h3 : a.size + b.size ≤ 1048576
      · go_enter Try.func12, Try.ntmps12
        go_wp2
        go_ret
        exact ⟨by simp [h3], rfl⟩
      · go_enter Try.func12, Try.ntmps12
        go_wp2
        go_ret
        exact ⟨by simp [h3], rfl⟩
    · have h3 : ¬ a.size + b.size ≤ 1048576 := by omega
      go_enter Try.func12, Try.ntmps12
      go_wp2
      go_ret
      exact ⟨by simp [h3], rfl⟩
  · have h3 : ¬ a.size + b.size ≤ 1048576 := by omega
    go_enter Try.func12, Try.ntmps12
    go_wp2
    go_ret
    exact ⟨by simp [h3], rfl⟩

/-- ZZBoundBefore at true heads: the order of bytes. -/
theorem zzBefore_hd (a b : ByteArray) (w : World) :
    Calls Try.prog 13 #[.int .u64 (hd a.data.toList 8 : Nat), .string a, .int .u64 (hd b.data.toList 8 : Nat), .string b] w fun e w' => e = .returned (.bool (bytesLess a.data.toList b.data.toList)) ∧ Kp w w' := by
  refine (zzBefore_any _ _ a b w).mono ?_
  rintro e w' ⟨rfl, hk⟩
  refine ⟨ret_bool ?_, hk⟩
  rw [Lib.toList_data, Lib.toList_data, bbB_hd]

set_option maxRecDepth 100000 in
theorem law_byteOrder (a0 : ByteArray) (a1 : ByteArray) (w0 : a0.size ≤ maxLen) (w1 : a1.size ≤ maxLen) (w : World) :
    Calls Try.prog 5 #[.string a0, .string a1] w fun e w' => e = .returned (.bool true) ∧ Grown w w' := by
  have hg := guard2b_any a0 a1 w w0 w1
  by_cases h : a0.size + a1.size ≤ 1048576
  · have hf : fit2 a0 a1 = true := by simp [fit2, h]
    have h0 : a0.size ≤ 1048576 := by omega
    have h1 : a1.size ≤ 1048576 := by omega
    clear w0 w1
    rw [hf] at hg
    clear hf
    have HG := hidden hg
    clear hg
    have HH := hidden (zzBefore_hd a0 a1)
    have HL := hidden (fun w => less_any a0 a1 w h0 h1)
    have HA := hidden (head_any a0)
    have HB := hidden (head_any a1)
    generalize bytesLess a0.data.toList a1.data.toList = r at HH HL
    generalize hd a0.data.toList 8 = x at HA HH
    generalize hd a1.data.toList 8 = y at HB HH
    go_enter Try.func5, Try.ntmps5
    go_wp2_with fail
    refine HG.out.mono ?_
    rintro e w' ⟨rfl, rfl⟩
    go_wp2_with fail
    refine (HA.out _).mono ?_
    rintro e w' ⟨rfl, rfl⟩
    go_wp2_with fail
    refine (HB.out _).mono ?_
    rintro e w' ⟨rfl, rfl⟩
    go_wp2_with fail
    refine (HH.out _).mono ?_
    rintro e w1 ⟨rfl, hk⟩
    go_wp2_with fail
    refine (HL.out _).mono ?_
    rintro e w2 ⟨rfl, n, rfl⟩
    go_wp2
    go_ret
    exact ⟨rfl, (hk.drewN n).grown⟩
  · have hf : fit2 a0 a1 = false := by simp [fit2]; omega
    rw [hf] at hg
    clear hf
    have HG := hidden hg
    clear hg
    go_enter Try.func5, Try.ntmps5
    go_wp2_with fail
    refine HG.out.mono ?_
    rintro e w' ⟨rfl, rfl⟩
    go_wp2
    go_ret
    exact ⟨rfl, Grown.refl _⟩
end Go.Proofs.Qxb6600618a
