/-
  THE WALKS OF THE TWO LAWS OVER partLen (seat Qxb6600618a).
-/
import Derived.Test.Qxb6600618aPart
namespace Go.Proofs.Qxb6600618a
open Go.ChangeShapes Go.WideShapes Go.ChangeAt Go.RowKit

set_option maxRecDepth 100000 in
theorem law_table (a0 : ByteArray) (w0 : a0.size ≤ maxLen) (w : World) :
    Calls Try.prog 3 #[.string a0] w fun e w' => e = .returned (.bool true) ∧ Grown w w' := by
  by_cases h : a0.size ≤ 1048576
  · clear w0
    by_cases h1 : a0.size < 128
    · have ee := plN_lo _ h1
      go_enter Try.func3, Try.ntmps3
      go_wp2_with (first | (go_at_call 9; refine (guard1_yes a0 _ h).mono ?_; rintro e w' ⟨rfl, rfl⟩) | (go_at_call 10; refine (zzPartLen_any a0 _ h).mono ?_; rintro e w' ⟨rfl, rfl⟩))
      go_ret
      exact ⟨rfl, Grown.refl _⟩
    · by_cases h2 : a0.size < 16384
      · have ee := plN_mid _ h1 h2
        go_enter Try.func3, Try.ntmps3
        go_wp2_with (first | (go_at_call 9; refine (guard1_yes a0 _ h).mono ?_; rintro e w' ⟨rfl, rfl⟩) | (go_at_call 10; refine (zzPartLen_any a0 _ h).mono ?_; rintro e w' ⟨rfl, rfl⟩))
        go_ret
        exact ⟨rfl, Grown.refl _⟩
      · have ee := plN_hi _ h2
        go_enter Try.func3, Try.ntmps3
        go_wp2_with (first | (go_at_call 9; refine (guard1_yes a0 _ h).mono ?_; rintro e w' ⟨rfl, rfl⟩) | (go_at_call 10; refine (zzPartLen_any a0 _ h).mono ?_; rintro e w' ⟨rfl, rfl⟩))
        go_ret
        exact ⟨rfl, Grown.refl _⟩
  · have hg := guard1_no a0 w w0 (by omega)
    go_enter Try.func3, Try.ntmps3
    go_wp2_with (go_at_call 9; refine hg.mono ?_; rintro e w' ⟨rfl, rfl⟩)
    go_ret
    exact ⟨rfl, Grown.refl _⟩

theorem plN_mono (a b : Nat) (h : a < b) : plN a < plN b := by
  unfold plN; split <;> split <;> (try split) <;> (try split) <;> omega

set_option maxRecDepth 100000 in
theorem law_ordered (a0 : ByteArray) (a1 : ByteArray) (w0 : a0.size ≤ maxLen) (w1 : a1.size ≤ maxLen) (w : World) :
    Calls Try.prog 4 #[.string a0, .string a1] w fun e w' => e = .returned (.bool true) ∧ Grown w w' := by
  have hg := guard2_any a0 a1 w w0 w1
  by_cases h : a0.size + a1.size ≤ 1048576
  · have hf : fit2 a0 a1 = true := by simp [fit2, h]
    have h0 : a0.size ≤ 1048576 := by omega
    have h1 : a1.size ≤ 1048576 := by omega
    clear w0 w1
    rw [hf] at hg
    clear hf
    have HG := hidden hg
    clear hg
    by_cases lt : a0.size < a1.size
    · have ee := plN_mono _ _ lt
      go_enter Try.func4, Try.ntmps4
      go_wp2_with fail
      refine HG.out.mono ?_
      rintro e w' ⟨rfl, rfl⟩
      go_wp2_with fail
      refine (zzPartLen_any a0 _ h0).mono ?_
      rintro e w' ⟨rfl, rfl⟩
      go_wp2_with fail
      refine (zzPartLen_any a1 _ h1).mono ?_
      rintro e w' ⟨rfl, rfl⟩
      go_wp2
      go_ret
      exact ⟨rfl, Grown.refl _⟩
    · by_cases eq : a0.size = a1.size
      · have ee : (plN a0.size == plN a1.size) = true := by rw [eq]; simp
        have eq' : ((a0.size : Int) == a1.size) = true := by rw [eq]; simp
        have EQ := hidden eq
        clear eq
        go_enter Try.func4, Try.ntmps4
        go_wp2_with fail
        refine HG.out.mono ?_
        rintro e w' ⟨rfl, rfl⟩
        go_wp2_with fail
        refine (zzPartLen_any a0 _ h0).mono ?_
        rintro e w' ⟨rfl, rfl⟩
        go_wp2_with fail
        refine (zzPartLen_any a1 _ h1).mono ?_
        rintro e w' ⟨rfl, rfl⟩
        go_wp2
        go_ret
        exact ⟨rfl, Grown.refl _⟩
      · have ee := plN_mono a1.size a0.size (by omega)
        go_enter Try.func4, Try.ntmps4
        go_wp2_with fail
        refine HG.out.mono ?_
        rintro e w' ⟨rfl, rfl⟩
        go_wp2_with fail
        refine (zzPartLen_any a0 _ h0).mono ?_
        rintro e w' ⟨rfl, rfl⟩
        go_wp2_with fail
        refine (zzPartLen_any a1 _ h1).mono ?_
        rintro e w' ⟨rfl, rfl⟩
        go_wp2
        go_ret
        exact ⟨rfl, Grown.refl _⟩
  · have hf : fit2 a0 a1 = false := by simp [fit2]; omega
    rw [hf] at hg
    clear hf
    have HG := hidden hg
    clear hg
    go_enter Try.func4, Try.ntmps4
    go_wp2_with fail
    refine HG.out.mono ?_
    rintro e w' ⟨rfl, rfl⟩
    go_wp2
    go_ret
    exact ⟨rfl, Grown.refl _⟩
end Go.Proofs.Qxb6600618a
