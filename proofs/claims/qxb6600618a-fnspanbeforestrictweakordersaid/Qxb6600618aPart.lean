import Derived.Test.Qxb6600618aRows
import Derived.WalkKit
import Derived.WalkSpells
import Derived.WalkLawsBesides
import Derived.ProofKit
import Derived.OpenShut
import Derived.ShutString
namespace Go.Proofs.Qxb6600618a
open Go.ChangeShapes Go.WideShapes Go.ChangeAt Go.RowKit

/-- partLen of a part of n bytes, n at most 2^20. -/
def plN (n : Nat) : Int := if n < 128 then n + 1 else if n < 16384 then n + 2 else n + 3
theorem plN_lo (n : Nat) (h : n < 128) : plN n = n + 1 := by unfold plN; rw [if_pos h]
theorem plN_mid (n : Nat) (h : ¬ n < 128) (h' : n < 16384) : plN n = n + 2 := by unfold plN; rw [if_neg h, if_pos h']
theorem plN_hi (n : Nat) (h : ¬ n < 16384) : plN n = n + 3 := by unfold plN; rw [if_neg (by omega), if_neg h]

theorem hidden {p : Prop} (h : p) : Hid p := h
theorem ret_int {k : IntKind} {a b : Int} (h : a = b) : Ending.returned (.int k a) = .returned (.int k b) := by rw [h]

set_option maxHeartbeats 400000 in
theorem partLen_any (s : ByteArray) (w : World) (hs : s.size ≤ 1048576) :
    Calls Try.prog 23 #[.string s] w fun e w' => e = .returned (.int .i64 (plN s.size)) ∧ w' = w := by
  go_enter Try.func23, Try.ntmps23
  go_wp2
  go_loop [3, 4] (fun n z => ∃ a b : Int, n = .int .i64 a ∧ z = .int .i64 b ∧ ((a = 1 + s.size ∧ b = s.size) ∨ (128 ≤ s.size ∧ a = 2 + s.size ∧ b = (s.size : Int) / 128) ∨ (16384 ≤ s.size ∧ a = 3 + s.size ∧ b = (s.size : Int) / 16384))) (fun _ z => (intOf z).toNat)
  case atStart => exact ⟨_, _, rfl, rfl, Or.inl ⟨rfl, rfl⟩⟩
  case round =>
    obtain ⟨a, b, rfl, rfl, hr⟩ := hrel
    have hb0 : 0 ≤ b := by omega
    have hb1 : b ≤ 1048576 := by omega
    have ha1 : a ≤ 1048579 := by omega
    have ha0 : 0 ≤ a := by omega
    by_cases hlt : 128 ≤ b
    · go_wp2
      go_round
      case rel => exact ⟨_, _, rfl, rfl, by omega⟩
      case measure => simp only [intOf]; omega
    · go_wp2
      go_ret
      exact ⟨ret_int (by unfold plN; rcases hr with ⟨rfl, rfl⟩ | ⟨_, rfl, rfl⟩ | ⟨_, rfl, rfl⟩ <;> split <;> (try split) <;> omega), rfl⟩

theorem zzPartLen_any (s : ByteArray) (w : World) (hs : s.size ≤ 1048576) :
    Calls Try.prog 10 #[.string s] w fun e w' => e = .returned (.int .i64 (plN s.size)) ∧ w' = w := by
  go_enter Try.func10, Try.ntmps10
  go_wp2_with (go_at_call 23; refine (partLen_any s _ hs).mono ?_; rintro e w' ⟨rfl, rfl⟩)
  go_ret
  exact ⟨rfl, rfl⟩

/-! ### The guards on total length -/
theorem guard1_no (s : ByteArray) (w : World) (hs : s.size ≤ maxLen) (h : 1048576 < s.size) :
    Calls Try.prog 9 #[.string s] w fun e w' => e = .returned (.bool false) ∧ w' = w := by
  unfold maxLen at hs
  go_enter Try.func9, Try.ntmps9
  go_wp2
  go_ret
  exact ⟨rfl, rfl⟩
theorem guard1_yes (s : ByteArray) (w : World) (h : s.size ≤ 1048576) :
    Calls Try.prog 9 #[.string s] w fun e w' => e = .returned (.bool true) ∧ w' = w := by
  go_enter Try.func9, Try.ntmps9
  go_wp2
  go_ret
  exact ⟨rfl, rfl⟩
/-- Two strings: the sum of their lengths is at most 2^20. -/
def fit2 (a b : ByteArray) : Bool := decide (a.size + b.size ≤ 1048576)
theorem guard2_any (a b : ByteArray) (w : World) (ha : a.size ≤ maxLen) (hb : b.size ≤ maxLen) :
    Calls Try.prog 11 #[.string a, .string b] w fun e w' => e = .returned (.bool (fit2 a b)) ∧ w' = w := by
  unfold maxLen at ha hb
  unfold fit2
  by_cases h1 : a.size ≤ 1048576
  · by_cases h2 : b.size ≤ 1048576
    · by_cases h3 : a.size + b.size ≤ 1048576
      · go_enter Try.func11, Try.ntmps11
        go_wp2
        go_ret
        exact ⟨by simp [h3], rfl⟩
      · go_enter Try.func11, Try.ntmps11
        go_wp2
        go_ret
        exact ⟨by simp [h3], rfl⟩
    · have h3 : ¬ a.size + b.size ≤ 1048576 := by omega
      go_enter Try.func11, Try.ntmps11
      go_wp2
      go_ret
      exact ⟨by simp [h3], rfl⟩
  · have h3 : ¬ a.size + b.size ≤ 1048576 := by omega
    go_enter Try.func11, Try.ntmps11
    go_wp2
    go_ret
    exact ⟨by simp [h3], rfl⟩

end Go.Proofs.Qxb6600618a
