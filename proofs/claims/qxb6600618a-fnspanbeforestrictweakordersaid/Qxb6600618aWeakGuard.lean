/-
  THE GUARD OF FnSpanBeforeStrictWeakOrder (seat Qxb6600618a).
-/
import Derived.Test.Qxb6600618aSpan
import Derived.Lib.SmallJoins
namespace Go.Proofs.Qxb6600618a
open Go.ChangeShapes Go.WideShapes Go.ChangeAt Go.RowKit

/-- Six keys: the sum of their lengths is at most 2^20. -/
def fit6 (lk1 hk1 lk2 hk2 lk3 hk3 : ByteArray) : Bool := decide (lk1.size + hk1.size + lk2.size + hk2.size + lk3.size + hk3.size ≤ 1048576)

set_option maxRecDepth 100000 in
set_option maxHeartbeats 4000000 in
theorem guard6_any (l1 h1 l2 h2 l3 h3 : Int) (lk1 hk1 lk2 hk2 lk3 hk3 : ByteArray) (o1 o2 o3 : Bool) (w : World) (a1 : lk1.size ≤ maxLen) (a2 : hk1.size ≤ maxLen) (a3 : lk2.size ≤ maxLen) (a4 : hk2.size ≤ maxLen) (a5 : lk3.size ≤ maxLen) (a6 : hk3.size ≤ maxLen) :
    Calls Try.prog 20 #[.agg #[.int .u64 l1, .string lk1, .int .u64 h1, .string hk1, .bool o1], .agg #[.int .u64 l2, .string lk2, .int .u64 h2, .string hk2, .bool o2], .agg #[.int .u64 l3, .string lk3, .int .u64 h3, .string hk3, .bool o3]] w fun e w' => e = .returned (.bool (fit6 lk1 hk1 lk2 hk2 lk3 hk3)) ∧ Kp w w' := by
  unfold maxLen at a1 a2 a3 a4 a5 a6
  unfold fit6
  by_cases s0 : lk1.size ≤ 1048576
  · by_cases s1 : hk1.size ≤ 1048576
    · by_cases t1 : lk1.size + hk1.size ≤ 1048576
      · by_cases s2 : lk2.size ≤ 1048576
        · by_cases t2 : lk1.size + hk1.size + lk2.size ≤ 1048576
          · by_cases s3 : hk2.size ≤ 1048576
            · by_cases t3 : lk1.size + hk1.size + lk2.size + hk2.size ≤ 1048576
              · by_cases s4 : lk3.size ≤ 1048576
                · by_cases t4 : lk1.size + hk1.size + lk2.size + hk2.size + lk3.size ≤ 1048576
                  · by_cases s5 : hk3.size ≤ 1048576
                    · by_cases t5 : lk1.size + hk1.size + lk2.size + hk2.size + lk3.size + hk3.size ≤ 1048576
                      · have gg : lk1.size + hk1.size + lk2.size + hk2.size + lk3.size + hk3.size ≤ 1048576 := by omega
                        go_enter Try.func20, Try.ntmps20
                        go_wp2
                        go_ret
                        exact ⟨by simp [gg], (((Kp.refl _).alloc _ _).alloc _ _).alloc _ _⟩
                      · have gg : ¬ lk1.size + hk1.size + lk2.size + hk2.size + lk3.size + hk3.size ≤ 1048576 := by omega
                        go_enter Try.func20, Try.ntmps20
                        go_wp2
                        go_ret
                        exact ⟨by simp [gg], (((Kp.refl _).alloc _ _).alloc _ _).alloc _ _⟩
                    · have gg : ¬ lk1.size + hk1.size + lk2.size + hk2.size + lk3.size + hk3.size ≤ 1048576 := by omega
                      go_enter Try.func20, Try.ntmps20
                      go_wp2
                      go_ret
                      exact ⟨by simp [gg], (((Kp.refl _).alloc _ _).alloc _ _).alloc _ _⟩
                  · have gg : ¬ lk1.size + hk1.size + lk2.size + hk2.size + lk3.size + hk3.size ≤ 1048576 := by omega
                    go_enter Try.func20, Try.ntmps20
                    go_wp2
                    go_ret
                    exact ⟨by simp [gg], (((Kp.refl _).alloc _ _).alloc _ _).alloc _ _⟩
                · have gg : ¬ lk1.size + hk1.size + lk2.size + hk2.size + lk3.size + hk3.size ≤ 1048576 := by omega
                  go_enter Try.func20, Try.ntmps20
                  go_wp2
                  go_ret
                  exact ⟨by simp [gg], (((Kp.refl _).alloc _ _).alloc _ _).alloc _ _⟩
              · have gg : ¬ lk1.size + hk1.size + lk2.size + hk2.size + lk3.size + hk3.size ≤ 1048576 := by omega
                go_enter Try.func20, Try.ntmps20
                go_wp2
                go_ret
                exact ⟨by simp [gg], (((Kp.refl _).alloc _ _).alloc _ _).alloc _ _⟩
            · have gg : ¬ lk1.size + hk1.size + lk2.size + hk2.size + lk3.size + hk3.size ≤ 1048576 := by omega
              go_enter Try.func20, Try.ntmps20
              go_wp2
              go_ret
              exact ⟨by simp [gg], (((Kp.refl _).alloc _ _).alloc _ _).alloc _ _⟩
          · have gg : ¬ lk1.size + hk1.size + lk2.size + hk2.size + lk3.size + hk3.size ≤ 1048576 := by omega
            go_enter Try.func20, Try.ntmps20
            go_wp2
            go_ret
            exact ⟨by simp [gg], (((Kp.refl _).alloc _ _).alloc _ _).alloc _ _⟩
        · have gg : ¬ lk1.size + hk1.size + lk2.size + hk2.size + lk3.size + hk3.size ≤ 1048576 := by omega
          go_enter Try.func20, Try.ntmps20
          go_wp2
          go_ret
          exact ⟨by simp [gg], (((Kp.refl _).alloc _ _).alloc _ _).alloc _ _⟩
      · have gg : ¬ lk1.size + hk1.size + lk2.size + hk2.size + lk3.size + hk3.size ≤ 1048576 := by omega
        go_enter Try.func20, Try.ntmps20
        go_wp2
        go_ret
        exact ⟨by simp [gg], (((Kp.refl _).alloc _ _).alloc _ _).alloc _ _⟩
    · have gg : ¬ lk1.size + hk1.size + lk2.size + hk2.size + lk3.size + hk3.size ≤ 1048576 := by omega
      go_enter Try.func20, Try.ntmps20
      go_wp2
      go_ret
      exact ⟨by simp [gg], (((Kp.refl _).alloc _ _).alloc _ _).alloc _ _⟩
  · have gg : ¬ lk1.size + hk1.size + lk2.size + hk2.size + lk3.size + hk3.size ≤ 1048576 := by omega
    go_enter Try.func20, Try.ntmps20
    go_wp2
    go_ret
    exact ⟨by simp [gg], (((Kp.refl _).alloc _ _).alloc _ _).alloc _ _⟩

set_option maxRecDepth 100000 in
theorem weak_big (l1 h1 l2 h2 l3 h3 : Int) (lk1 hk1 lk2 hk2 lk3 hk3 : ByteArray) (o1 o2 o3 : Bool) (w : World) (a1 : lk1.size ≤ maxLen) (a2 : hk1.size ≤ maxLen) (a3 : lk2.size ≤ maxLen) (a4 : hk2.size ≤ maxLen) (a5 : lk3.size ≤ maxLen) (a6 : hk3.size ≤ maxLen)
    (hf : fit6 lk1 hk1 lk2 hk2 lk3 hk3 = false) :
    Calls Try.prog 8 #[.agg #[.int .u64 l1, .string lk1, .int .u64 h1, .string hk1, .bool o1], .agg #[.int .u64 l2, .string lk2, .int .u64 h2, .string hk2, .bool o2], .agg #[.int .u64 l3, .string lk3, .int .u64 h3, .string hk3, .bool o3]] w fun e w' => e = .returned (.bool true) ∧ Grown w w' := by
  have HG := hidden (fun w => guard6_any l1 h1 l2 h2 l3 h3 lk1 hk1 lk2 hk2 lk3 hk3 o1 o2 o3 w a1 a2 a3 a4 a5 a6)
  rw [hf] at HG
  clear a1 a2 a3 a4 a5 a6 hf
  go_enter Try.func8, Try.ntmps8
  go_wp2_with fail
  refine (HG.out _).mono ?_
  rintro e w1 ⟨rfl, hk⟩
  go_wp2
  go_ret
  exact ⟨rfl, (((((Kp.refl _).alloc _ _).alloc _ _).alloc _ _).trans hk).grown⟩
end Go.Proofs.Qxb6600618a
