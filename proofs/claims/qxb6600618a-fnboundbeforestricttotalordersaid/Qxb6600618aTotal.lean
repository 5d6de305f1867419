/-
  THE WALK OF FnBoundBeforeStrictTotalOrder (seat Qxb6600618a).
-/
import Derived.Test.Qxb6600618aBound
import Derived.Lib.SmallJoins
namespace Go.Proofs.Qxb6600618a
open Go.ChangeShapes Go.WideShapes Go.ChangeAt Go.RowKit
open Go.Op (bytesLess)

/-- Block n holds a Bound. -/
def Box2 (w : World) (n : Nat) (h : Int) (k : ByteArray) : Prop := n < w.heap.size ∧ w.cell? ⟨n, 0, none⟩ = some (.int .u64 h) ∧ w.cell? ⟨n, 1, none⟩ = some (.string k)
theorem Box2.kp {w w' : World} {n : Nat} {h : Int} {k : ByteArray} (b : Box2 w n h k) (hk : Kp w w') : Box2 w' n h k :=
  ⟨Nat.lt_of_lt_of_le b.1 hk.below.size, (hk.below.cell (p := ⟨n, 0, none⟩) b.1).trans b.2.1, (hk.below.cell (p := ⟨n, 1, none⟩) b.1).trans b.2.2⟩

/-- Three keys: the sum of their lengths is at most 2^20. -/
def fit3 (a b c : ByteArray) : Bool := decide (a.size + b.size + c.size ≤ 1048576)

set_option maxRecDepth 100000 in
theorem guard3_any (h1 h2 h3 : Int) (a b c : ByteArray) (w : World) (ha : a.size ≤ maxLen) (hb : b.size ≤ maxLen) (hc : c.size ≤ maxLen) :
    Calls Try.prog 16 #[.agg #[.int .u64 h1, .string a], .agg #[.int .u64 h2, .string b], .agg #[.int .u64 h3, .string c]] w fun e w' => e = .returned (.bool (fit3 a b c)) ∧ Kp w w' := by
  unfold maxLen at ha hb hc
  unfold fit3
  by_cases g1 : a.size ≤ 1048576
  · by_cases g2 : b.size ≤ 1048576
    · by_cases g3 : a.size + b.size ≤ 1048576
      · by_cases g4 : c.size ≤ 1048576
        · by_cases g5 : a.size + b.size + c.size ≤ 1048576
          · go_enter Try.func16, Try.ntmps16
            go_wp2
            go_ret
            exact ⟨by simp [g5], (((Kp.refl _).alloc _ _).alloc _ _).alloc _ _⟩
          · go_enter Try.func16, Try.ntmps16
            go_wp2
            go_ret
            exact ⟨by simp [g5], (((Kp.refl _).alloc _ _).alloc _ _).alloc _ _⟩
        · have g5 : ¬ a.size + b.size + c.size ≤ 1048576 := by omega
          go_enter Try.func16, Try.ntmps16
          go_wp2
          go_ret
          exact ⟨by simp [g5], (((Kp.refl _).alloc _ _).alloc _ _).alloc _ _⟩
      · have g5 : ¬ a.size + b.size + c.size ≤ 1048576 := by omega
        go_enter Try.func16, Try.ntmps16
        go_wp2
        go_ret
        exact ⟨by simp [g5], (((Kp.refl _).alloc _ _).alloc _ _).alloc _ _⟩
    · have g5 : ¬ a.size + b.size + c.size ≤ 1048576 := by omega
      go_enter Try.func16, Try.ntmps16
      go_wp2
      go_ret
      exact ⟨by simp [g5], (((Kp.refl _).alloc _ _).alloc _ _).alloc _ _⟩
  · have g5 : ¬ a.size + b.size + c.size ≤ 1048576 := by omega
    go_enter Try.func16, Try.ntmps16
    go_wp2
    go_ret
    exact ⟨by simp [g5], (((Kp.refl _).alloc _ _).alloc _ _).alloc _ _⟩

set_option maxRecDepth 100000 in
theorem total_big (h1 h2 h3 : Int) (a b c : ByteArray) (w : World) (ha : a.size ≤ maxLen) (hb : b.size ≤ maxLen) (hc : c.size ≤ maxLen) (hf : fit3 a b c = false) :
    Calls Try.prog 6 #[.agg #[.int .u64 h1, .string a], .agg #[.int .u64 h2, .string b], .agg #[.int .u64 h3, .string c]] w fun e w' => e = .returned (.bool true) ∧ Grown w w' := by
  have HG := hidden (fun w => guard3_any h1 h2 h3 a b c w ha hb hc)
  rw [hf] at HG
  clear ha hb hc hf
  go_enter Try.func6, Try.ntmps6
  go_wp2_with fail
  refine (HG.out _).mono ?_
  rintro e w1 ⟨rfl, hk⟩
  go_wp2
  go_ret
  exact ⟨rfl, ((((Kp.refl _).alloc _ _).alloc _ _).alloc _ _).trans hk |>.grown⟩

set_option maxRecDepth 100000 in
set_option maxHeartbeats 4000000 in
/-- THE LAW's WALK OVER WHAT EACH CALL OF before ANSWERS. -/
theorem total_core (h1 h2 h3 : Int) (a b c : ByteArray) (w : World) (bc cb cd bd p q : Bool) (hs : a.size + b.size + c.size ≤ 1048576)
    (HG : Hid (∀ w, Calls Try.prog 16 #[.agg #[.int .u64 h1, .string a], .agg #[.int .u64 h2, .string b], .agg #[.int .u64 h3, .string c]] w fun e w' => e = .returned (.bool true) ∧ Kp w w'))
    (HBB : Hid (∀ w, Calls Try.prog 17 #[.agg #[.int .u64 h1, .string a], .agg #[.int .u64 h1, .string a]] w fun e w' => e = .returned (.bool false) ∧ Kp w w'))
    (HBC : Hid (∀ w, Calls Try.prog 17 #[.agg #[.int .u64 h1, .string a], .agg #[.int .u64 h2, .string b]] w fun e w' => e = .returned (.bool bc) ∧ Kp w w'))
    (HCB : Hid (∀ w, Calls Try.prog 17 #[.agg #[.int .u64 h2, .string b], .agg #[.int .u64 h1, .string a]] w fun e w' => e = .returned (.bool cb) ∧ Kp w w'))
    (HCD : Hid (∀ w, Calls Try.prog 17 #[.agg #[.int .u64 h2, .string b], .agg #[.int .u64 h3, .string c]] w fun e w' => e = .returned (.bool cd) ∧ Kp w w'))
    (HBD : Hid (∀ w, Calls Try.prog 17 #[.agg #[.int .u64 h1, .string a], .agg #[.int .u64 h3, .string c]] w fun e w' => e = .returned (.bool bd) ∧ Kp w w'))
    (hp : (h1 == h2) = p) (hq : (a.toList == b.toList) = q) (hok : bc.toNat + cb.toNat + (p && q).toNat = 1) (htr : bc = true → cd = true → bd = true) :
    Calls Try.prog 6 #[.agg #[.int .u64 h1, .string a], .agg #[.int .u64 h2, .string b], .agg #[.int .u64 h3, .string c]] w fun e w' => e = .returned (.bool true) ∧ Grown w w' := by
  go_enter Try.func6, Try.ntmps6
  go_wp2_with fail
  refine (HG.out _).mono ?_
  rintro e w1 ⟨rfl, k1⟩
  obtain ⟨B1, B2, B3⟩ : Box2 w1 w.heap.size h1 a ∧ Box2 w1 (w.heap.size + 1) h2 b ∧ Box2 w1 (w.heap.size + 2) h3 c := by
    refine ⟨Box2.kp ?_ k1, Box2.kp ?_ k1, Box2.kp ?_ k1⟩ <;> simp [Box2, go_sem, World.cell?_alloc_past]
  have K1 : Kp w w1 := ((((Kp.refl _).alloc _ _).alloc _ _).alloc _ _).trans k1
  clear k1
  obtain ⟨c10, c11⟩ := B1.2; obtain ⟨c20, c21⟩ := B2.2; obtain ⟨c30, c31⟩ := B3.2
  go_wp2_with fail
  refine (HBB.out _).mono ?_
  rintro e w2 ⟨rfl, k2⟩
  replace B1 := B1.kp k2; replace B2 := B2.kp k2; replace B3 := B3.kp k2
  have K2 := K1.trans k2
  clear k2 c10 c11 c20 c21 c30 c31
  obtain ⟨c10, c11⟩ := B1.2; obtain ⟨c20, c21⟩ := B2.2; obtain ⟨c30, c31⟩ := B3.2
  go_wp2_with fail
  refine (HBC.out _).mono ?_
  rintro e w3 ⟨rfl, k3⟩
  replace B1 := B1.kp k3; replace B2 := B2.kp k3; replace B3 := B3.kp k3
  have K3 := K2.trans k3
  clear k3 c10 c11 c20 c21 c30 c31
  obtain ⟨c10, c11⟩ := B1.2; obtain ⟨c20, c21⟩ := B2.2; obtain ⟨c30, c31⟩ := B3.2
  go_wp2_with fail
  refine (HCB.out _).mono ?_
  rintro e w4 ⟨rfl, k4⟩
  replace B1 := B1.kp k4; replace B2 := B2.kp k4; replace B3 := B3.kp k4
  have K4 := K3.trans k4
  clear k4 c10 c11 c20 c21 c30 c31
  obtain ⟨c10, c11⟩ := B1.2; obtain ⟨c20, c21⟩ := B2.2; obtain ⟨c30, c31⟩ := B3.2
  cases bc
  · cases cb
    · cases p
      · simp at hok
      · cases q
        · simp at hok
        · go_wp2
          go_ret
          exact ⟨rfl, K4.grown⟩
    · cases p
      · go_wp2
        go_ret
        exact ⟨rfl, K4.grown⟩
      · cases q
        · go_wp2
          go_ret
          exact ⟨rfl, K4.grown⟩
        · simp at hok
  · cases cb
    · cases p
      · go_wp2_with fail
        refine (HCD.out _).mono ?_
        rintro e w5 ⟨rfl, k5⟩
        replace B1 := B1.kp k5; replace B2 := B2.kp k5; replace B3 := B3.kp k5
        have K5 := K4.trans k5
        clear k5 c10 c11 c20 c21 c30 c31
        obtain ⟨c10, c11⟩ := B1.2; obtain ⟨c20, c21⟩ := B2.2; obtain ⟨c30, c31⟩ := B3.2
        cases cd
        · go_wp2
          go_ret
          exact ⟨rfl, K5.grown⟩
        · obtain rfl : bd = true := by simpa using htr
          go_wp2_with fail
          refine (HBD.out _).mono ?_
          rintro e w6 ⟨rfl, k6⟩
          replace B1 := B1.kp k6; replace B2 := B2.kp k6; replace B3 := B3.kp k6
          have K6 := K5.trans k6
          clear k6 c10 c11 c20 c21 c30 c31
          obtain ⟨c10, c11⟩ := B1.2; obtain ⟨c20, c21⟩ := B2.2; obtain ⟨c30, c31⟩ := B3.2
          go_wp2
          go_ret
          exact ⟨rfl, K6.grown⟩
      · cases q
        · go_wp2_with fail
          refine (HCD.out _).mono ?_
          rintro e w5 ⟨rfl, k5⟩
          replace B1 := B1.kp k5; replace B2 := B2.kp k5; replace B3 := B3.kp k5
          have K5 := K4.trans k5
          clear k5 c10 c11 c20 c21 c30 c31
          obtain ⟨c10, c11⟩ := B1.2; obtain ⟨c20, c21⟩ := B2.2; obtain ⟨c30, c31⟩ := B3.2
          cases cd
          · go_wp2
            go_ret
            exact ⟨rfl, K5.grown⟩
          · obtain rfl : bd = true := by simpa using htr
            go_wp2_with fail
            refine (HBD.out _).mono ?_
            rintro e w6 ⟨rfl, k6⟩
            replace B1 := B1.kp k6; replace B2 := B2.kp k6; replace B3 := B3.kp k6
            have K6 := K5.trans k6
            clear k6 c10 c11 c20 c21 c30 c31
            obtain ⟨c10, c11⟩ := B1.2; obtain ⟨c20, c21⟩ := B2.2; obtain ⟨c30, c31⟩ := B3.2
            go_wp2
            go_ret
            exact ⟨rfl, K6.grown⟩
        · simp at hok
    · cases p <;> cases q <;> simp at hok
end Go.Proofs.Qxb6600618a
