/-
  THE WALK OF FnSpanBeforeIsIndexOrder (seat Qxb6600618a).
-/
import Derived.Test.Qxb6600618aSpan
namespace Go.Proofs.Qxb6600618a
open Go.ChangeShapes Go.WideShapes Go.ChangeAt Go.RowKit
open Go.Op (bytesLess)

/-- Four strings: the sum of their lengths is at most 2^20. -/
def fit4 (a b c d : ByteArray) : Bool := decide (a.size + b.size + c.size + d.size ≤ 1048576)

set_option maxRecDepth 100000 in
theorem guard4_any (a b c d : ByteArray) (o o' : Bool) (w : World) (ha : a.size ≤ maxLen) (hb : b.size ≤ maxLen) (hc : c.size ≤ maxLen) (hd : d.size ≤ maxLen) :
    Calls Try.prog 18 #[.string a, .string b, .bool o, .string c, .string d, .bool o'] w fun e w' => e = .returned (.bool (fit4 a b c d)) ∧ w' = w := by
  unfold maxLen at ha hb hc hd
  unfold fit4
  by_cases g1 : a.size ≤ 1048576
  · by_cases g2 : b.size ≤ 1048576
    · by_cases g3 : a.size + b.size ≤ 1048576
      · by_cases g4 : c.size ≤ 1048576
        · by_cases g5 : a.size + b.size + c.size ≤ 1048576
          · by_cases g6 : d.size ≤ 1048576
            · by_cases g7 : a.size + b.size + c.size + d.size ≤ 1048576
              · go_enter Try.func18, Try.ntmps18
                go_wp2
                go_ret
                exact ⟨by simp [g7], rfl⟩
              · go_enter Try.func18, Try.ntmps18
                go_wp2
                go_ret
                exact ⟨by simp [g7], rfl⟩
            · have g7 : ¬ a.size + b.size + c.size + d.size ≤ 1048576 := by omega
              go_enter Try.func18, Try.ntmps18
              go_wp2
              go_ret
              exact ⟨by simp [g7], rfl⟩
          · have g7 : ¬ a.size + b.size + c.size + d.size ≤ 1048576 := by omega
            go_enter Try.func18, Try.ntmps18
            go_wp2
            go_ret
            exact ⟨by simp [g7], rfl⟩
        · have g7 : ¬ a.size + b.size + c.size + d.size ≤ 1048576 := by omega
          go_enter Try.func18, Try.ntmps18
          go_wp2
          go_ret
          exact ⟨by simp [g7], rfl⟩
      · have g7 : ¬ a.size + b.size + c.size + d.size ≤ 1048576 := by omega
        go_enter Try.func18, Try.ntmps18
        go_wp2
        go_ret
        exact ⟨by simp [g7], rfl⟩
    · have g7 : ¬ a.size + b.size + c.size + d.size ≤ 1048576 := by omega
      go_enter Try.func18, Try.ntmps18
      go_wp2
      go_ret
      exact ⟨by simp [g7], rfl⟩
  · have g7 : ¬ a.size + b.size + c.size + d.size ≤ 1048576 := by omega
    go_enter Try.func18, Try.ntmps18
    go_wp2
    go_ret
    exact ⟨by simp [g7], rfl⟩

set_option maxRecDepth 100000 in
theorem index_big (a b c d : ByteArray) (o o' : Bool) (w : World) (ha : a.size ≤ maxLen) (hb : b.size ≤ maxLen) (hc : c.size ≤ maxLen) (hd : d.size ≤ maxLen) (hf : fit4 a b c d = false) :
    Calls Try.prog 7 #[.string a, .string b, .bool o, .string c, .string d, .bool o'] w fun e w' => e = .returned (.bool true) ∧ Grown w w' := by
  have HG := hidden (guard4_any a b c d o o' w ha hb hc hd)
  rw [hf] at HG
  clear ha hb hc hd hf
  go_enter Try.func7, Try.ntmps7
  go_wp2_with fail
  refine HG.out.mono ?_
  rintro e w1 ⟨rfl, rfl⟩
  go_wp2
  go_ret
  exact ⟨rfl, Grown.refl _⟩

set_option maxRecDepth 100000 in
set_option maxHeartbeats 2000000 in
/-- THE LAW's WALK OVER WHAT THE CALLS ANSWER. -/
theorem index_core (a b c d : ByteArray) (o o' : Bool) (x y z u : Int) (got r1 r2 q : Bool) (w : World) (hs : a.size + b.size + c.size + d.size ≤ 1048576)
    (HG : Hid (∀ w, Calls Try.prog 18 #[.string a, .string b, .bool o, .string c, .string d, .bool o'] w fun e w' => e = .returned (.bool true) ∧ w' = w))
    (HA : Hid (∀ w, Calls Try.prog 14 #[.string a] w fun e w' => e = .returned (.int .u64 x) ∧ w' = w))
    (HB : Hid (∀ w, Calls Try.prog 14 #[.string b] w fun e w' => e = .returned (.int .u64 y) ∧ w' = w))
    (HC : Hid (∀ w, Calls Try.prog 14 #[.string c] w fun e w' => e = .returned (.int .u64 z) ∧ w' = w))
    (HD : Hid (∀ w, Calls Try.prog 14 #[.string d] w fun e w' => e = .returned (.int .u64 u) ∧ w' = w))
    (HS : Hid (∀ w, Calls Try.prog 19 #[.int .u64 x, .string a, .int .u64 y, .string b, .bool o, .int .u64 z, .string c, .int .u64 u, .string d, .bool o'] w fun e w' => e = .returned (.bool got) ∧ Kp w w'))
    (HL : Hid (∀ w, Calls Try.prog 15 #[.string a, .string c] w fun e w' => e = .returned (.bool r1) ∧ ∃ n, w' = w.drewN n))
    (HM : Hid (∀ w, Calls Try.prog 15 #[.string b, .string d] w fun e w' => e = .returned (.bool r2) ∧ ∃ n, w' = w.drewN n))
    (hq : (a.toList == c.toList) = q) (hg : got = if q = false then r1 else if o = true then false else if o' = true then true else r2) :
    Calls Try.prog 7 #[.string a, .string b, .bool o, .string c, .string d, .bool o'] w fun e w' => e = .returned (.bool true) ∧ Grown w w' := by
  go_enter Try.func7, Try.ntmps7
  go_wp2_with fail
  refine (HG.out _).mono ?_
  rintro e w' ⟨rfl, rfl⟩
  go_wp2_with fail
  refine (HA.out _).mono ?_
  rintro e w' ⟨rfl, rfl⟩
  go_wp2_with fail
  refine (HB.out _).mono ?_
  rintro e w' ⟨rfl, rfl⟩
  go_wp2_with fail
  refine (HC.out _).mono ?_
  rintro e w' ⟨rfl, rfl⟩
  go_wp2_with fail
  refine (HD.out _).mono ?_
  rintro e w' ⟨rfl, rfl⟩
  go_wp2_with fail
  refine (HS.out _).mono ?_
  rintro e w1 ⟨rfl, hk⟩
  cases q
  · simp only [if_true] at hg
    subst hg
    go_wp2_with fail
    refine (HL.out _).mono ?_
    rintro e w2 ⟨rfl, n, rfl⟩
    go_wp2
    go_ret
    exact ⟨rfl, (hk.drewN n).grown⟩
  · cases o
    · cases o'
      · simp at hg
        subst hg
        go_wp2_with fail
        refine (HM.out _).mono ?_
        rintro e w2 ⟨rfl, n, rfl⟩
        go_wp2
        go_ret
        exact ⟨rfl, (hk.drewN n).grown⟩
      · simp at hg
        subst hg
        go_wp2
        go_ret
        exact ⟨rfl, hk.grown⟩
    · simp at hg
      subst hg
      go_wp2
      go_ret
      exact ⟨rfl, hk.grown⟩

theorem sbB_hd (a b c d : List UInt8) (o o' : Bool) : sbB (hd a 8 : Nat) a (hd b 8 : Nat) b o (hd c 8 : Nat) c (hd d 8 : Nat) d o' =
    if (a == c) = false then bytesLess a c else if o = true then false else if o' = true then true else bytesLess b d := by
  unfold sbB
  by_cases e : a = c
  · subst e
    rw [if_pos ⟨rfl, rfl⟩, bbB_hd]
    cases o <;> cases o' <;> simp
  · rw [if_neg (fun h => e h.2), bbB_hd, if_pos (by simpa using e)]

theorem law_index (a0 : ByteArray) (a1 : ByteArray) (a2 : Bool) (a3 : ByteArray) (a4 : ByteArray) (a5 : Bool) (w0 : a0.size ≤ maxLen) (w1 : a1.size ≤ maxLen) (w3 : a3.size ≤ maxLen) (w4 : a4.size ≤ maxLen) (w : World) :
    Calls Try.prog 7 #[.string a0, .string a1, .bool a2, .string a3, .string a4, .bool a5] w fun e w' => e = .returned (.bool true) ∧ Grown w w' := by
  cases hf : fit4 a0 a1 a3 a4 with
  | false => exact index_big a0 a1 a3 a4 a2 a5 w w0 w1 w3 w4 hf
  | true =>
    have hs : a0.size + a1.size + a3.size + a4.size ≤ 1048576 := by simpa [fit4] using hf
    refine index_core a0 a1 a3 a4 a2 a5 (hd a0.data.toList 8 : Nat) (hd a1.data.toList 8 : Nat) (hd a3.data.toList 8 : Nat) (hd a4.data.toList 8 : Nat) _ (bytesLess a0.data.toList a3.data.toList) (bytesLess a1.data.toList a4.data.toList) _ w hs
      (hidden (fun w => by have := guard4_any a0 a1 a3 a4 a2 a5 w w0 w1 w3 w4; rw [hf] at this; exact this))
      (hidden (head_any a0)) (hidden (head_any a1)) (hidden (head_any a3)) (hidden (head_any a4)) (hidden (zzSpan_any _ _ _ _ a0 a1 a3 a4 a2 a5))
      (hidden (fun w => less_any a0 a3 w (by omega) (by omega))) (hidden (fun w => less_any a1 a4 w (by omega) (by omega))) rfl ?_
    simp only [Lib.toList_data]
    exact sbB_hd _ _ _ _ _ _
end Go.Proofs.Qxb6600618a
