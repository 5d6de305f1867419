/-
  THE CONTRACTS OF (bound).before, ZZBoundBefore, zzBoundBefore (seat Qxb6600618a).
-/
import Derived.Test.Qxb6600618aPart
import Derived.Test.Qxb6600618aKeys
import Derived.Lib.Strings
import Derived.Below
import Derived.Deep.QuietTactic
import Derived.BigQuiet
namespace Go.Proofs.Qxb6600618a
open Go.ChangeShapes Go.WideShapes Go.ChangeAt Go.RowKit
open Go.Op (bytesLess)

/-- THE WORLD BEHIND A CALL THAT MAKES NEW MEMORY AND TURNS NOTHING OLD. -/
structure Kp (w w' : World) : Prop where
  below : Below w.heap.size w w'
  frozen : ∀ a, w'.frozen? a = w.frozen? a
theorem Kp.refl (w : World) : Kp w w := ⟨Below.refl _ _, fun _ => rfl⟩
theorem Kp.trans {a b c : World} (h : Kp a b) (k : Kp b c) : Kp a c :=
  ⟨h.below.trans (k.below.mono h.below.size), fun x => (k.frozen x).trans (h.frozen x)⟩
theorem Kp.alloc {a b : World} (h : Kp a b) (c : Array Value) (t : TypeId) : Kp a (b.alloc (.cells c t)) :=
  ⟨h.below.alloc h.below.size _, fun x => (frozen?_alloc_cells _ _ _ x).trans (h.frozen x)⟩
theorem Kp.drew {a b : World} (h : Kp a b) : Kp a b.drew := ⟨h.below.drew, h.frozen⟩
theorem Kp.grown {w w' : World} (h : Kp w w') : Grown w w' := ⟨h.below.frame _, h.frozen, h.below.size⟩

theorem Kp.drewN {a b : World} (h : Kp a b) (n : Nat) : Kp a (b.drewN n) := ⟨below_drewN h.below n, h.frozen⟩

theorem before_any (h h' : Int) (k k' : ByteArray) (w : World) :
    Calls Try.prog 24 #[.agg #[.int .u64 h, .string k], .agg #[.int .u64 h', .string k']] w fun e w' => e = .returned (.bool (bbB h k.toList h' k'.toList)) ∧ Kp w w' := by
  by_cases e : h = h'
  · have e1 : bbB h k.toList h' k'.toList = bytesLess k.toList k'.toList := by unfold bbB; rw [if_pos e]
    rw [e1]
    clear e1
    subst e
    go_enter Try.func24, Try.ntmps24
    go_wp2
    go_ret
    exact ⟨rfl, ((Kp.refl _).alloc _ _).alloc _ _⟩
  · have e1 : bbB h k.toList h' k'.toList = decide (h < h') := by unfold bbB; rw [if_neg e]
    rw [e1]
    clear e1
    have e2 : (h != h') = true := by simpa using e
    clear e
    go_enter Try.func24, Try.ntmps24
    go_wp2
    go_ret
    exact ⟨rfl, ((Kp.refl _).alloc _ _).alloc _ _⟩

theorem zzBefore_any (h h' : Int) (k k' : ByteArray) (w : World) :
    Calls Try.prog 13 #[.int .u64 h, .string k, .int .u64 h', .string k'] w fun e w' => e = .returned (.bool (bbB h k.toList h' k'.toList)) ∧ Kp w w' := by
  go_enter Try.func13, Try.ntmps13
  go_wp2_with (go_at_call 24; refine (before_any h h' k k' _).mono ?_; rintro e w' ⟨rfl, hk⟩)
  go_ret
  exact ⟨rfl, hk⟩

theorem zzBB_any (h h' : Int) (k k' : ByteArray) (w : World) :
    Calls Try.prog 17 #[.agg #[.int .u64 h, .string k], .agg #[.int .u64 h', .string k']] w fun e w' => e = .returned (.bool (bbB h k.toList h' k'.toList)) ∧ Kp w w' := by
  go_enter Try.func17, Try.ntmps17
  go_wp2_with (go_at_call 13; refine (zzBefore_any h h' k k' _).mono ?_; rintro e w' ⟨rfl, hk⟩)
  go_ret
  exact ⟨rfl, (((Kp.refl _).alloc _ _).alloc _ _).trans hk⟩
end Go.Proofs.Qxb6600618a
