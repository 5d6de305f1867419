/-
  THE CONTRACTS OF (span).before, ZZSpanBefore, zzSpanBefore, zzSpanBytesFit (seat Qxb6600618a).
-/
import Derived.Test.Qxb6600618aBound
import Derived.Laws.StructEq
namespace Go.Proofs.Qxb6600618a
open Go.ChangeShapes Go.WideShapes Go.ChangeAt Go.RowKit
open Go.Op (bytesLess)

theorem span_ne (l h l' h' : Int) (lk hk lk' hk' : ByteArray) (o o' : Bool) (w : World) (he : (l == l') = false) :
    Calls Try.prog 25 #[.agg #[.int .u64 l, .string lk, .int .u64 h, .string hk, .bool o], .agg #[.int .u64 l', .string lk', .int .u64 h', .string hk', .bool o']] w fun e w' => e = .returned (.bool (bbB l lk.toList l' lk'.toList)) ∧ Kp w w' := by
  have HB := hidden (before_any l l' lk lk')
  go_enter Try.func25, Try.ntmps25
  go_wp2_with fail
  refine (HB.out _).mono ?_
  rintro e w1 ⟨rfl, hk⟩
  go_wp2
  go_ret
  exact ⟨rfl, (((Kp.refl _).alloc _ _).alloc _ _).trans hk⟩

theorem span_nk (l h l' h' : Int) (lk hk lk' hk' : ByteArray) (o o' : Bool) (w : World) (he : (l == l') = true) (hn : (lk.toList == lk'.toList) = false) :
    Calls Try.prog 25 #[.agg #[.int .u64 l, .string lk, .int .u64 h, .string hk, .bool o], .agg #[.int .u64 l', .string lk', .int .u64 h', .string hk', .bool o']] w fun e w' => e = .returned (.bool (bbB l lk.toList l' lk'.toList)) ∧ Kp w w' := by
  have HB := hidden (before_any l l' lk lk')
  go_enter Try.func25, Try.ntmps25
  go_wp2_with fail
  refine (HB.out _).mono ?_
  rintro e w1 ⟨rfl, hk⟩
  go_wp2
  go_ret
  exact ⟨rfl, (((Kp.refl _).alloc _ _).alloc _ _).trans hk⟩

theorem span_eq_open (l h l' h' : Int) (lk hk lk' hk' : ByteArray) (o' : Bool) (w : World) (he : (l == l') = true) (hn : (lk.toList == lk'.toList) = true) :
    Calls Try.prog 25 #[.agg #[.int .u64 l, .string lk, .int .u64 h, .string hk, .bool true], .agg #[.int .u64 l', .string lk', .int .u64 h', .string hk', .bool o']] w fun e w' => e = .returned (.bool false) ∧ Kp w w' := by
  go_enter Try.func25, Try.ntmps25
  go_wp2
  go_ret
  exact ⟨rfl, (((Kp.refl _).alloc _ _).alloc _ _)⟩

theorem span_eq_closed_open (l h l' h' : Int) (lk hk lk' hk' : ByteArray) (w : World) (he : (l == l') = true) (hn : (lk.toList == lk'.toList) = true) :
    Calls Try.prog 25 #[.agg #[.int .u64 l, .string lk, .int .u64 h, .string hk, .bool false], .agg #[.int .u64 l', .string lk', .int .u64 h', .string hk', .bool true]] w fun e w' => e = .returned (.bool true) ∧ Kp w w' := by
  go_enter Try.func25, Try.ntmps25
  go_wp2
  go_ret
  exact ⟨rfl, (((Kp.refl _).alloc _ _).alloc _ _)⟩

theorem span_eq_closed (l h l' h' : Int) (lk hk lk' hk' : ByteArray) (w : World) (he : (l == l') = true) (hn : (lk.toList == lk'.toList) = true) :
    Calls Try.prog 25 #[.agg #[.int .u64 l, .string lk, .int .u64 h, .string hk, .bool false], .agg #[.int .u64 l', .string lk', .int .u64 h', .string hk', .bool false]] w fun e w' => e = .returned (.bool (bbB h hk.toList h' hk'.toList)) ∧ Kp w w' := by
  have HB := hidden (before_any h h' hk hk')
  go_enter Try.func25, Try.ntmps25
  go_wp2_with fail
  refine (HB.out _).mono ?_
  rintro e w1 ⟨rfl, hk⟩
  go_wp2
  go_ret
  exact ⟨rfl, (((Kp.refl _).alloc _ _).alloc _ _).trans hk⟩

theorem span_any (l h l' h' : Int) (lk hk lk' hk' : ByteArray) (o o' : Bool) (w : World) :
    Calls Try.prog 25 #[.agg #[.int .u64 l, .string lk, .int .u64 h, .string hk, .bool o], .agg #[.int .u64 l', .string lk', .int .u64 h', .string hk', .bool o']] w fun e w' => e = .returned (.bool (sbB l lk.toList h hk.toList o l' lk'.toList h' hk'.toList o')) ∧ Kp w w' := by
  by_cases e1 : l = l'
  · by_cases e2 : lk.toList = lk'.toList
    · have hb1 : (l == l') = true := by simp [e1]
      have hb2 : (lk.toList == lk'.toList) = true := by simp [e2]
      cases o
      · cases o'
        · refine (span_eq_closed l h l' h' lk hk lk' hk' w hb1 hb2).mono ?_
          rintro e w' ⟨rfl, k⟩
          exact ⟨ret_bool (by unfold sbB; rw [if_pos ⟨e1, e2⟩]; simp), k⟩
        · refine (span_eq_closed_open l h l' h' lk hk lk' hk' w hb1 hb2).mono ?_
          rintro e w' ⟨rfl, k⟩
          exact ⟨ret_bool (by unfold sbB; rw [if_pos ⟨e1, e2⟩]; simp), k⟩
      · refine (span_eq_open l h l' h' lk hk lk' hk' o' w hb1 hb2).mono ?_
        rintro e w' ⟨rfl, k⟩
        exact ⟨ret_bool (by unfold sbB; rw [if_pos ⟨e1, e2⟩]; simp), k⟩
    · refine (span_nk l h l' h' lk hk lk' hk' o o' w (by simp [e1]) (by simpa using e2)).mono ?_
      rintro e w' ⟨rfl, k⟩
      exact ⟨ret_bool (by unfold sbB; rw [if_neg (fun x => e2 x.2)]), k⟩
  · refine (span_ne l h l' h' lk hk lk' hk' o o' w (by simpa using e1)).mono ?_
    rintro e w' ⟨rfl, k⟩
    exact ⟨ret_bool (by unfold sbB; rw [if_neg (fun x => e1 x.1)]), k⟩

theorem zzSpan_any (l h l' h' : Int) (lk hk lk' hk' : ByteArray) (o o' : Bool) (w : World) :
    Calls Try.prog 19 #[.int .u64 l, .string lk, .int .u64 h, .string hk, .bool o, .int .u64 l', .string lk', .int .u64 h', .string hk', .bool o'] w fun e w' => e = .returned (.bool (sbB l lk.toList h hk.toList o l' lk'.toList h' hk'.toList o')) ∧ Kp w w' := by
  have HB := hidden (span_any l h l' h' lk hk lk' hk' o o')
  go_enter Try.func19, Try.ntmps19
  go_wp2_with fail
  refine (HB.out _).mono ?_
  rintro e w1 ⟨rfl, hk⟩
  go_wp2
  go_ret
  exact ⟨rfl, (((Kp.refl _).alloc _ _).alloc _ _).trans hk⟩

theorem zzSB_any (l h l' h' : Int) (lk hk lk' hk' : ByteArray) (o o' : Bool) (w : World) :
    Calls Try.prog 22 #[.agg #[.int .u64 l, .string lk, .int .u64 h, .string hk, .bool o], .agg #[.int .u64 l', .string lk', .int .u64 h', .string hk', .bool o']] w fun e w' => e = .returned (.bool (sbB l lk.toList h hk.toList o l' lk'.toList h' hk'.toList o')) ∧ Kp w w' := by
  have HB := hidden (zzSpan_any l h l' h' lk hk lk' hk' o o')
  go_enter Try.func22, Try.ntmps22
  go_wp2_with fail
  refine (HB.out _).mono ?_
  rintro e w1 ⟨rfl, hk⟩
  go_wp2
  go_ret
  exact ⟨rfl, (((Kp.refl _).alloc _ _).alloc _ _).trans hk⟩

set_option maxRecDepth 100000 in
theorem fits_yes (l h : Int) (lk hk : ByteArray) (o : Bool) (w : World) (h1 : lk.size ≤ 1048576) (h2 : hk.size ≤ 1048576) :
    Calls Try.prog 21 #[.agg #[.int .u64 l, .string lk, .int .u64 h, .string hk, .bool o]] w fun e w' => e = .returned (.bool true) ∧ Kp w w' := by
  have g1 : decide ((lk.size : Int) ≤ 1048576) = true := by simp; omega
  have g2 : decide ((hk.size : Int) ≤ 1048576) = true := by simp; omega
  go_enter Try.func21, Try.ntmps21
  go_wp2
  go_ret
  exact ⟨rfl, (Kp.refl _).alloc _ _⟩
end Go.Proofs.Qxb6600618a
