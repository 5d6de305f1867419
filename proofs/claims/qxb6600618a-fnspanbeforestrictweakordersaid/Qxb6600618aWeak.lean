/-
  THE WALK OF FnSpanBeforeStrictWeakOrder OVER WHAT EACH CALL ANSWERS (seat Qxb6600618a).
-/
import Derived.Test.Qxb6600618aWeakGuard
import Derived.Deep.DeepCutAuto
namespace Go.Proofs.Qxb6600618a
open Go.ChangeShapes Go.WideShapes Go.ChangeAt Go.RowKit

/-- Block n holds a Span. -/
def Box5 (w : World) (n : Nat) (l : Int) (lk : ByteArray) (h : Int) (hk : ByteArray) (o : Bool) : Prop :=
  n < w.heap.size ∧ w.cell? ⟨n, 0, none⟩ = some (.int .u64 l) ∧ w.cell? ⟨n, 1, none⟩ = some (.string lk) ∧ w.cell? ⟨n, 2, none⟩ = some (.int .u64 h) ∧ w.cell? ⟨n, 3, none⟩ = some (.string hk) ∧ w.cell? ⟨n, 4, none⟩ = some (.bool o)
theorem Box5.kp {w w' : World} {n : Nat} {l h : Int} {lk hk : ByteArray} {o : Bool} (b : Box5 w n l lk h hk o) (k : Kp w w') : Box5 w' n l lk h hk o :=
  ⟨Nat.lt_of_lt_of_le b.1 k.below.size, (k.below.cell (p := ⟨n, 0, none⟩) b.1).trans b.2.1, (k.below.cell (p := ⟨n, 1, none⟩) b.1).trans b.2.2.1, (k.below.cell (p := ⟨n, 2, none⟩) b.1).trans b.2.2.2.1,
    (k.below.cell (p := ⟨n, 3, none⟩) b.1).trans b.2.2.2.2.1, (k.below.cell (p := ⟨n, 4, none⟩) b.1).trans b.2.2.2.2.2⟩

set_option maxRecDepth 100000 in
set_option maxHeartbeats 8000000 in
theorem weak_core (l1 h1 l2 h2 l3 h3 : Int) (lk1 hk1 lk2 hk2 lk3 hk3 : ByteArray) (o1 o2 o3 : Bool) (so os ot uo st ts p1 p2 p3 p4 : Bool) (w : World) (hs : lk1.size + hk1.size + lk2.size + hk2.size + lk3.size + hk3.size ≤ 1048576)
    (HG : Hid (∀ w, Calls Try.prog 20 #[.agg #[.int .u64 l1, .string lk1, .int .u64 h1, .string hk1, .bool o1], .agg #[.int .u64 l2, .string lk2, .int .u64 h2, .string hk2, .bool o2], .agg #[.int .u64 l3, .string lk3, .int .u64 h3, .string hk3, .bool o3]] w fun e w' => e = .returned (.bool true) ∧ Kp w w'))
    (F1 : Hid (∀ w, Calls Try.prog 21 #[.agg #[.int .u64 l1, .string lk1, .int .u64 h1, .string hk1, .bool o1]] w fun e w' => e = .returned (.bool true) ∧ Kp w w'))
    (F2 : Hid (∀ w, Calls Try.prog 21 #[.agg #[.int .u64 l2, .string lk2, .int .u64 h2, .string hk2, .bool o2]] w fun e w' => e = .returned (.bool true) ∧ Kp w w'))
    (F3 : Hid (∀ w, Calls Try.prog 21 #[.agg #[.int .u64 l3, .string lk3, .int .u64 h3, .string hk3, .bool o3]] w fun e w' => e = .returned (.bool true) ∧ Kp w w'))
    (HSS : Hid (∀ w, Calls Try.prog 22 #[.agg #[.int .u64 l1, .string lk1, .int .u64 h1, .string hk1, .bool o1], .agg #[.int .u64 l1, .string lk1, .int .u64 h1, .string hk1, .bool o1]] w fun e w' => e = .returned (.bool false) ∧ Kp w w'))
    (HSO : Hid (∀ w, Calls Try.prog 22 #[.agg #[.int .u64 l1, .string lk1, .int .u64 h1, .string hk1, .bool o1], .agg #[.int .u64 l2, .string lk2, .int .u64 h2, .string hk2, .bool o2]] w fun e w' => e = .returned (.bool so) ∧ Kp w w'))
    (HOS : Hid (∀ w, Calls Try.prog 22 #[.agg #[.int .u64 l2, .string lk2, .int .u64 h2, .string hk2, .bool o2], .agg #[.int .u64 l1, .string lk1, .int .u64 h1, .string hk1, .bool o1]] w fun e w' => e = .returned (.bool os) ∧ Kp w w'))
    (HOT : Hid (∀ w, Calls Try.prog 22 #[.agg #[.int .u64 l2, .string lk2, .int .u64 h2, .string hk2, .bool o2], .agg #[.int .u64 l3, .string lk3, .int .u64 h3, .string hk3, .bool o3]] w fun e w' => e = .returned (.bool ot) ∧ Kp w w'))
    (HTO : Hid (∀ w, Calls Try.prog 22 #[.agg #[.int .u64 l3, .string lk3, .int .u64 h3, .string hk3, .bool o3], .agg #[.int .u64 l2, .string lk2, .int .u64 h2, .string hk2, .bool o2]] w fun e w' => e = .returned (.bool uo) ∧ Kp w w'))
    (HST : Hid (∀ w, Calls Try.prog 22 #[.agg #[.int .u64 l1, .string lk1, .int .u64 h1, .string hk1, .bool o1], .agg #[.int .u64 l3, .string lk3, .int .u64 h3, .string hk3, .bool o3]] w fun e w' => e = .returned (.bool st) ∧ Kp w w'))
    (HTS : Hid (∀ w, Calls Try.prog 22 #[.agg #[.int .u64 l3, .string lk3, .int .u64 h3, .string hk3, .bool o3], .agg #[.int .u64 l1, .string lk1, .int .u64 h1, .string hk1, .bool o1]] w fun e w' => e = .returned (.bool ts) ∧ Kp w w'))
    (hp1 : (l1 == l2) = p1) (hp2 : (lk1.toList == lk2.toList) = p2) (hp3 : (h1 == h2) = p3) (hp4 : (hk1.toList == hk2.toList) = p4)
    (R1 : (so && os) = false) (R2 : (so && ot && !st) = false) (R3 : ((!so && !os) && (!ot && !uo) && (st || ts)) = false)
    (R4 : ((!so && !os) == ((p1 && p2) && ((o1 && o2) || (!o1 && !o2 && p3 && p4)))) = true) :
    Calls Try.prog 8 #[.agg #[.int .u64 l1, .string lk1, .int .u64 h1, .string hk1, .bool o1], .agg #[.int .u64 l2, .string lk2, .int .u64 h2, .string hk2, .bool o2], .agg #[.int .u64 l3, .string lk3, .int .u64 h3, .string hk3, .bool o3]] w fun e w' => e = .returned (.bool true) ∧ Grown w w' := by
  have T1 := hidden R1; have T2 := hidden R2; have T3 := hidden R3; have T4 := hidden R4
  have Q1 := hidden hp1; have Q2 := hidden hp2; have Q3 := hidden hp3; have Q4 := hidden hp4
  clear R1 R2 R3 R4 hp1 hp2 hp3 hp4
  go_enter Try.func8, Try.ntmps8
  go_wp2_with fail
  refine (HG.out _).mono ?_
  rintro e w1 ⟨rfl, k1⟩
  obtain ⟨B1, B2, B3⟩ : Box5 w1 w.heap.size l1 lk1 h1 hk1 o1 ∧ Box5 w1 (w.heap.size + 1) l2 lk2 h2 hk2 o2 ∧ Box5 w1 (w.heap.size + 2) l3 lk3 h3 hk3 o3 := by
    refine ⟨Box5.kp ?_ k1, Box5.kp ?_ k1, Box5.kp ?_ k1⟩ <;> simp [Box5, go_sem, World.cell?_alloc_past]
  have K1 : Kp w w1 := ((((Kp.refl _).alloc _ _).alloc _ _).alloc _ _).trans k1
  clear k1
  obtain ⟨c10, c11, c12, c13, c14⟩ := B1.2
  obtain ⟨c20, c21, c22, c23, c24⟩ := B2.2
  obtain ⟨c30, c31, c32, c33, c34⟩ := B3.2
  go_wp2_with fail
  refine (F1.out _).mono ?_
  rintro e w2 ⟨rfl, k2⟩
  replace B1 := B1.kp k2; replace B2 := B2.kp k2; replace B3 := B3.kp k2
  have K2 := K1.trans k2
  clear k2 K1 c10 c11 c12 c13 c14 c20 c21 c22 c23 c24 c30 c31 c32 c33 c34
  obtain ⟨c10, c11, c12, c13, c14⟩ := B1.2
  obtain ⟨c20, c21, c22, c23, c24⟩ := B2.2
  obtain ⟨c30, c31, c32, c33, c34⟩ := B3.2
  go_wp2_with fail
  refine (F2.out _).mono ?_
  rintro e w3 ⟨rfl, k3⟩
  replace B1 := B1.kp k3; replace B2 := B2.kp k3; replace B3 := B3.kp k3
  have K3 := K2.trans k3
  clear k3 K2 c10 c11 c12 c13 c14 c20 c21 c22 c23 c24 c30 c31 c32 c33 c34
  obtain ⟨c10, c11, c12, c13, c14⟩ := B1.2
  obtain ⟨c20, c21, c22, c23, c24⟩ := B2.2
  obtain ⟨c30, c31, c32, c33, c34⟩ := B3.2
  go_wp2_with fail
  refine (F3.out _).mono ?_
  rintro e w4 ⟨rfl, k4⟩
  replace B1 := B1.kp k4; replace B2 := B2.kp k4; replace B3 := B3.kp k4
  have K4 := K3.trans k4
  clear k4 K3 c10 c11 c12 c13 c14 c20 c21 c22 c23 c24 c30 c31 c32 c33 c34
  obtain ⟨c10, c11, c12, c13, c14⟩ := B1.2
  obtain ⟨c20, c21, c22, c23, c24⟩ := B2.2
  obtain ⟨c30, c31, c32, c33, c34⟩ := B3.2
  go_wp2_with fail
  refine (HSS.out _).mono ?_
  rintro e w5 ⟨rfl, k5⟩
  replace B1 := B1.kp k5; replace B2 := B2.kp k5; replace B3 := B3.kp k5
  have K5 := K4.trans k5
  clear k5 K4 c10 c11 c12 c13 c14 c20 c21 c22 c23 c24 c30 c31 c32 c33 c34
  obtain ⟨c10, c11, c12, c13, c14⟩ := B1.2
  obtain ⟨c20, c21, c22, c23, c24⟩ := B2.2
  obtain ⟨c30, c31, c32, c33, c34⟩ := B3.2
  go_wp2_with fail
  refine (HSO.out _).mono ?_
  rintro e w6 ⟨rfl, k6⟩
  replace B1 := B1.kp k6; replace B2 := B2.kp k6; replace B3 := B3.kp k6
  have K6 := K5.trans k6
  clear k6 K5 c10 c11 c12 c13 c14 c20 c21 c22 c23 c24 c30 c31 c32 c33 c34
  obtain ⟨c10, c11, c12, c13, c14⟩ := B1.2
  obtain ⟨c20, c21, c22, c23, c24⟩ := B2.2
  obtain ⟨c30, c31, c32, c33, c34⟩ := B3.2
  go_wp2_with fail
  refine (HOS.out _).mono ?_
  rintro e w7 ⟨rfl, k7⟩
  replace B1 := B1.kp k7; replace B2 := B2.kp k7; replace B3 := B3.kp k7
  have K7 := K6.trans k7
  clear k7 K6 c10 c11 c12 c13 c14 c20 c21 c22 c23 c24 c30 c31 c32 c33 c34
  obtain ⟨c10, c11, c12, c13, c14⟩ := B1.2
  obtain ⟨c20, c21, c22, c23, c24⟩ := B2.2
  obtain ⟨c30, c31, c32, c33, c34⟩ := B3.2
  go_wp2_with fail
  refine (HOT.out _).mono ?_
  rintro e w8 ⟨rfl, k8⟩
  replace B1 := B1.kp k8; replace B2 := B2.kp k8; replace B3 := B3.kp k8
  have K8 := K7.trans k8
  clear k8 K7 c10 c11 c12 c13 c14 c20 c21 c22 c23 c24 c30 c31 c32 c33 c34
  obtain ⟨c10, c11, c12, c13, c14⟩ := B1.2
  obtain ⟨c20, c21, c22, c23, c24⟩ := B2.2
  obtain ⟨c30, c31, c32, c33, c34⟩ := B3.2
  go_wp2_with fail
  refine (HTO.out _).mono ?_
  rintro e w9 ⟨rfl, k9⟩
  replace B1 := B1.kp k9; replace B2 := B2.kp k9; replace B3 := B3.kp k9
  have K9 := K8.trans k9
  clear k9 K8 c10 c11 c12 c13 c14 c20 c21 c22 c23 c24 c30 c31 c32 c33 c34
  obtain ⟨c10, c11, c12, c13, c14⟩ := B1.2
  obtain ⟨c20, c21, c22, c23, c24⟩ := B2.2
  obtain ⟨c30, c31, c32, c33, c34⟩ := B3.2
  go_wp2_with fail
  refine (HST.out _).mono ?_
  rintro e w10 ⟨rfl, k10⟩
  replace B1 := B1.kp k10; replace B2 := B2.kp k10; replace B3 := B3.kp k10
  have K10 := K9.trans k10
  clear k10 K9 c10 c11 c12 c13 c14 c20 c21 c22 c23 c24 c30 c31 c32 c33 c34
  obtain ⟨c10, c11, c12, c13, c14⟩ := B1.2
  obtain ⟨c20, c21, c22, c23, c24⟩ := B2.2
  obtain ⟨c30, c31, c32, c33, c34⟩ := B3.2
  go_wp2_with fail
  refine (HTS.out _).mono ?_
  rintro e w11 ⟨rfl, k11⟩
  replace B1 := B1.kp k11; replace B2 := B2.kp k11; replace B3 := B3.kp k11
  have K11 := K10.trans k11
  clear k11 K10 c10 c11 c12 c13 c14 c20 c21 c22 c23 c24 c30 c31 c32 c33 c34
  obtain ⟨c10, c11, c12, c13, c14⟩ := B1.2
  obtain ⟨c20, c21, c22, c23, c24⟩ := B2.2
  obtain ⟨c30, c31, c32, c33, c34⟩ := B3.2
  have HK := hidden K11
  clear K11
  clear HG F1 F2 F3 HSS HSO HOS HOT HTO HST HTS
  go_upto_region 15 with fail
  go_cut [85] (fun s wc => s = .bool (so && os) ∧ w11 = wc)
  case first =>
    cases so
    · as_aux_lemma => (go_wp2; go_meet; case rel => exact ⟨rfl, rfl⟩)
    · as_aux_lemma => (go_wp2; go_meet; case rel => exact ⟨rfl, rfl⟩)
  obtain ⟨rfl, rfl⟩ := hcut
  rw [T1.out]
  go_upto_region 17 with fail
  go_cut [93] (fun s wc => s = .bool (so && ot && !st) ∧ w11 = wc)
  case first =>
    cases so
    · as_aux_lemma => (go_wp2; go_meet; case rel => exact ⟨rfl, rfl⟩)
    · cases ot
      · as_aux_lemma => (go_wp2; go_meet; case rel => exact ⟨rfl, rfl⟩)
      · as_aux_lemma => (go_wp2; go_meet; case rel => exact ⟨rfl, rfl⟩)
  obtain ⟨rfl, rfl⟩ := hcut
  rw [T2.out]
  go_upto_region 19 with fail
  go_cut [13] (fun s wc => ∃ r, s = .bool r ∧ r = (!so && !os) ∧ w11 = wc)
  case first =>
    cases so
    · as_aux_lemma => (go_wp2; go_meet; case rel => exact ⟨_, rfl, rfl, rfl⟩)
    · as_aux_lemma => (go_wp2; go_meet; case rel => exact ⟨_, rfl, rfl, rfl⟩)
  obtain ⟨T, rfl, hT, rfl⟩ := hcut
  rw [← hT] at T3 T4
  clear hT T1 T2
  go_upto_region 20 with fail
  go_cut [14] (fun s wc => ∃ r, s = .bool r ∧ r = (!ot && !uo) ∧ w11 = wc)
  case first =>
    cases ot
    · as_aux_lemma => (go_wp2; go_meet; case rel => exact ⟨_, rfl, rfl, rfl⟩)
    · as_aux_lemma => (go_wp2; go_meet; case rel => exact ⟨_, rfl, rfl, rfl⟩)
  obtain ⟨U, rfl, hU, rfl⟩ := hcut
  rw [← hU] at T3
  clear hU
  go_upto_region 21 with fail
  go_cut [115] (fun s wc => s = .bool (T && U && (st || ts)) ∧ w11 = wc)
  case first =>
    cases T
    · as_aux_lemma => (go_wp2; go_meet; case rel => exact ⟨rfl, rfl⟩)
    · cases U
      · as_aux_lemma => (go_wp2; go_meet; case rel => exact ⟨rfl, rfl⟩)
      · cases st
        · as_aux_lemma => (go_wp2; go_meet; case rel => exact ⟨rfl, rfl⟩)
        · as_aux_lemma => (go_wp2; go_meet; case rel => exact ⟨rfl, rfl⟩)
  obtain ⟨rfl, rfl⟩ := hcut
  rw [T3.out]
  go_upto_region 23 with fail
  go_cut [15] (fun s wc => ∃ r, s = .bool r ∧ r = (p1 && p2) ∧ w11 = wc)
  case first =>
    cases p1
    · as_aux_lemma => (have q1 := Q1.out; have q2 := Q2.out; go_wp2; go_meet; case rel => exact ⟨_, rfl, rfl, rfl⟩)
    · as_aux_lemma => (have q1 := Q1.out; have q2 := Q2.out; go_wp2; go_meet; case rel => exact ⟨_, rfl, rfl, rfl⟩)
  obtain ⟨A, rfl, hA, rfl⟩ := hcut
  go_upto_region 24 with fail
  go_cut [16] (fun s wc => ∃ r, s = .bool r ∧ r = (o1 && o2) ∧ w11 = wc)
  case first =>
    cases o1
    · as_aux_lemma => (go_wp2; go_meet; case rel => exact ⟨_, rfl, rfl, rfl⟩)
    · as_aux_lemma => (go_wp2; go_meet; case rel => exact ⟨_, rfl, rfl, rfl⟩)
  obtain ⟨B, rfl, hB, rfl⟩ := hcut
  go_upto_region 25 with fail
  go_cut [17] (fun s wc => ∃ r, s = .bool r ∧ r = (!o1 && !o2 && p3 && p4) ∧ w11 = wc)
  case first =>
    cases o1
    · cases o2
      · cases p3
        · as_aux_lemma => (have q3 := Q3.out; have q4 := Q4.out; go_wp2; go_meet; case rel => exact ⟨_, rfl, rfl, rfl⟩)
        · as_aux_lemma => (have q3 := Q3.out; have q4 := Q4.out; go_wp2; go_meet; case rel => exact ⟨_, rfl, rfl, rfl⟩)
      · as_aux_lemma => (have q3 := Q3.out; have q4 := Q4.out; go_wp2; go_meet; case rel => exact ⟨_, rfl, rfl, rfl⟩)
    · as_aux_lemma => (have q3 := Q3.out; have q4 := Q4.out; go_wp2; go_meet; case rel => exact ⟨_, rfl, rfl, rfl⟩)
  obtain ⟨C, rfl, hC, rfl⟩ := hcut
  rw [← hA, ← hB, ← hC] at T4
  clear hA hB hC
  go_upto_region 26 with fail
  go_cut [18] (fun s wc => ∃ r, s = .bool r ∧ r = (A && (B || C)) ∧ w11 = wc)
  case first =>
    cases A
    · as_aux_lemma => (go_wp2; go_meet; case rel => exact ⟨_, rfl, rfl, rfl⟩)
    · cases B
      · as_aux_lemma => (go_wp2; go_meet; case rel => exact ⟨_, rfl, rfl, rfl⟩)
      · as_aux_lemma => (go_wp2; go_meet; case rel => exact ⟨_, rfl, rfl, rfl⟩)
  obtain ⟨D, rfl, hD, rfl⟩ := hcut
  rw [← hD] at T4
  clear hD
  have f := T4.out
  go_wp2
  go_ret
  exact ⟨rfl, HK.out.grown⟩
end Go.Proofs.Qxb6600618a
