/-
  FnSpanBeforeStrictWeakOrder: the law's walk closed by the plain laws, and the row (after the guide's template).
-/
import Derived.Test.Qxb6600618aWeak
import Derived.Test.Qxb6600618aWeakPlain
import Derived.Test.Qxb6600618aSpanArg
namespace Go.Proofs.Qxb6600618a.fnSpanBeforeStrictWeakOrder
open Go.ChangeShapes Go.WideShapes Go.ChangeAt Go.RowKit Go.Joins

theorem own : ownKnob Try.prog.godebug = none := by kernel_rfl

theorem walk (l1 h1 l2 h2 l3 h3 : Int) (lk1 hk1 lk2 hk2 lk3 hk3 : ByteArray) (o1 o2 o3 : Bool) (w : World) (a1 : lk1.size ≤ maxLen) (a2 : hk1.size ≤ maxLen) (a3 : lk2.size ≤ maxLen) (a4 : hk2.size ≤ maxLen) (a5 : lk3.size ≤ maxLen) (a6 : hk3.size ≤ maxLen) :
    Calls Try.prog 8 #[.agg #[.int .u64 l1, .string lk1, .int .u64 h1, .string hk1, .bool o1], .agg #[.int .u64 l2, .string lk2, .int .u64 h2, .string hk2, .bool o2], .agg #[.int .u64 l3, .string lk3, .int .u64 h3, .string hk3, .bool o3]] w fun e w' => e = .returned (.bool true) ∧ Grown w w' := by
  cases hf : fit6 lk1 hk1 lk2 hk2 lk3 hk3 with
  | false => exact weak_big l1 h1 l2 h2 l3 h3 lk1 hk1 lk2 hk2 lk3 hk3 o1 o2 o3 w a1 a2 a3 a4 a5 a6 hf
  | true =>
    have hs : lk1.size + hk1.size + lk2.size + hk2.size + lk3.size + hk3.size ≤ 1048576 := by simpa [fit6] using hf
    refine weak_core l1 h1 l2 h2 l3 h3 lk1 hk1 lk2 hk2 lk3 hk3 o1 o2 o3 _ _ _ _ _ _ _ _ _ _ w hs
      (hidden (fun w => by have := guard6_any l1 h1 l2 h2 l3 h3 lk1 hk1 lk2 hk2 lk3 hk3 o1 o2 o3 w a1 a2 a3 a4 a5 a6; rw [hf] at this; exact this))
      (hidden (fun w => fits_yes l1 h1 lk1 hk1 o1 w (by omega) (by omega))) (hidden (fun w => fits_yes l2 h2 lk2 hk2 o2 w (by omega) (by omega))) (hidden (fun w => fits_yes l3 h3 lk3 hk3 o3 w (by omega) (by omega)))
      (hidden (fun w => by have := zzSB_any l1 h1 l1 h1 lk1 hk1 lk1 hk1 o1 o1 w; rw [sbB_irrefl] at this; exact this))
      (hidden (zzSB_any l1 h1 l2 h2 lk1 hk1 lk2 hk2 o1 o2)) (hidden (zzSB_any l2 h2 l1 h1 lk2 hk2 lk1 hk1 o2 o1))
      (hidden (zzSB_any l2 h2 l3 h3 lk2 hk2 lk3 hk3 o2 o3)) (hidden (zzSB_any l3 h3 l2 h2 lk3 hk3 lk2 hk2 o3 o2))
      (hidden (zzSB_any l1 h1 l3 h3 lk1 hk1 lk3 hk3 o1 o3)) (hidden (zzSB_any l3 h3 l1 h1 lk3 hk3 lk1 hk1 o3 o1)) rfl rfl rfl rfl ?_ ?_ ?_ ?_
    · exact weak_R1 _ _ (sbB_asymm _ _ _ _ _ _ _ _ _ _)
    · exact weak_R2 _ _ _ (sbB_trans _ _ _ _ _ _ _ _ _ _ _ _ _ _ _)
    · refine weak_R3 _ _ _ _ _ _ (fun e1 e2 e3 e4 => ?_)
      exact of_tied _ _ _ _ _ _ _ _ _ _ (tied_trans _ _ _ _ _ _ _ _ _ _ _ _ _ _ _ (tied_of _ _ _ _ _ _ _ _ _ _ e1 e2) (tied_of _ _ _ _ _ _ _ _ _ _ e3 e4))
    · refine weak_R4 _ _ _ ?_
      rw [← tied_iff]
      exact ⟨fun e => tied_of _ _ _ _ _ _ _ _ _ _ e.1 e.2, fun t => of_tied _ _ _ _ _ _ _ _ _ _ t⟩

set_option maxRecDepth 100000 in
theorem lifted (os : Os) (started : os.Started) (H : Type) (enc : TypeId × Value → H) :
    ReturnsInHanded {} Try.checked os 8 .any (Rows.fnSpanBeforeStrictWeakOrderSpec.pre6 enc Try.prog Try.f8 Rows.fnSpanBeforeStrictWeakOrderRow.domain false) (Rows.fnSpanBeforeStrictWeakOrderSpec.post enc Try.prog Try.f8 false true false false) := by
  refine returnsInHanded_of_change (C := Try.checked) own started (by kernel_rfl) Try.func8
    (ChangeSpec.witness6 (enc := enc) (C := Try.checked) false ⟨#[], #[.agg #[.int .u64 0, .string ByteArray.empty, .int .u64 0, .string ByteArray.empty, .bool false], .agg #[.int .u64 0, .string ByteArray.empty, .int .u64 0, .string ByteArray.empty, .bool false], .agg #[.int .u64 0, .string ByteArray.empty, .int .u64 0, .string ByteArray.empty, .bool false]], []⟩ 8 (by kernel_rfl) (by kernel_rfl) (by kernel_rfl) (by kernel_rfl)) ?_
  intro W base args ds gs before hval0 hW _ _
  have hval : ∀ (j : Nat) t v, Try.f8.params[j]? = some t → args[j]? = some v → Value.okWide Try.prog W .any base t v := hval0
  have hW' := hW
  obtain ⟨p, q, hA0, hV, rfl, _, _⟩ := hW
  have hA : DataW.TrodAll enc Try.prog W 0 (fun _ => true) true Try.f8.params.toList args.toList ds p := hA0
  rw [Try.params8] at hA hval
  obtain ⟨v0, v1, v2, d0, d1, d2, p0, p1, p2, rfl, rfl, rfl, h0, h1, h2⟩ := trodAll_three hA
  obtain ⟨rfl, rfl⟩ := trodVars_none hV
  obtain ⟨l1, lk1, x1, hk1, o1, rfl, rfl, rfl, wl1, wx1, wlk1, whk1⟩ := span_open (hval 0 35 v0 rfl rfl) h0
  obtain ⟨l2, lk2, x2, hk2, o2, rfl, rfl, rfl, wl2, wx2, wlk2, whk2⟩ := span_open (hval 1 35 v1 rfl rfl) h1
  obtain ⟨l3, lk3, x3, hk3, o3, rfl, rfl, rfl, wl3, wx3, wlk3, whk3⟩ := span_open (hval 2 35 v2 rfl rfl) h2
  clear hA0 hval0
  simp only [List.append_nil] at hW'
  refine (walk l1 x1 l2 x2 l3 x3 lk1 hk1 lk2 hk2 lk3 hk3 o1 o2 o3 W wlk1 whk1 wlk2 whk2 wlk3 whk3).mono fun e W' ⟨he, hg⟩ => ?_
  subst he
  exact ⟨_, rfl, post_of_same (pa := []) (pv := []) hW' (fun _ _ _ => trodAll_mk1 (shut_bool Try.underlying4 _)) (fun sp _ => trodAll_mk3 (span_shut wl1 wx1 wlk1 whk1) (span_shut wl2 wx2 wlk2 whk2) (span_shut wl3 wx3 wlk3 whk3)) (fun _ _ => rfl) rfl
    (hg.frame _) hg.2.1 (ok_one (by kernel_rfl) rfl (okWide_bool_mk Try.underlying4 _))⟩

theorem over : Rows.fnSpanBeforeStrictWeakOrderRow.holds Try.pinned (OpenSpec.ofChange Rows.fnSpanBeforeStrictWeakOrderSpec) :=
  OpenClaim.holds_of_wide 8 Try.f8 rfl rfl rfl rfl rfl rfl rfl ⟨rfl, rfl, rfl, rfl, rfl⟩ rfl rfl rfl rfl rfl (by kernel_rfl) Try.func8 (by kernel_rfl)
    (of_decide_eq_true (by kernel_rfl)) (by unfold Func.isWrapper; first | (rw [if_pos (by decide +kernel)]; kernel_rfl) | (rw [if_neg (by decide +kernel)]; exact ⟨rfl, rfl⟩))
    (fun os started H enc _ => lifted os started H enc)

theorem proved : Rows.FnSpanBeforeStrictWeakOrderSaid :=
  over
end Go.Proofs.Qxb6600618a.fnSpanBeforeStrictWeakOrder
namespace Go.Proofs.Qxb6600618a
theorem fnSpanBeforeStrictWeakOrder_holds : Rows.FnSpanBeforeStrictWeakOrderSaid := fnSpanBeforeStrictWeakOrder.proved
#print axioms fnSpanBeforeStrictWeakOrder_holds
end Go.Proofs.Qxb6600618a
