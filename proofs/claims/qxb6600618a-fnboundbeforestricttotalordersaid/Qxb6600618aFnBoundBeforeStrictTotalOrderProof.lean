/-
  FnBoundBeforeStrictTotalOrder: the law's walk closed by the plain laws, and the row (after the guide's template; a struct by value: Joins.open_agg2, shut_agg2).
-/
import Derived.Test.Qxb6600618aTotal
import Derived.Lib.SmallJoins
namespace Go.Proofs.Qxb6600618a.fnBoundBeforeStrictTotalOrder
open Go.ChangeShapes Go.WideShapes Go.ChangeAt Go.RowKit Go.Joins
open Go.ChangeMaps (open_string shut_string)

theorem own : ownKnob Try.prog.godebug = none := by kernel_rfl
theorem cells29 : Try.prog.cellsOf 29 = 2 := by kernel_rfl

theorem walk (h1 h2 h3 : Int) (a b c : ByteArray) (w : World) (ha : a.size ≤ maxLen) (hb : b.size ≤ maxLen) (hc : c.size ≤ maxLen) :
    Calls Try.prog 6 #[.agg #[.int .u64 h1, .string a], .agg #[.int .u64 h2, .string b], .agg #[.int .u64 h3, .string c]] w fun e w' => e = .returned (.bool true) ∧ Grown w w' := by
  cases hf : fit3 a b c with
  | false => exact total_big h1 h2 h3 a b c w ha hb hc hf
  | true =>
    have hs : a.size + b.size + c.size ≤ 1048576 := by simpa [fit3] using hf
    refine total_core h1 h2 h3 a b c w (bbB h1 a.toList h2 b.toList) (bbB h2 b.toList h1 a.toList) (bbB h2 b.toList h3 c.toList) (bbB h1 a.toList h3 c.toList) _ _ hs
      (hidden (fun w => by have := guard3_any h1 h2 h3 a b c w ha hb hc; rw [hf] at this; exact this))
      (hidden (fun w => by have := zzBB_any h1 h1 a a w; rw [bbB_irrefl] at this; exact this))
      (hidden (zzBB_any h1 h2 a b)) (hidden (zzBB_any h2 h1 b a)) (hidden (zzBB_any h2 h3 b c)) (hidden (zzBB_any h1 h3 a c)) rfl rfl ?_ ?_
    · cases hbc : bbB h1 a.toList h2 b.toList with
      | true =>
        rw [bbB_asymm _ _ _ _ hbc]
        by_cases e1 : h1 = h2
        · by_cases e2 : a.toList = b.toList
          · rw [e1, e2, bbB_irrefl] at hbc; cases hbc
          · simp [e2]
        · simp [e1]
      | false =>
        cases hcb : bbB h2 b.toList h1 a.toList with
        | true =>
          by_cases e1 : h1 = h2
          · by_cases e2 : a.toList = b.toList
            · rw [e1, e2, bbB_irrefl] at hcb; cases hcb
            · simp [e2]
          · simp [e1]
        | false =>
          obtain ⟨e1, e2⟩ := bbB_tri _ _ _ _ hbc hcb
          simp [e1, e2]
    · intro h h'; exact bbB_trans _ _ _ _ _ _ h h'

/-- A Bound reads as its two fields, in whatever world. -/
theorem reads {H : Type} {enc : TypeId × Value → H} {W : World} {sp : Nat → Bool} {x : Int} {s : ByteArray} (wx : (Lit.int .u64 x).wf = true) (ws : s.size ≤ maxLen) :
    DataW.Trod enc Try.prog W 0 sp true 29 (.agg #[.int .u64 x, .string s]) (.agg [.lit (.int .u64 x), .lit (.string s.data.toList)]) [] :=
  shut_agg2 (y0 := (.lit (.int .u64 x), [])) (y1 := (.lit (.string s.data.toList), [])) Try.underlying29 (by kernel_rfl) cells29 ⟨1, by simp [DataW.trod, Try.underlying26, wx]⟩ ⟨1, by simp [DataW.trod, Try.underlying9, ws]⟩

set_option maxRecDepth 100000 in
theorem lifted (os : Os) (started : os.Started) (H : Type) (enc : TypeId × Value → H) :
    ReturnsInHanded {} Try.checked os 6 .any (Rows.fnBoundBeforeStrictTotalOrderSpec.pre6 enc Try.prog Try.f6 Rows.fnBoundBeforeStrictTotalOrderRow.domain false) (Rows.fnBoundBeforeStrictTotalOrderSpec.post enc Try.prog Try.f6 false true false false) := by
  refine returnsInHanded_of_change (C := Try.checked) own started (by kernel_rfl) Try.func6
    (ChangeSpec.witness6 (enc := enc) (C := Try.checked) false ⟨#[], #[.agg #[.int .u64 0, .string ByteArray.empty], .agg #[.int .u64 0, .string ByteArray.empty], .agg #[.int .u64 0, .string ByteArray.empty]], []⟩ 8 (by kernel_rfl) (by kernel_rfl) (by kernel_rfl) (by kernel_rfl)) ?_
  intro W base args ds gs before hval0 hW _ _
  have hval : ∀ (j : Nat) t v, Try.f6.params[j]? = some t → args[j]? = some v → Value.okWide Try.prog W .any base t v := hval0
  have hW' := hW
  obtain ⟨p, q, hA0, hV, rfl, _, _⟩ := hW
  have hA : DataW.TrodAll enc Try.prog W 0 (fun _ => true) true Try.f6.params.toList args.toList ds p := hA0
  rw [Try.params6] at hA hval
  obtain ⟨v0, v1, v2, d0, d1, d2, p0, p1, p2, rfl, rfl, rfl, h0, h1, h2⟩ := trodAll_three hA
  obtain ⟨rfl, rfl⟩ := trodVars_none hV
  obtain ⟨c00, c01, y00, y01, m0, rfl, rfl, rfl, hy00, hy01⟩ := open_agg2 Try.underlying29 (by kernel_rfl) cells29 (hval 0 29 v0 rfl rfl) h0
  obtain ⟨c10, c11, y10, y11, m1, rfl, rfl, rfl, hy10, hy11⟩ := open_agg2 Try.underlying29 (by kernel_rfl) cells29 (hval 1 29 v1 rfl rfl) h1
  obtain ⟨c20, c21, y20, y21, m2, rfl, rfl, rfl, hy20, hy21⟩ := open_agg2 Try.underlying29 (by kernel_rfl) cells29 (hval 2 29 v2 rfl rfl) h2
  obtain ⟨x0, e00, rfl, wx0⟩ := DataW.trod_int Try.underlying26 hy00
  obtain ⟨x1, e10, rfl, wx1⟩ := DataW.trod_int Try.underlying26 hy10
  obtain ⟨x2, e20, rfl, wx2⟩ := DataW.trod_int Try.underlying26 hy20
  obtain ⟨s0, e01, rfl, ws0⟩ := DataW.trod_string Try.underlying9 hy01
  obtain ⟨s1, e11, rfl, ws1⟩ := DataW.trod_string Try.underlying9 hy11
  obtain ⟨s2, e21, rfl, ws2⟩ := DataW.trod_string Try.underlying9 hy21
  simp at e00 e01 e10 e11 e20 e21
  subst e00 e01 e10 e11 e20 e21
  clear hA0 hval0
  simp only [List.append_nil] at hW'
  refine (walk x0 x1 x2 s0 s1 s2 W ws0 ws1 ws2).mono fun e W' ⟨he, hg⟩ => ?_
  subst he
  exact ⟨_, rfl, post_of_same (pa := []) (pv := []) hW' (fun _ _ _ => trodAll_mk1 (shut_bool Try.underlying4 _)) (fun sp _ => trodAll_mk3 (reads wx0 ws0) (reads wx1 ws1) (reads wx2 ws2)) (fun _ _ => rfl) rfl
    (hg.frame _) hg.2.1 (ok_one (by kernel_rfl) rfl (okWide_bool_mk Try.underlying4 _))⟩

theorem over : Rows.fnBoundBeforeStrictTotalOrderRow.holds Try.pinned (OpenSpec.ofChange Rows.fnBoundBeforeStrictTotalOrderSpec) :=
  OpenClaim.holds_of_wide 6 Try.f6 rfl rfl rfl rfl rfl rfl rfl ⟨rfl, rfl, rfl, rfl, rfl⟩ rfl rfl rfl rfl rfl (by kernel_rfl) Try.func6 (by kernel_rfl)
    (of_decide_eq_true (by kernel_rfl)) (by unfold Func.isWrapper; first | (rw [if_pos (by decide +kernel)]; kernel_rfl) | (rw [if_neg (by decide +kernel)]; exact ⟨rfl, rfl⟩))
    (fun os started H enc _ => lifted os started H enc)

theorem proved : Rows.FnBoundBeforeStrictTotalOrderSaid :=
  over
end Go.Proofs.Qxb6600618a.fnBoundBeforeStrictTotalOrder
namespace Go.Proofs.Qxb6600618a
theorem fnBoundBeforeStrictTotalOrder_holds : Rows.FnBoundBeforeStrictTotalOrderSaid := fnBoundBeforeStrictTotalOrder.proved
#print axioms fnBoundBeforeStrictTotalOrder_holds
end Go.Proofs.Qxb6600618a
