/-
  THE PLAIN LAWS OF (span).before (seat Qxb6600618a): no Go in sight.
-/
import Derived.Test.Qxb6600618aPlain
namespace Go.Proofs.Qxb6600618a

theorem sbB_same (l : Int) (lk : List UInt8) (h : Int) (hk : List UInt8) (o : Bool) (h' : Int) (hk' : List UInt8) (o' : Bool) : sbB l lk h hk o l lk h' hk' o' = (!o && (o' || bbB h hk h' hk')) := by
  unfold sbB; rw [if_pos ⟨rfl, rfl⟩]
theorem sbB_diff (l : Int) (lk : List UInt8) (h : Int) (hk : List UInt8) (o : Bool) (l' : Int) (lk' : List UInt8) (h' : Int) (hk' : List UInt8) (o' : Bool) (n : ¬ (l = l' ∧ lk = lk')) : sbB l lk h hk o l' lk' h' hk' o' = bbB l lk l' lk' := by
  unfold sbB; rw [if_neg n]
theorem sbB_irrefl (l : Int) (lk : List UInt8) (h : Int) (hk : List UInt8) (o : Bool) : sbB l lk h hk o l lk h hk o = false := by
  rw [sbB_same, bbB_irrefl]; cases o <;> rfl
theorem sbB_trans (l1 : Int) (lk1 : List UInt8) (h1 : Int) (hk1 : List UInt8) (o1 : Bool) (l2 : Int) (lk2 : List UInt8) (h2 : Int) (hk2 : List UInt8) (o2 : Bool) (l3 : Int) (lk3 : List UInt8) (h3 : Int) (hk3 : List UInt8) (o3 : Bool)
    (a : sbB l1 lk1 h1 hk1 o1 l2 lk2 h2 hk2 o2 = true) (b : sbB l2 lk2 h2 hk2 o2 l3 lk3 h3 hk3 o3 = true) : sbB l1 lk1 h1 hk1 o1 l3 lk3 h3 hk3 o3 = true := by
  by_cases e1 : l1 = l2 ∧ lk1 = lk2
  · obtain ⟨rfl, rfl⟩ := e1
    rw [sbB_same] at a
    by_cases e2 : l1 = l3 ∧ lk1 = lk3
    · obtain ⟨rfl, rfl⟩ := e2
      rw [sbB_same] at b
      rw [sbB_same]
      cases o1
      · cases o2
        · cases o3
          · simp only [Bool.not_false, Bool.true_and, Bool.false_or] at a b ⊢
            exact bbB_trans _ _ _ _ _ _ a b
          · rfl
        · simp at b
      · simp at a
    · rw [sbB_diff _ _ _ _ _ _ _ _ _ _ e2] at b
      rw [sbB_diff _ _ _ _ _ _ _ _ _ _ e2]
      exact b
  · rw [sbB_diff _ _ _ _ _ _ _ _ _ _ e1] at a
    by_cases e2 : l2 = l3 ∧ lk2 = lk3
    · obtain ⟨rfl, rfl⟩ := e2
      rw [sbB_diff _ _ _ _ _ _ _ _ _ _ e1]
      exact a
    · rw [sbB_diff _ _ _ _ _ _ _ _ _ _ e2] at b
      have c := bbB_trans _ _ _ _ _ _ a b
      by_cases e3 : l1 = l3 ∧ lk1 = lk3
      · obtain ⟨rfl, rfl⟩ := e3
        rw [bbB_irrefl] at c
        cases c
      · rw [sbB_diff _ _ _ _ _ _ _ _ _ _ e3]
        exact c
/-- When two spans are tied. -/
def tied (l1 : Int) (lk1 : List UInt8) (h1 : Int) (hk1 : List UInt8) (o1 : Bool) (l2 : Int) (lk2 : List UInt8) (h2 : Int) (hk2 : List UInt8) (o2 : Bool) : Prop :=
  (l1 = l2 ∧ lk1 = lk2) ∧ ((o1 = true ∧ o2 = true) ∨ (o1 = false ∧ o2 = false ∧ h1 = h2 ∧ hk1 = hk2))
theorem tied_of (l1 : Int) (lk1 : List UInt8) (h1 : Int) (hk1 : List UInt8) (o1 : Bool) (l2 : Int) (lk2 : List UInt8) (h2 : Int) (hk2 : List UInt8) (o2 : Bool)
    (a : sbB l1 lk1 h1 hk1 o1 l2 lk2 h2 hk2 o2 = false) (b : sbB l2 lk2 h2 hk2 o2 l1 lk1 h1 hk1 o1 = false) : tied l1 lk1 h1 hk1 o1 l2 lk2 h2 hk2 o2 := by
  by_cases e1 : l1 = l2 ∧ lk1 = lk2
  · refine ⟨e1, ?_⟩
    obtain ⟨rfl, rfl⟩ := e1
    rw [sbB_same] at a b
    cases o1
    · cases o2
      · simp only [Bool.not_false, Bool.true_and, Bool.false_or] at a b
        exact Or.inr ⟨rfl, rfl, bbB_tri _ _ _ _ a b⟩
      · simp at a
    · cases o2
      · simp at b
      · exact Or.inl ⟨rfl, rfl⟩
  · rw [sbB_diff _ _ _ _ _ _ _ _ _ _ e1] at a
    rw [sbB_diff _ _ _ _ _ _ _ _ _ _ (fun h => e1 ⟨h.1.symm, h.2.symm⟩)] at b
    exact absurd (bbB_tri _ _ _ _ a b) e1
theorem of_tied (l1 : Int) (lk1 : List UInt8) (h1 : Int) (hk1 : List UInt8) (o1 : Bool) (l2 : Int) (lk2 : List UInt8) (h2 : Int) (hk2 : List UInt8) (o2 : Bool)
    (t : tied l1 lk1 h1 hk1 o1 l2 lk2 h2 hk2 o2) : sbB l1 lk1 h1 hk1 o1 l2 lk2 h2 hk2 o2 = false ∧ sbB l2 lk2 h2 hk2 o2 l1 lk1 h1 hk1 o1 = false := by
  obtain ⟨⟨rfl, rfl⟩, t⟩ := t
  rw [sbB_same, sbB_same]
  rcases t with ⟨rfl, rfl⟩ | ⟨rfl, rfl, rfl, rfl⟩
  · exact ⟨rfl, rfl⟩
  · rw [bbB_irrefl]; exact ⟨rfl, rfl⟩
theorem tied_trans (l1 : Int) (lk1 : List UInt8) (h1 : Int) (hk1 : List UInt8) (o1 : Bool) (l2 : Int) (lk2 : List UInt8) (h2 : Int) (hk2 : List UInt8) (o2 : Bool) (l3 : Int) (lk3 : List UInt8) (h3 : Int) (hk3 : List UInt8) (o3 : Bool)
    (a : tied l1 lk1 h1 hk1 o1 l2 lk2 h2 hk2 o2) (b : tied l2 lk2 h2 hk2 o2 l3 lk3 h3 hk3 o3) : tied l1 lk1 h1 hk1 o1 l3 lk3 h3 hk3 o3 := by
  obtain ⟨⟨rfl, rfl⟩, a⟩ := a
  obtain ⟨e, b⟩ := b
  refine ⟨e, ?_⟩
  rcases a with ⟨rfl, rfl⟩ | ⟨rfl, rfl, rfl, rfl⟩
  · rcases b with ⟨_, rfl⟩ | ⟨h, _⟩
    · exact Or.inl ⟨rfl, rfl⟩
    · cases h
  · rcases b with ⟨h, _⟩ | ⟨_, rfl, rfl, rfl⟩
    · cases h
    · exact Or.inr ⟨rfl, rfl, rfl, rfl⟩

/-! ### The four facts that the walk asks -/
theorem weak_R1 (x y : Bool) (h : x = true → y = false) : (x && y) = false := by cases x <;> simp_all
theorem weak_R2 (x y z : Bool) (h : x = true → y = true → z = true) : (x && y && !z) = false := by cases x <;> cases y <;> simp_all
theorem weak_R3 (a b c d x y : Bool) (h : a = false → b = false → c = false → d = false → x = false ∧ y = false) : ((!a && !b) && (!c && !d) && (x || y)) = false := by
  cases a <;> cases b <;> cases c <;> cases d <;> simp_all
theorem weak_R4 (a b x : Bool) (h : (a = false ∧ b = false) ↔ x = true) : ((!a && !b) == x) = true := by
  cases a <;> cases b <;> cases x <;> simp_all
theorem sbB_asymm (l1 : Int) (lk1 : List UInt8) (h1 : Int) (hk1 : List UInt8) (o1 : Bool) (l2 : Int) (lk2 : List UInt8) (h2 : Int) (hk2 : List UInt8) (o2 : Bool)
    (a : sbB l1 lk1 h1 hk1 o1 l2 lk2 h2 hk2 o2 = true) : sbB l2 lk2 h2 hk2 o2 l1 lk1 h1 hk1 o1 = false := by
  cases h : sbB l2 lk2 h2 hk2 o2 l1 lk1 h1 hk1 o1 with
  | false => rfl
  | true =>
    have := sbB_trans _ _ _ _ _ _ _ _ _ _ _ _ _ _ _ a h
    rw [sbB_irrefl] at this
    cases this
theorem tied_iff (l1 : Int) (lk1 : List UInt8) (h1 : Int) (hk1 : List UInt8) (o1 : Bool) (l2 : Int) (lk2 : List UInt8) (h2 : Int) (hk2 : List UInt8) (o2 : Bool) :
    tied l1 lk1 h1 hk1 o1 l2 lk2 h2 hk2 o2 ↔ ((l1 == l2) && (lk1 == lk2) && ((o1 && o2) || (!o1 && !o2 && (h1 == h2) && (hk1 == hk2)))) = true := by
  unfold tied
  cases o1 <;> cases o2 <;> simp
end Go.Proofs.Qxb6600618a
