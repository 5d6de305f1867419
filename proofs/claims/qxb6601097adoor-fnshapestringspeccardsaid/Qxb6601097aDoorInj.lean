/-
  THE PLAIN LAW: two shapes are written alike iff they are equal (seat Qxb6601097aDoor). No Go in sight.
-/
import Derived.Test.Qxb6601097aDoorShape
namespace Go.Proofs.Qxb6601097aDoor

/-- A byte of a numeral: a digit or the minus sign. -/
def isD (c : UInt8) : Bool := c == 45 || (decide (48 ≤ c.toNat) && decide (c.toNat ≤ 57))
theorem digit_toNat (d : Nat) (h : d < 10) : (UInt8.ofNat (48 + d)).toNat = 48 + d := by
  simp; omega

/-- The number that a list of digits spells. -/
def val (l : List UInt8) : Nat := l.foldl (fun a c => a * 10 + (c.toNat - 48)) 0
theorem val_snoc (l : List UInt8) (c : UInt8) : val (l ++ [c]) = val l * 10 + (c.toNat - 48) := by unfold val; rw [List.foldl_append]; rfl
theorem val_dec : ∀ (f u : Nat), u ≤ f → val (Lib.decDigits u) = u
  | 0, u, h => by
    have e : u = 0 := by omega
    subst e
    rw [Lib.decDigits_one (by omega)]; rfl
  | f + 1, u, h => by
    by_cases hs : u < 10
    · rw [Lib.decDigits_one hs]
      show 0 * 10 + ((UInt8.ofNat (48 + u)).toNat - 48) = u
      rw [digit_toNat u hs]; omega
    · rw [Lib.decDigits, dif_neg hs, val_snoc, val_dec f (u / 10) (by omega), digit_toNat _ (by omega)]
      omega
theorem dec_digits : ∀ (f u : Nat), u ≤ f → ∀ c ∈ Lib.decDigits u, 48 ≤ c.toNat ∧ c.toNat ≤ 57
  | 0, u, h => by
    have e : u = 0 := by omega
    subst e
    rw [Lib.decDigits_one (by omega)]
    intro c hc
    simp at hc
    subst hc
    decide
  | f + 1, u, h => by
    intro c hc
    by_cases hs : u < 10
    · rw [Lib.decDigits_one hs] at hc
      simp only [List.mem_singleton] at hc
      rw [hc, digit_toNat u hs]; omega
    · rw [Lib.decDigits, dif_neg hs, List.mem_append] at hc
      rcases hc with hc | hc
      · exact dec_digits f (u / 10) (by omega) c hc
      · simp only [List.mem_singleton] at hc
        rw [hc, digit_toNat _ (by omega)]; omega
theorem dec_ne (u : Nat) : Lib.decDigits u ≠ [] := by
  intro h
  have := congrArg List.length h
  rw [Lib.decDigits_length] at this
  have := Lib.nDigits_pos u
  simp at *
  omega
theorem dec_inj (u v : Nat) (h : Lib.decDigits u = Lib.decDigits v) : u = v := by
  have := congrArg val h
  rwa [val_dec u u (Nat.le_refl _), val_dec v v (Nat.le_refl _)] at this
theorem dec_cons (u : Nat) : ∃ c r, Lib.decDigits u = c :: r ∧ 48 ≤ c.toNat ∧ c.toNat ≤ 57 := by
  cases e : Lib.decDigits u with
  | nil => exact absurd e (dec_ne u)
  | cons c r => exact ⟨c, r, rfl, dec_digits u u (Nat.le_refl _) c (by rw [e]; simp)⟩

theorem itoa_inj (n m : Int) (h : Lib.itoa n = Lib.itoa m) : n = m := by
  unfold Lib.itoa at h
  split at h
  · split at h
    · have := dec_inj _ _ (List.cons.inj h).2; omega
    · obtain ⟨c, r, e, h1, _⟩ := dec_cons m.toNat
      rw [e] at h
      have := (List.cons.inj h).1
      rw [← this] at h1
      exact absurd h1 (by decide)
  · split at h
    · obtain ⟨c, r, e, h1, _⟩ := dec_cons n.toNat
      rw [e] at h
      have := (List.cons.inj h).1
      rw [this] at h1
      exact absurd h1 (by decide)
    · have := dec_inj _ _ h; omega
theorem itoa_isD (n : Int) : ∀ c ∈ Lib.itoa n, isD c = true := by
  intro c hc
  unfold Lib.itoa at hc
  unfold isD
  split at hc
  · rcases List.mem_cons.mp hc with e | hc
    · subst e; rfl
    · have := dec_digits _ _ (Nat.le_refl _) c hc
      simp [this.1, this.2]
  · have := dec_digits _ _ (Nat.le_refl _) c hc
    simp [this.1, this.2]
theorem itoa_cons (n : Int) : ∃ c r, Lib.itoa n = c :: r ∧ isD c = true := by
  cases e : Lib.itoa n with
  | nil =>
    unfold Lib.itoa at e
    split at e
    · cases e
    · exact absurd e (dec_ne _)
  | cons c r => exact ⟨c, r, rfl, itoa_isD n c (by rw [e]; simp)⟩

/-- Two numerals, each with a text behind it that opens with no byte of a numeral. -/
theorem span_inj : ∀ (p q s t : List UInt8), (∀ c ∈ p, isD c = true) → (∀ c ∈ q, isD c = true) → (∀ c, s.head? = some c → isD c = false) → (∀ c, t.head? = some c → isD c = false) → p ++ s = q ++ t → p = q ∧ s = t
  | [], [], _, _, _, _, _, _, h => ⟨rfl, h⟩
  | [], d :: q, s, t, _, hq, hs, _, h => by
    have h0 := hs d (by rw [List.nil_append] at h; rw [h]; rfl)
    have h1 := hq d (by simp)
    rw [h0] at h1; cases h1
  | c :: p, [], s, t, hp, _, _, ht, h => by
    have h0 := ht c (by rw [List.nil_append] at h; rw [← h]; rfl)
    have h1 := hp c (by simp)
    rw [h0] at h1; cases h1
  | c :: p, d :: q, s, t, hp, hq, hs, ht, h => by
    simp only [List.cons_append, List.cons.injEq] at h
    obtain ⟨e, h⟩ := h
    obtain ⟨e1, e2⟩ := span_inj p q s t (fun x hx => hp x (by simp [hx])) (fun x hx => hq x (by simp [hx])) hs ht h
    exact ⟨by rw [e, e1], e2⟩

/-- What stands behind the first numeral where more follow, and the bracket. -/
def tl : List Int → List UInt8
  | [] => [41]
  | y :: r => 44 :: 32 :: (Lib.itoa y ++ tl r)
theorem tl_head (r : List Int) : ∀ c, (tl r).head? = some c → isD c = false := by
  intro c hc
  cases r with
  | nil => simp [tl] at hc; subst hc; rfl
  | cons y r => simp [tl] at hc; subst hc; rfl
theorem tl_inj : ∀ r r' : List Int, tl r = tl r' → r = r'
  | [], [], _ => rfl
  | [], _ :: _, h => by simp [tl] at h
  | _ :: _, [], h => by simp [tl] at h
  | y :: r, y' :: r', h => by
    simp only [tl, List.cons.injEq, true_and] at h
    obtain ⟨e1, e2⟩ := span_inj _ _ _ _ (itoa_isD y) (itoa_isD y') (tl_head r) (tl_head r') h
    rw [itoa_inj _ _ e1, tl_inj r r' e2]
theorem joinTail_tl : ∀ r : List Int, Lib.joinTail [44, 32] (r.map Lib.itoa) ++ [41] = tl r
  | [] => rfl
  | y :: r => by
    have h := joinTail_tl r
    unfold Lib.joinTail at h ⊢
    simp only [List.map_cons, List.flatten_cons, List.append_assoc, h, tl]
    rfl
theorem shape_nil_eq : shapeL [] = [40, 41] := rfl
theorem shape_one_eq (x : Int) : shapeL [x] = 40 :: (Lib.itoa x ++ [44, 41]) := rfl
theorem shape_more_eq (x y : Int) (r : List Int) : shapeL (x :: y :: r) = 40 :: (Lib.itoa x ++ tl (y :: r)) := by
  unfold shapeL
  rw [if_neg (by simp), List.map_cons, Lib.join_cons, List.append_assoc, joinTail_tl]
theorem comma_head : ∀ c, ([44, 41] : List UInt8).head? = some c → isD c = false := by
  intro c hc; simp at hc; subst hc; rfl

/-- ████ Two shapes that are written alike are equal. -/
theorem shape_inj : ∀ xs ys : List Int, shapeL xs = shapeL ys → xs = ys
  | [], [], _ => rfl
  | [], [y], h => by
    obtain ⟨c, r, e, hc⟩ := itoa_cons y
    rw [shape_nil_eq, shape_one_eq, e] at h
    simp only [List.cons_append, List.cons.injEq, true_and] at h
    rw [← h.1] at hc; cases hc
  | [], y :: z :: r, h => by
    obtain ⟨c, r', e, hc⟩ := itoa_cons y
    rw [shape_nil_eq, shape_more_eq, e] at h
    simp only [List.cons_append, List.cons.injEq, true_and] at h
    rw [← h.1] at hc; cases hc
  | [x], [], h => by
    obtain ⟨c, r, e, hc⟩ := itoa_cons x
    rw [shape_nil_eq, shape_one_eq, e] at h
    simp only [List.cons_append, List.cons.injEq, true_and] at h
    rw [h.1] at hc; cases hc
  | x :: z :: r, [], h => by
    obtain ⟨c, r', e, hc⟩ := itoa_cons x
    rw [shape_nil_eq, shape_more_eq, e] at h
    simp only [List.cons_append, List.cons.injEq, true_and] at h
    rw [h.1] at hc; cases hc
  | [x], [y], h => by
    rw [shape_one_eq, shape_one_eq, List.cons.injEq] at h
    rw [itoa_inj _ _ (span_inj _ _ _ _ (itoa_isD x) (itoa_isD y) comma_head comma_head h.2).1]
  | [x], y :: z :: r, h => by
    rw [shape_one_eq, shape_more_eq, List.cons.injEq] at h
    have := (span_inj _ _ _ _ (itoa_isD x) (itoa_isD y) comma_head (tl_head _) h.2).2
    simp [tl] at this
  | x :: z :: r, [y], h => by
    rw [shape_one_eq, shape_more_eq, List.cons.injEq] at h
    have := (span_inj _ _ _ _ (itoa_isD x) (itoa_isD y) (tl_head _) comma_head h.2).2
    simp [tl] at this
  | x :: z :: r, x' :: z' :: r', h => by
    rw [shape_more_eq, shape_more_eq, List.cons.injEq] at h
    obtain ⟨e1, e2⟩ := span_inj _ _ _ _ (itoa_isD x) (itoa_isD x') (tl_head _) (tl_head _) h.2
    rw [itoa_inj _ _ e1, tl_inj _ _ e2]
end Go.Proofs.Qxb6601097aDoor
