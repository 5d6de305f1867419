/-
  THE PLAIN LAWS of the seat Qxb6600618a: lists of bytes, their order, the first eight bytes read as a number. No Go in sight but the model's own order of bytes.
-/
import GoSem.Op.String
namespace Go.Proofs.Qxb6600618a
open Go.Op (bytesLess)

/-! ### The order of bytes is a strict total order -/
theorem bl_nil_right (a : List UInt8) : bytesLess a [] = false := by cases a <;> rfl
theorem bl_nil_left (b : UInt8) (y : List UInt8) : bytesLess [] (b :: y) = true := rfl
theorem bl_cons (a b : UInt8) (x y : List UInt8) : bytesLess (a :: x) (b :: y) = (decide (a < b) || (a == b && bytesLess x y)) := rfl
theorem bl_cons_iff (a b : UInt8) (x y : List UInt8) : bytesLess (a :: x) (b :: y) = true ↔ (a.toNat < b.toNat ∨ (a.toNat = b.toNat ∧ bytesLess x y = true)) := by
  rw [bl_cons]
  simp only [Bool.or_eq_true, Bool.and_eq_true, decide_eq_true_eq, beq_iff_eq, UInt8.lt_iff_toNat_lt, UInt8.toNat_inj]

theorem bl_irrefl : ∀ a : List UInt8, bytesLess a a = false
  | [] => rfl
  | a :: x => by
    have h := bl_irrefl x
    rw [bl_cons, h]
    simp

theorem bl_trans : ∀ a b c : List UInt8, bytesLess a b = true → bytesLess b c = true → bytesLess a c = true
  | _, _, [], _, h2 => by rw [bl_nil_right] at h2; cases h2
  | _, [], _ :: _, h1, _ => by rw [bl_nil_right] at h1; cases h1
  | [], _ :: _, _ :: _, _, _ => rfl
  | a :: x, b :: y, c :: z, h1, h2 => by
    rw [bl_cons_iff] at h1 h2 ⊢
    rcases h1 with h1 | ⟨e1, h1⟩
    · rcases h2 with h2 | ⟨e2, h2⟩
      · left; omega
      · left; omega
    · rcases h2 with h2 | ⟨e2, h2⟩
      · left; omega
      · right; exact ⟨by omega, bl_trans x y z h1 h2⟩

theorem bl_asymm (a b : List UInt8) (h : bytesLess a b = true) : bytesLess b a = false := by
  cases h' : bytesLess b a with
  | false => rfl
  | true =>
    have := bl_trans a b a h h'
    rw [bl_irrefl] at this
    cases this

theorem bl_tri : ∀ a b : List UInt8, bytesLess a b = false → bytesLess b a = false → a = b
  | [], [], _, _ => rfl
  | [], _ :: _, h, _ => by cases h
  | _ :: _, [], _, h => by cases h
  | a :: x, b :: y, h1, h2 => by
    have n1 : ¬ bytesLess (a :: x) (b :: y) = true := by rw [h1]; simp
    have n2 : ¬ bytesLess (b :: y) (a :: x) = true := by rw [h2]; simp
    rw [bl_cons_iff] at n1 n2
    have e : a.toNat = b.toNat := by omega
    have e' : a = b := UInt8.toNat_inj.mp e
    subst e'
    have r1 : bytesLess x y = false := by
      cases h : bytesLess x y with
      | false => rfl
      | true => exact absurd (Or.inr ⟨rfl, h⟩) n1
    have r2 : bytesLess y x = false := by
      cases h : bytesLess y x with
      | false => rfl
      | true => exact absurd (Or.inr ⟨rfl, h⟩) n2
    rw [bl_tri x y r1 r2]

/-! ### The first bytes, padded by 0, read as a number -/
/-- Byte i of l; 0 past the end. -/
def at0 (l : List UInt8) (i : Nat) : Nat := (l.getD i 0).toNat
/-- The first n bytes of l, read big-endian, 0 past the end. -/
def hd (l : List UInt8) : Nat → Nat
  | 0 => 0
  | n + 1 => hd l n * 256 + at0 l n
theorem at0_lt (l : List UInt8) (i : Nat) : at0 l i < 256 := by unfold at0; exact UInt8.toNat_lt _
theorem hd_succ (l : List UInt8) (n : Nat) : hd l (n + 1) = hd l n * 256 + at0 l n := rfl
theorem hd_lt (l : List UInt8) : ∀ n, hd l n < 256 ^ n
  | 0 => by simp [hd]
  | n + 1 => by
    have h := hd_lt l n
    have h2 := at0_lt l n
    rw [hd_succ, Nat.pow_succ]
    omega
theorem hd_small (l : List UInt8) (k : Nat) (h : k ≤ 7) : hd l k < 72057594037927936 := by
  have h1 := hd_lt l k
  have h2 : 256 ^ k ≤ 256 ^ 7 := Nat.pow_le_pow_right (by omega) h
  have h3 : (256 ^ 7 : Nat) = 72057594037927936 := by decide
  omega
theorem hd_eight (l : List UInt8) : hd l 8 < 18446744073709551616 := by
  have h1 := hd_lt l 8
  have h3 : (256 ^ 8 : Nat) = 18446744073709551616 := by decide
  omega
theorem at0_past (l : List UInt8) (i : Nat) (h : l.length ≤ i) : at0 l i = 0 := by
  unfold at0; rw [List.getD_eq_getElem?_getD, List.getElem?_eq_none h]; rfl
theorem at0_in (l : List UInt8) (i : Nat) (h : i < l.length) : at0 l i = l[i].toNat := by
  unfold at0; rw [List.getD_eq_getElem?_getD, List.getElem?_eq_getElem h]; rfl

theorem hd_eq_pad (a b : List UInt8) : ∀ n, hd a n = hd b n → ∀ i, i < n → at0 a i = at0 b i
  | 0, _, i, hi => by omega
  | n + 1, h, i, hi => by
    rw [hd_succ, hd_succ] at h
    have h1 := at0_lt a n
    have h2 := at0_lt b n
    by_cases e : i = n
    · subst e; omega
    · exact hd_eq_pad a b n (by omega) i (by omega)

theorem less_of_pad : ∀ (n : Nat) (a b : List UInt8), (∀ i, i < n → at0 a i = at0 b i) → at0 a n < at0 b n → bytesLess a b = true
  | n, _, [], _, h => by rw [at0_past [] n (by simp)] at h; omega
  | _, [], _ :: _, _, _ => rfl
  | 0, a :: x, b :: y, _, h => by
    rw [bl_cons_iff]; left
    exact h
  | n + 1, a :: x, b :: y, hp, h => by
    rw [bl_cons_iff]; right
    refine ⟨hp 0 (by omega), less_of_pad n x y (fun i hi => ?_) h⟩
    exact hp (i + 1) (by omega)

/-- WHERE THE HEADS DIFFER THE KEYS DIFFER IN THE SAME WAY. -/
theorem less_of_hd (a b : List UInt8) : ∀ n, hd a n < hd b n → bytesLess a b = true
  | 0, h => by simp [hd] at h
  | n + 1, h => by
    rw [hd_succ, hd_succ] at h
    have h1 := at0_lt a n
    have h2 := at0_lt b n
    by_cases e : hd a n = hd b n
    · exact less_of_pad n a b (hd_eq_pad a b n e) (by omega)
    · exact less_of_hd a b n (by omega)

/-! ### A bound: a head and a key; 'before' -/
/-- (bound).before. -/
def bbB (h : Int) (k : List UInt8) (h' : Int) (k' : List UInt8) : Bool := if h = h' then bytesLess k k' else decide (h < h')

theorem bbB_irrefl (h : Int) (k : List UInt8) : bbB h k h k = false := by unfold bbB; rw [if_pos rfl]; exact bl_irrefl k
theorem bbB_trans (a x b y c z : _) : bbB a x b y = true → bbB b y c z = true → bbB a x c z = true := by
  unfold bbB
  intro h1 h2
  split at h1
  · subst a
    split at h2
    · subst b; rw [if_pos rfl]; exact bl_trans _ _ _ h1 h2
    · rw [if_neg (by assumption)]; exact h2
  · split at h2
    · subst b; rw [if_neg (by assumption)]; exact h1
    · simp only [decide_eq_true_eq] at h1 h2
      rw [if_neg (by omega)]; simp; omega
theorem bbB_asymm (a x b y : _) (h : bbB a x b y = true) : bbB b y a x = false := by
  cases h' : bbB b y a x with
  | false => rfl
  | true =>
    have := bbB_trans _ _ _ _ _ _ h h'
    rw [bbB_irrefl] at this
    cases this
theorem bbB_tri (a x b y : _) (h1 : bbB a x b y = false) (h2 : bbB b y a x = false) : a = b ∧ x = y := by
  unfold bbB at h1 h2
  by_cases e : a = b
  · subst e
    rw [if_pos rfl] at h1 h2
    exact ⟨rfl, bl_tri _ _ h1 h2⟩
  · rw [if_neg e] at h1; rw [if_neg (fun h => e h.symm)] at h2
    simp only [decide_eq_false_iff_not] at h1 h2
    omega

/-- With true heads 'before' is the order of bytes. -/
theorem bbB_hd (a b : List UInt8) : bbB (hd a 8 : Nat) a (hd b 8 : Nat) b = bytesLess a b := by
  unfold bbB
  by_cases e : hd a 8 = hd b 8
  · rw [if_pos (by omega)]
  · rw [if_neg (by omega)]
    by_cases l : hd a 8 < hd b 8
    · rw [less_of_hd a b 8 l]; simp; omega
    · have := less_of_hd b a 8 (by omega)
      rw [bl_asymm _ _ this]; simp; omega

/-! ### A span -/
/-- (span).before, over (loHead, loKey, hiHead, hiKey, open). -/
def sbB (l : Int) (lk : List UInt8) (h : Int) (hk : List UInt8) (o : Bool) (l' : Int) (lk' : List UInt8) (h' : Int) (hk' : List UInt8) (o' : Bool) : Bool :=
  if l = l' ∧ lk = lk' then (!o && (o' || bbB h hk h' hk')) else bbB l lk l' lk'
end Go.Proofs.Qxb6600618a
