/-
  THE PLAIN SIDE OF zzDecimal: the digits from the highest down (seat Qxb6601097aDoor). No Go in sight.
-/
import Derived.Test.Qxb6601097aDoorInj
namespace Go.Proofs.Qxb6601097aDoor

/-- The sign that stands ahead of the digits. -/
def sgn (n : Int) : List UInt8 := if n < 0 then [45] else []
theorem itoa_sgn (n : Int) : Lib.itoa n = sgn n ++ Lib.decDigits n.natAbs := by
  unfold Lib.itoa sgn
  split
  · rfl
  · rw [show n.toNat = n.natAbs by omega]; rfl

/-- Behind t digits: what is left of the number, and the power that divides next. -/
def St (u t : Nat) (U P : Int) : Prop :=
  t ≤ Lib.nDigits u ∧ U = ((u % 10 ^ (Lib.nDigits u - t) : Nat) : Int) ∧ P = if t < Lib.nDigits u then ((10 ^ (Lib.nDigits u - 1 - t) : Nat) : Int) else 0

theorem st_start (u k : Nat) (h1 : u < 10 ^ (k + 1)) (h2 : k = 0 ∨ 10 ^ k ≤ u) : St u 0 (u : Int) ((10 ^ k : Nat) : Int) := by
  have hn : Lib.nDigits u = k + 1 := by
    rcases h2 with e | h2
    · subst e; exact Lib.nDigits_small (by simpa using h1)
    · exact Lib.nDigits_unique k u h2 h1
  unfold St
  rw [hn]
  refine ⟨by omega, ?_, ?_⟩
  · rw [Nat.sub_zero, Nat.mod_eq_of_lt h1]
  · rw [if_pos (by omega)]; rfl

theorem dg_toNat (u j : Nat) : (Lib.dg u j).toNat = 48 + u / 10 ^ j % 10 := by
  unfold Lib.dg
  exact digit_toNat _ (by omega)
theorem dec_take (u t : Nat) (ht : t < Lib.nDigits u) : (Lib.decDigits u).take (t + 1) = (Lib.decDigits u).take t ++ [Lib.dg u (Lib.nDigits u - 1 - t)] := by
  rw [List.take_add_one]
  congr 1
  rw [Lib.decDigits_eq]
  simp [ht]

theorem st_nat (u t : Nat) (ht : t < Lib.nDigits u) : ∃ j, Lib.nDigits u - 1 - t = j ∧ Lib.nDigits u - t = j + 1 ∧ Lib.nDigits u - (t + 1) = j ∧
    u % 10 ^ (j + 1) / 10 ^ j = u / 10 ^ j % 10 ∧ u % 10 ^ (j + 1) % 10 ^ j = u % 10 ^ j ∧ 0 < 10 ^ j := by
  refine ⟨Lib.nDigits u - 1 - t, rfl, by omega, by omega, ?_, ?_, Nat.pow_pos (by omega)⟩
  · rw [Nat.pow_succ, Nat.mod_mul_right_div_self]
  · rw [Nat.mod_mod_of_dvd _ (Nat.pow_dvd_pow 10 (by omega))]

theorem st_step (u t : Nat) (U P : Int) (h : St u t U P) (hP : 0 < P) :
    t < Lib.nDigits u ∧ 0 ≤ U / P ∧ U / P ≤ 9 ∧ 0 ≤ U / P * P ∧ U / P * P ≤ U ∧ St u (t + 1) (U - U / P * P) (P / 10) ∧
      Lib.byteCells ((Lib.decDigits u).take (t + 1)) = Lib.byteCells ((Lib.decDigits u).take t) ++ [Value.int .u8 (48 + U / P)] := by
  obtain ⟨hle, hU, hPe⟩ := h
  have ht : t < Lib.nDigits u := by
    apply Classical.byContradiction
    intro hn
    rw [if_neg hn] at hPe
    omega
  rw [if_pos ht] at hPe
  obtain ⟨j, e1, e2, e3, e4, e5, hp⟩ := st_nat u t ht
  rw [e1] at hPe
  rw [e2] at hU
  have hdiv : U / P = ((u / 10 ^ j % 10 : Nat) : Int) := by rw [hU, hPe, ← Int.natCast_ediv, e4]
  have hmod : U - U / P * P = ((u % 10 ^ j : Nat) : Int) := by
    have h1 : U % P = ((u % 10 ^ j : Nat) : Int) := by rw [hU, hPe, ← Int.natCast_emod, e5]
    have h2 := Int.emod_add_mul_ediv U P
    rw [Int.mul_comm (U / P) P]
    omega
  have hU0 : 0 ≤ U := by rw [hU]; omega
  refine ⟨ht, by rw [hdiv]; omega, by rw [hdiv]; omega, ?_, ?_, ⟨by omega, ?_, ?_⟩, ?_⟩
  · exact Int.mul_nonneg (by rw [hdiv]; omega) (by omega)
  · exact Int.ediv_mul_le U (by omega)
  · rw [e3]; exact hmod
  · rw [hPe]
    by_cases hj : t + 1 < Lib.nDigits u
    · rw [if_pos hj]
      have e6 : j = (Lib.nDigits u - 1 - (t + 1)) + 1 := by omega
      rw [e6, Nat.pow_succ]
      omega
    · rw [if_neg hj]
      have e6 : j = 0 := by omega
      rw [e6]; rfl
  · rw [dec_take u t ht, e1, Lib.byteCells_append]
    congr 1
    show [Value.int .u8 ((Lib.dg u j).toNat : Int)] = _
    rw [dg_toNat, hdiv]
    simp

theorem st_end (u t : Nat) (U P : Int) (h : St u t U P) (hP : ¬ 0 < P) : (Lib.decDigits u).take t = Lib.decDigits u := by
  obtain ⟨hle, hU, hPe⟩ := h
  apply List.take_of_length_le
  rw [Lib.decDigits_length]
  apply Classical.byContradiction
  intro hn
  rw [if_pos (by omega)] at hPe
  have : 0 < 10 ^ (Lib.nDigits u - 1 - t) := Nat.pow_pos (by omega)
  omega
end Go.Proofs.Qxb6601097aDoor
