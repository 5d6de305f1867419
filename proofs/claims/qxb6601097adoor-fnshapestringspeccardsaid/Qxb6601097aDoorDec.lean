/-
  THE CONTRACT OF zzDecimal: the decimal numeral in a row of the call's own (seat Qxb6601097aDoor).
-/
import Derived.Test.Qxb6601097aDoorDecPlain
import Derived.Deep.DeepCutAuto
import Derived.OwnWalk
import Derived.Lib.BufferWrite
namespace Go.Proofs.Qxb6601097aDoor
open Go.ChangeShapes Go.WideShapes Go.ChangeAt Go.RowKit Go.Joins

theorem info5 : (Tryd.prog.info? 5).map (fun i => (i.zero, i.size, i.bytes)) = some (some (.int .u8 0), 1, 1) := by kernel_rfl

/-- The bytes l lie in a row of the call's own (from block B on), and v is the slice over them. -/
def Own (B : Nat) (w : World) (v : Value) (l : List UInt8) : Prop := w.ownsRow B 5 1 v l.length (Lib.byteCells l)

theorem one_new (w : World) (u : Value) (g : Nat) (hg : g = w.heap.size) : ∀ (j : Nat) (x : Value), [u][j]? = some x → (w.alloc (.cells #[u] 5)).cell? ((⟨g, 0, none⟩ : Addr).add j) = some x := by
  subst hg
  intro j x hj
  match j, hj with
  | 0, hj => simp at hj; subst hj; simp [Addr.add]
/-- Behind an append of one byte: the row is owned, and nothing old has turned. -/
theorem own_step {B : Nat} {w0 w w1 : World} {v v' u : Value} {l : List UInt8} {c : UInt8} {o : Obj} (hown : Own B w v l) (hb : Below B w0 w) (hB : B ≤ w0.heap.size)
    (hu : u = .int .u8 c.toNat) (hown' : w1.ownsRow B 5 1 v' (l.length + 1) (Lib.byteCells l ++ [u])) (hg : (w.alloc o).grownBy w1 v.ownBlock) :
    Own B w1 v' (l ++ [c]) ∧ Below B w0 w1 := by
  have hBw : B ≤ w.heap.size := Nat.le_trans hB hb.size
  refine ⟨?_, (hb.alloc hBw o).grown hg (by simp; omega) (fun k hk => (hown.lt k hk).1)⟩
  unfold Own
  rw [Lib.byteCells_append, List.length_append, List.length_singleton]
  have e : Lib.byteCells [c] = [u] := by rw [hu]; rfl
  rw [e]
  exact hown'
theorem own_nil (w : World) : Own w.heap.size (w.alloc (.cells #[] 5)) (.slice (some ⟨w.heap.size, 0, none⟩) 0 0) [] := World.ownsRow_lit w #[] 0 (Nat.le_refl _) (Nat.zero_le _) rfl

theorem pre_len (n : Int) (h0 : -9223372036854775808 ≤ n) (h1 : n ≤ 9223372036854775807) (t : Nat) : (sgn n ++ (Lib.decDigits n.natAbs).take t).length ≤ 21 := by
  have h2 := Lib.nDigits_le20 n.natAbs (by omega)
  have h3 : (sgn n).length ≤ 1 := by unfold sgn; split <;> simp
  rw [List.length_append, List.length_take, Lib.decDigits_length]
  omega
/-- Behind one digit more. -/
theorem own_more {w0 w w1 : World} {v v' u : Value} {s d : List UInt8} {t m n' : Nat} {o : Obj} (hown : Own w0.heap.size w v (s ++ d.take t)) (hb : Below w0.heap.size w0 w)
    (hc : Lib.byteCells (d.take (t + 1)) = Lib.byteCells (d.take t) ++ [u]) (_ht : t < m)
    (hown' : w1.ownsRow w0.heap.size 5 1 v' n' (Lib.byteCells (s ++ d.take t) ++ [u])) (hg : (w.alloc o).grownBy w1 v.ownBlock) :
    Own w0.heap.size w1 v' (s ++ d.take (t + 1)) ∧ Below w0.heap.size w0 w1 := by
  refine ⟨?_, (hb.alloc hb.size o).grown hg (by simp; have := hb.size; omega) (fun k hk => (hown.lt k hk).1)⟩
  have e : Lib.byteCells (s ++ d.take (t + 1)) = Lib.byteCells (s ++ d.take t) ++ [u] := by rw [Lib.byteCells_append, hc, Lib.byteCells_append, List.append_assoc]
  have el : (s ++ d.take (t + 1)).length = (s ++ d.take t).length + 1 := by
    have := congrArg List.length e
    simpa [Lib.byteCells_length] using this
  have en : n' = (s ++ d.take t).length + 1 := by
    have := hown'.1
    rw [List.length_append, Lib.byteCells_length, List.length_singleton] at this
    omega
  unfold Own
  rw [e, el, ← en]
  exact hown'
theorem pow_step {P U : Int} (h : ∃ k : Nat, P = ((10 ^ k : Nat) : Int) ∧ (k = 0 ∨ P ≤ U)) (hu : P * 10 ≤ U) : Hid (∃ k : Nat, P * 10 = ((10 ^ k : Nat) : Int) ∧ (k = 0 ∨ P * 10 ≤ U)) := by
  obtain ⟨k, e, _⟩ := h
  exact ⟨k + 1, by rw [e, Nat.pow_succ]; omega, Or.inr hu⟩
theorem st_of {P U : Int} {u : Nat} (h : ∃ k : Nat, P = ((10 ^ k : Nat) : Int) ∧ (k = 0 ∨ P ≤ U)) (hu : U = (u : Int)) (hn : ¬ P ≤ U / 10) : St u 0 U P := by
  obtain ⟨k, e, hk⟩ := h
  rw [hu, e]
  refine st_start u k ?_ ?_
  · rw [Nat.pow_succ]; rw [hu, e] at hn; omega
  · rcases hk with hk | hk
    · exact Or.inl hk
    · exact Or.inr (by rw [hu, e] at hk; omega)

set_option maxHeartbeats 1000000 in
set_option maxRecDepth 100000 in
theorem dec_any (n : Int) (w : World) (h0 : -9223372036854775808 ≤ n) (h1 : n ≤ 9223372036854775807) :
    Calls Tryd.prog 22 #[.int .i64 n] w fun e w' => ∃ v, e = .returned v ∧ Own w.heap.size w' v (Lib.itoa n) ∧ Below w.heap.size w w' := by
  obtain ⟨i0, hi, hz0, hz1, hz2⟩ := info_parts info5
  go_enter Tryd.func22, Tryd.ntmps22
  go_upto_if 9 with fail
  go_cut [3, 4] (fun s3 s4 wc => ∃ (U : Int), s3 = .int .u64 U ∧ 0 ≤ U ∧ U ≤ 9223372036854775808 ∧ Hid (U = (n.natAbs : Int)) ∧ Own w.heap.size wc s4 (sgn n) ∧ Below w.heap.size w wc)
  case first =>
    by_cases hn : n < 0
    · go_wp2_with (at_builtin; refine wpList_append_own _ rfl (.tmp 15) (.tmp 16) 26 rfl w.heap.size 5 i0 (.int .u8 0) 1 1 Tryd.underlying26 hi hz0 hz1 hz2 rfl (by decide) _ 0 [] rfl ((own_nil w).alloc _) ⟨w.heap.size + 1, 0, none⟩ 1 1 [.int .u8 45] rfl rfl ?c1 ?c2 ?c3 ?c4 ?c5 ?_)
      case c1 => exact one_new (w.alloc (.cells #[] 5)) (.int .u8 45) _ (by simp)
      case c2 => intro u hu; simp at hu; subst hu; rfl
      case c3 => unfold maxLen; omega
      case c4 => omega
      case c5 => simp; omega
      intro v' w1 hown' hgrow _
      have R := own_step (c := 45) (own_nil w) (below_alloc1 _ _) (Nat.le_refl _) rfl hown' hgrow
      have HR := hidden R
      have HN := hidden (show -(n + 1) + 1 = (n.natAbs : Int) by omega)
      have HS := hidden (show sgn n = [] ++ [45] by unfold sgn; rw [if_pos hn]; rfl)
      clear R hown' hgrow
      go_wp2
      go_meet
      case rel => exact ⟨_, rfl, by omega, by omega, HN.out, by rw [HS.out]; exact HR.out.1, HR.out.2⟩
    · have HN := hidden (show n = (n.natAbs : Int) by omega)
      have HS := hidden (show sgn n = [] by unfold sgn; rw [if_neg hn])
      go_wp2
      go_meet
      case rel => exact ⟨_, rfl, by omega, by omega, HN.out, by rw [HS.out]; exact own_nil w, below_alloc1 _ _⟩
  case rest =>
    obtain ⟨U, rfl, hU0, hU1, HU, hown, hbel⟩ := hcut
    have HO := hidden hown
    have HB := hidden hbel
    clear hown hbel
    go_wp2
    go_loop [5] (fun sp => ∃ P : Int, sp = .int .u64 P ∧ 1 ≤ P ∧ P ≤ 9223372036854775808 ∧ Hid (∃ k : Nat, P = ((10 ^ k : Nat) : Int) ∧ (k = 0 ∨ P ≤ U))) (fun sp => (U - intOf sp).toNat)
    case atStart => exact ⟨1, rfl, by omega, by omega, 0, rfl, Or.inl rfl⟩
    case round =>
      obtain ⟨P, rfl, hP1, hP2, HP⟩ := hrel
      by_cases ht : P ≤ U / 10
      · go_wp2
        go_round
        case rel => exact ⟨_, rfl, by omega, by omega, pow_step HP.out (by omega)⟩
        case measure => simp only [intOf]; omega
      · have HS := hidden (st_of HP.out HU.out ht)
        clear HP
        go_wp2
        go_loopw [3, 4, 5] (fun su sv sp wr => ∃ (t : Nat) (X Y : Int), su = .int .u64 X ∧ sp = .int .u64 Y ∧ 0 ≤ X ∧ X ≤ 9223372036854775808 ∧ 0 ≤ Y ∧ Y ≤ 9223372036854775808 ∧ Hid (St n.natAbs t X Y) ∧ Own w.heap.size wr sv (sgn n ++ (Lib.decDigits n.natAbs).take t) ∧ Below w.heap.size w wr) (fun _ _ sp _ => (intOf sp).toNat)
        case atStart => exact ⟨0, U, P, rfl, rfl, hU0, hU1, by omega, hP2, HS.out, by simpa using HO.out, HB.out⟩
        case round =>
          obtain ⟨t, X, Y, rfl, rfl, hX0, hX1, hY0, hY1, HT, hown, hbel⟩ := hrel
          by_cases hY : 0 < Y
          · obtain ⟨tl, q0, q1, m0, m1, hst, hcells⟩ := st_step _ _ _ _ HT.out hY
            have HN := hidden hst
            have HC := hidden hcells
            have HL := hidden tl
            have HB2 := hidden hbel
            clear hst hcells tl hbel
            have hlen := pre_len n h0 h1 t
            have HO2 := hidden hown
            clear hown
            go_wp2_with (at_builtin; refine wpList_append_own _ rfl (.tmp 31) (.tmp 35) 26 rfl w.heap.size 5 i0 (.int .u8 0) 1 1 Tryd.underlying26 hi hz0 hz1 hz2 rfl (by decide) _ _ _ rfl (World.ownsRow.alloc HO2.out _) ⟨wr.heap.size, 0, none⟩ 1 1 [.int .u8 (48 + X / Y)] rfl rfl ?c1 ?c2 ?c3 ?c4 ?c5 ?_)
            case c1 => exact one_new wr _ _ rfl
            case c2 => intro u hu; simp at hu; subst hu; rfl
            case c3 => unfold maxLen; omega
            case c4 => omega
            case c5 => have := HB2.out.size; simp; omega
            intro v' w1 hown' hgrow _
            have HR := hidden (own_more HO2.out HB2.out HC.out HL.out hown' hgrow)
            clear hown' hgrow
            go_wp2
            go_roundw
            case rel => exact ⟨t + 1, _, _, rfl, rfl, by omega, by omega, by omega, by omega, HN.out, HR.out.1, HR.out.2⟩
            case measure => simp only [intOf]; omega
          · have HE := hidden (st_end _ _ _ _ HT.out hY)
            have HO2 := hidden hown
            have HB2 := hidden hbel
            clear hown hbel
            go_wp2
            go_ret
            exact ⟨_, rfl, by have h := HO2.out; rw [HE.out] at h; rw [itoa_sgn]; exact h, HB2.out⟩
end Go.Proofs.Qxb6601097aDoor
