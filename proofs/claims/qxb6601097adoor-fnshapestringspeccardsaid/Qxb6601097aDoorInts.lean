/-
  SLICES OF int64 IN MEMORY; THE CONTRACT OF zzCloneInts (seat Qxb6601097aDoor).
-/
import Derived.Test.Qxb6601097aDoorRows
import Derived.WalkKit
import Derived.WalkSpells
import Derived.WalkLawsBesides
import Derived.ProofKit
import Derived.Below
import Derived.Deep.OwnRows
import Derived.Lib.SmallJoins
import Derived.Lib.LazyBuf
import Derived.Deep.QuietTactic
import Derived.BigQuiet
namespace Go.Proofs.Qxb6601097aDoor
open Go.ChangeShapes Go.WideShapes Go.ChangeAt Go.RowKit Go.Joins

theorem hidden {p : Prop} (h : p) : Hid p := h

/-- The slice value v reads, in w, as the numbers xs (a slice of no element, nil or not, wherever it points: none). -/
def IsInts (w : World) (v : Value) (xs : List Int) : Prop :=
  (∃ a c, v = .slice a 0 c ∧ xs = []) ∨
    ∃ b o c, v = .slice (some ⟨b, o, none⟩) xs.length c ∧ xs.length ≤ c ∧ b < w.heap.size ∧ ∀ i, i < xs.length → w.cell? ⟨b, o + i, none⟩ = some (.int .i64 (xs.getD i 0))

theorem IsInts.below {w w' : World} {v : Value} {xs : List Int} (h : IsInts w v xs) (hb : Below w.heap.size w w') : IsInts w' v xs := by
  rcases h with h | ⟨b, o, c, hv, hc, hlt, hcell⟩
  · exact Or.inl h
  · refine Or.inr ⟨b, o, c, hv, hc, Nat.lt_of_lt_of_le hlt hb.size, fun i hi => ?_⟩
    rw [hb.cell (p := ⟨b, o + i, none⟩) hlt]
    exact hcell i hi

theorem info2 : (Tryd.prog.info? 2).map (fun i => (i.zero, i.size, i.bytes)) = some (some (.int .i64 0), 1, 8) := by kernel_rfl

/-- A row of zero values z in which the first k of vs have been laid. -/
def rowAt (vs : List Value) (z : Value) (k : Nat) : List Value := vs.take k ++ List.replicate (vs.length - k) z
theorem rowAt_zero (vs : List Value) (z : Value) : (rowAt vs z 0).toArray = madeCells #[z] vs.length := by
  unfold rowAt
  rw [show List.take 0 vs ++ List.replicate (vs.length - 0) z = List.replicate vs.length z by simp, ← toList_madeCells_one]
theorem rowAt_get (vs : List Value) (z : Value) (k : Nat) (h : k < vs.length) : (rowAt vs z k).toArray[k]? = some z := by
  unfold rowAt
  have e : vs.length - k = (vs.length - k - 1) + 1 := by omega
  rw [e, List.replicate_succ]
  simp [Nat.min_eq_left (Nat.le_of_lt h)]
theorem rowAt_set (vs : List Value) (z v : Value) (k : Nat) (h : vs[k]? = some v) : (rowAt vs z k).toArray.setIfInBounds k v = (rowAt vs z (k + 1)).toArray := by
  have hk : k < vs.length := (List.getElem?_eq_some_iff.mp h).1
  unfold rowAt
  have e : vs.length - k = (vs.length - (k + 1)) + 1 := by omega
  rw [e, List.replicate_succ, List.take_add_one, h, List.setIfInBounds_toArray]
  congr 1
  rw [List.set_append_right _ _ (by simp; omega)]
  simp [Nat.min_eq_left (Nat.le_of_lt hk)]
theorem rowAt_end (vs : List Value) (z : Value) : rowAt vs z vs.length = vs := by unfold rowAt; simp
theorem ints_get (xs : List Int) (k : Nat) (h : k < xs.length) : (xs.map (Value.int .i64))[k]? = some (.int .i64 (xs.getD k 0)) := by
  simp [h]

set_option maxHeartbeats 400000 in
theorem clone_some (b o c : Nat) (xs : List Int) (w : World) (hl : xs.length ≤ 1048576) (hb : b < w.heap.size)
    (hcell : ∀ i, i < xs.length → w.cell? ⟨b, o + i, none⟩ = some (.int .i64 (xs.getD i 0))) :
    Calls Tryd.prog 9 #[.slice (some ⟨b, o, none⟩) xs.length c] w fun e w' => e = .returned (.slice (some ⟨w.heap.size, 0, none⟩) xs.length xs.length) ∧
      w'.heap[w.heap.size]? = some (.cells (xs.map (Value.int .i64)).toArray 2) ∧ Below w.heap.size w w' := by
  have HC := hidden hcell
  clear hcell
  have hmk := run_make_row' (P := Tryd.prog) 22 2 (.int .i64 0) 8 Tryd.underlying22 info2 rfl .i64 .i64 xs.length (by omega) (by omega)
  have hnil := fun (w : World) (a : Option Addr) (l c : Nat) => run_eql_slice_nil (P := Tryd.prog) w 22 2 a l c Tryd.underlying22
  go_enter Tryd.func9, Tryd.ntmps9
  go_wp2
  clear hmk hnil
  go_loopw [4] (fun i wr => ∃ k : Nat, k ≤ xs.length ∧ i = .int .i64 k ∧ wr.heap[w.heap.size]? = some (.cells (rowAt (xs.map (Value.int .i64)) (.int .i64 0) k).toArray 2) ∧ Below w.heap.size w wr) (fun i _ => xs.length - (intOf i).toNat)
  case atStart =>
    refine ⟨0, Nat.zero_le _, rfl, ?_, below_alloc1 _ _⟩
    rw [rowAt_zero, List.length_map]
    exact heap_alloc_new w _
  case round =>
    obtain ⟨k, hk, rfl, hrow, hbel⟩ := hrel
    by_cases hlt : k < xs.length
    · have hsrc : wr.cell? ⟨b, o + k, none⟩ = some (.int .i64 (xs.getD k 0)) := (hbel.cell (p := ⟨b, o + k, none⟩) hb).trans (HC.out k hlt)
      have hdst : wr.cell? ⟨w.heap.size, k, none⟩ = some (.int .i64 0) := (cell_of_block hrow k).trans (rowAt_get _ _ _ (by simpa using hlt))
      have hfr : wr.frozen? ⟨w.heap.size, k, none⟩ = false := unfrozen_of_block hrow k
      have HR := hidden hrow
      have HB := hidden hbel
      clear hrow hbel
      obtain ⟨x, hx⟩ : ∃ x, x = xs.getD k 0 := ⟨_, rfl⟩
      rw [← hx] at hsrc
      have HX := hidden hx
      clear hx
      go_wp2
      go_roundw
      case rel => exact ⟨k + 1, by omega, by go_num, by rw [block_setCell HR.out, HX.out, rowAt_set _ _ _ _ (ints_get xs k hlt)], HB.out.setCell (Nat.le_refl _) _⟩
      case measure => simp only [intOf]; omega
    · have e : k = xs.length := by omega
      have HR := hidden hrow
      have HB := hidden hbel
      have HE := hidden e
      clear hrow hbel e
      go_wp2
      go_ret
      refine ⟨rfl, ?_, HB.out⟩
      have h := HR.out
      rw [HE.out, ← List.length_map (f := Value.int .i64), rowAt_end] at h
      exact h

theorem clone_nil (c : Nat) (w : World) : Calls Tryd.prog 9 #[.slice none 0 c] w fun e w' => e = .returned (.slice none 0 0) ∧ w' = w := by
  have hnil := fun (w : World) (a : Option Addr) (l c : Nat) => run_eql_slice_nil (P := Tryd.prog) w 22 2 a l c Tryd.underlying22
  go_enter Tryd.func9, Tryd.ntmps9
  go_wp2
  go_ret
  exact ⟨rfl, rfl⟩
theorem clone_empty (x : Addr) (c : Nat) (w : World) : Calls Tryd.prog 9 #[.slice (some x) 0 c] w fun e w' => e = .returned (.slice (some ⟨w.heap.size, 0, none⟩) 0 0) ∧ Below w.heap.size w w' := by
  have hnil := fun (w : World) (a : Option Addr) (l c : Nat) => run_eql_slice_nil (P := Tryd.prog) w 22 2 a l c Tryd.underlying22
  have hmk := run_make_row' (P := Tryd.prog) 22 2 (.int .i64 0) 8 Tryd.underlying22 info2 rfl .i64 .i64 0 (by omega) (by omega)
  simp only [Int.natCast_zero] at hmk
  go_enter Tryd.func9, Tryd.ntmps9
  go_wp2
  clear hmk hnil
  go_loop [4] (fun i => i = .int .i64 0) (fun _ => 0)
  case atStart => rfl
  case round =>
    subst hrel
    go_wp2
    go_ret
    exact ⟨rfl, below_alloc1 _ _⟩

/-- zzCloneInts: the same numbers, nothing old turned. -/
theorem clone_any (v : Value) (xs : List Int) (w : World) (hl : xs.length ≤ 1048576) (h : IsInts w v xs) :
    Calls Tryd.prog 9 #[v] w fun e w' => ∃ v', e = .returned v' ∧ IsInts w' v' xs ∧ Below w.heap.size w w' := by
  rcases h with ⟨a, c, rfl, rfl⟩ | ⟨b, o, c, rfl, hc, hb, hcell⟩
  · cases a with
    | none =>
      refine (clone_nil c w).mono ?_
      rintro e w' ⟨rfl, rfl⟩
      exact ⟨_, rfl, Or.inl ⟨_, _, rfl, rfl⟩, Below.refl _ _⟩
    | some x =>
      refine (clone_empty x c w).mono ?_
      rintro e w' ⟨rfl, hb⟩
      exact ⟨_, rfl, Or.inl ⟨_, _, rfl, rfl⟩, hb⟩
  · refine (clone_some b o c xs w hl hb hcell).mono ?_
    rintro e w' ⟨rfl, hrow, hbel⟩
    refine ⟨_, rfl, Or.inr ⟨w.heap.size, 0, xs.length, rfl, Nat.le_refl _, ?_, fun i hi => ?_⟩, hbel⟩
    · exact (Array.getElem?_eq_some_iff.mp hrow).1
    · rw [Nat.zero_add, cell_of_block hrow i]
      simpa using ints_get xs i hi

/-! ### zzSameInts -/
theorem same_len (a1 a2 : Option Addr) (n1 n2 c1 c2 : Nat) (w : World) (hne : n1 ≠ n2) :
    Calls Tryd.prog 14 #[.slice a1 n1 c1, .slice a2 n2 c2] w fun e w' => e = .returned (.bool false) ∧ w' = w := by
  have hd : ((n1 : Int) != n2) = true := by simp; omega
  go_enter Tryd.func14, Tryd.ntmps14
  go_wp2
  go_ret
  exact ⟨rfl, rfl⟩

theorem same_none (a1 a2 : Option Addr) (c1 c2 : Nat) (w : World) :
    Calls Tryd.prog 14 #[.slice a1 0 c1, .slice a2 0 c2] w fun e w' => e = .returned (.bool true) ∧ w' = w := by
  go_enter Tryd.func14, Tryd.ntmps14
  go_wp2
  go_loop [5] (fun i => i = .int .i64 0) (fun _ => 0)
  case atStart => rfl
  case round =>
    subst hrel
    go_wp2
    go_ret
    exact ⟨rfl, rfl⟩

theorem take_next {xs ys : List Int} {k : Nat} (hx : k < xs.length) (hy : k < ys.length) (h : xs.take k = ys.take k) (e : xs.getD k 0 = ys.getD k 0) : xs.take (k + 1) = ys.take (k + 1) := by
  rw [List.take_add_one, List.take_add_one, h]
  simp only [List.getD_eq_getElem?_getD, List.getElem?_eq_getElem hx, List.getElem?_eq_getElem hy, Option.getD_some] at e ⊢
  rw [e]
theorem ret_bool {a b : Bool} (h : a = b) : Ending.returned (.bool a) = .returned (.bool b) := by rw [h]

set_option maxHeartbeats 400000 in
theorem same_some (b1 o1 c1 b2 o2 c2 : Nat) (xs ys : List Int) (w : World) (hl : xs.length ≤ 1048576) (he : xs.length = ys.length)
    (hcx : ∀ i, i < xs.length → w.cell? ⟨b1, o1 + i, none⟩ = some (.int .i64 (xs.getD i 0)))
    (hcy : ∀ i, i < ys.length → w.cell? ⟨b2, o2 + i, none⟩ = some (.int .i64 (ys.getD i 0))) :
    Calls Tryd.prog 14 #[.slice (some ⟨b1, o1, none⟩) xs.length c1, .slice (some ⟨b2, o2, none⟩) xs.length c2] w fun e w' => e = .returned (.bool (decide (xs = ys))) ∧ ∃ n, w' = w.drewN n := by
  have HX := hidden hcx
  have HY := hidden hcy
  have HE := hidden he
  clear hcx hcy he
  go_enter Tryd.func14, Tryd.ntmps14
  go_wp2
  go_loopw [5] (fun i wr => ∃ k : Nat, k ≤ xs.length ∧ i = .int .i64 k ∧ xs.take k = ys.take k ∧ ∃ n, wr = w.drewN n) (fun i _ => xs.length - (intOf i).toNat)
  case atStart => exact ⟨0, Nat.zero_le _, rfl, rfl, 0, rfl⟩
  case round =>
    obtain ⟨k, hk, rfl, ht, n, rfl⟩ := hrel
    have HT := hidden ht
    clear ht
    by_cases hlt : k < xs.length
    · have hsx := HX.out k hlt
      have hsy := HY.out k (by rw [← HE.out]; exact hlt)
      have hi : (k : Int) < (xs.length : Int) := by omega
      by_cases e : xs.getD k 0 = ys.getD k 0
      · have hd : (xs.getD k 0 != ys.getD k 0) = false := by rw [e]; simp
        have HN := hidden e
        clear e
        obtain ⟨x, hx⟩ : ∃ x, x = xs.getD k 0 := ⟨_, rfl⟩
        obtain ⟨y, hy⟩ : ∃ y, y = ys.getD k 0 := ⟨_, rfl⟩
        rw [← hx] at hsx hd
        rw [← hy] at hsy hd
        clear hx hy
        go_wp2
        go_quiet (fail)
        go_wp2
        go_roundw
        case rel => exact ⟨k + 1, by omega, by go_num, take_next hlt (by rw [← HE.out]; exact hlt) HT.out HN.out, _, rfl⟩
        case measure => simp only [intOf]; omega
      · have hd : (xs.getD k 0 != ys.getD k 0) = true := by simpa using e
        have HN := hidden e
        clear e
        obtain ⟨x, hx⟩ : ∃ x, x = xs.getD k 0 := ⟨_, rfl⟩
        obtain ⟨y, hy⟩ : ∃ y, y = ys.getD k 0 := ⟨_, rfl⟩
        rw [← hx] at hsx hd
        rw [← hy] at hsy hd
        clear hx hy
        go_wp2
        go_quiet (fail)
        go_wp2
        go_ret
        exact ⟨ret_bool (by symm; simp only [decide_eq_false_iff_not]; intro h; exact HN.out (by rw [h])), _, World.drewN_drewN _ _ _⟩
    · have HK := hidden (show k = xs.length by omega)
      go_wp2
      go_ret
      refine ⟨ret_bool (by symm; simp only [decide_eq_true_eq]; have h := HT.out; rw [HK.out, List.take_length] at h; rw [h, HE.out, List.take_length]), _, rfl⟩

/-- zzSameInts: are the numbers the same? -/
theorem same_any (v1 v2 : Value) (xs ys : List Int) (w : World) (hx : xs.length ≤ 1048576) (h1 : IsInts w v1 xs) (h2 : IsInts w v2 ys) :
    Calls Tryd.prog 14 #[v1, v2] w fun e w' => e = .returned (.bool (decide (xs = ys))) ∧ ∃ n, w' = w.drewN n := by
  by_cases hn : xs.length = ys.length
  · by_cases h0 : xs.length = 0
    · have ex : xs = [] := List.length_eq_zero_iff.mp h0
      have ey : ys = [] := List.length_eq_zero_iff.mp (by omega)
      subst ex ey
      have f1 : ∃ a c, v1 = .slice a 0 c := by rcases h1 with ⟨a, c, rfl, _⟩ | ⟨b, o, c, rfl, _⟩ <;> exact ⟨_, _, rfl⟩
      have f2 : ∃ a c, v2 = .slice a 0 c := by rcases h2 with ⟨a, c, rfl, _⟩ | ⟨b, o, c, rfl, _⟩ <;> exact ⟨_, _, rfl⟩
      obtain ⟨a1, c1, rfl⟩ := f1
      obtain ⟨a2, c2, rfl⟩ := f2
      refine (same_none a1 a2 c1 c2 w).mono ?_
      rintro e w' ⟨rfl, rfl⟩
      exact ⟨rfl, 0, rfl⟩
    · rcases h1 with ⟨_, _, _, rfl⟩ | ⟨b1, o1, c1, rfl, _, _, hcx⟩
      · simp at h0
      rcases h2 with ⟨_, _, _, rfl⟩ | ⟨b2, o2, c2, rfl, _, _, hcy⟩
      · simp at hn; exact absurd (by simp [hn]) h0
      rw [← hn]
      exact same_some b1 o1 c1 b2 o2 c2 xs ys w hx hn hcx hcy
  · have f1 : ∃ a c, v1 = .slice a xs.length c := by rcases h1 with ⟨a, c, rfl, rfl⟩ | ⟨b, o, c, rfl, _⟩ <;> exact ⟨_, _, rfl⟩
    have f2 : ∃ a c, v2 = .slice a ys.length c := by rcases h2 with ⟨a, c, rfl, rfl⟩ | ⟨b, o, c, rfl, _⟩ <;> exact ⟨_, _, rfl⟩
    obtain ⟨a1, c1, rfl⟩ := f1
    obtain ⟨a2, c2, rfl⟩ := f2
    refine (same_len a1 a2 _ _ c1 c2 w hn).mono ?_
    rintro e w' ⟨rfl, rfl⟩
    exact ⟨ret_bool (by symm; simp only [decide_eq_false_iff_not]; intro h; exact hn (by rw [h])), 0, rfl⟩
end Go.Proofs.Qxb6601097aDoor
