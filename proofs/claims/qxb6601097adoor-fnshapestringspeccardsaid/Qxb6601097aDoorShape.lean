/-
  THE CONTRACT OF (header).shapeString AND ZZShapeString (seat Qxb6601097aDoor).
-/
import Derived.Test.Qxb6601097aDoorInts
import Derived.Test.Qxb6601097aDoorShelf
import Derived.Lib.ItoaLen
import Derived.Lib.AppendIntMem
namespace Go.Proofs.Qxb6601097aDoor
open Go.ChangeShapes Go.WideShapes Go.ChangeAt Go.RowKit Go.Joins

/-- The shape as Python writes a tuple. -/
def shapeL (xs : List Int) : List UInt8 :=
  if xs.length = 1 then 40 :: (Lib.itoa (xs.getD 0 0) ++ [44, 41]) else 40 :: (Lib.join (xs.map Lib.itoa) [44, 32] ++ [41])

/-- Every number is an int64. -/
def In64s (xs : List Int) : Prop := ∀ x ∈ xs, -9223372036854775808 ≤ x ∧ x ≤ 9223372036854775807
theorem In64s.at {xs : List Int} (h : In64s xs) (k : Nat) (hk : k < xs.length) : -9223372036854775808 ≤ xs.getD k 0 ∧ xs.getD k 0 ≤ 9223372036854775807 := by
  have e : xs.getD k 0 = xs[k] := by simp [hk]
  rw [e]; exact h _ (List.getElem_mem hk)

/-- A numeral as a Go string. -/
def numS (x : Int) : ByteArray := ⟨(Lib.itoa x).toArray⟩
theorem info9 : (Tryd.prog.info? 9).map (fun i => (i.zero, i.size, i.bytes)) = some (some (.string ⟨#[]⟩), 1, 16) := by kernel_rfl
theorem nums_get (xs : List Int) (k : Nat) (h : k < xs.length) : (xs.map fun x => Value.string (numS x))[k]? = some (.string (numS (xs.getD k 0))) := by
  simp [h]

theorem format_any (n : Int) (h0 : -9223372036854775808 ≤ n) (h1 : n ≤ 9223372036854775807) (w : World) (htab : Lib.TabIs Tryd.prog w Tryd.powName .u64 Lib.pow10Tab) :
    Calls Tryd.prog 25 #[.int .i64 n, .int .i64 10] w fun e w' => e = .returned (.string (numS n)) ∧ Below w.heap.size w w' := by
  refine (Tryd.strconv_FormatInt_10 n h0 h1 w htab).mono ?_
  rintro e w' ⟨rfl, k, os, rfl⟩
  exact ⟨rfl, Lib.below_grow _ w (Nat.le_refl _) k os⟩

theorem numS_size (x : Int) (h0 : -9223372036854775808 ≤ x) (h1 : x ≤ 9223372036854775807) : (numS x).size ≤ 21 := Lib.itoa_length_le x h0 h1
theorem numS_data (x : Int) : (numS x).data.toList = Lib.itoa x := rfl
theorem lens_le : ∀ (xs : List Int), In64s xs → Lib.lens (xs.map Lib.itoa) ≤ 21 * xs.length
  | [], _ => by simp [Lib.lens]
  | x :: r, h => by
    have h1 := lens_le r (fun y hy => h y (List.mem_cons_of_mem _ hy))
    have h2 := h x (List.mem_cons_self ..)
    have h3 := Lib.itoa_length_le x h2.1 h2.2
    simp only [Lib.lens, List.map_cons, List.sum_cons, List.length_cons] at h1 ⊢
    omega
theorem join_le (xs : List Int) (h : In64s xs) : (Lib.join (xs.map Lib.itoa) [44, 32]).length ≤ 23 * xs.length := by
  cases xs with
  | nil => simp [Lib.join_nil]
  | cons x r =>
    have h1 := lens_le (x :: r) h
    rw [List.map_cons, Lib.join_length]
    simp only [List.map_cons, List.length_cons, List.length_map, List.length_nil] at h1 ⊢
    omega
theorem bytes_ext {a b : ByteArray} (h : a.data.toList = b.data.toList) : a = b := by
  obtain ⟨⟨x⟩⟩ := a
  obtain ⟨⟨y⟩⟩ := b
  simp at h
  rw [h]
theorem ret_str {a b : ByteArray} (h : a = b) : Ending.returned (.string a) = .returned (.string b) := by rw [h]
theorem shape_one (xs : List Int) (s : ByteArray) (h : xs.length = 1) (hs : s = numS (xs.getD 0 0)) : (⟨#[40]⟩ : ByteArray) ++ s ++ ⟨#[44, 41]⟩ = ⟨(shapeL xs).toArray⟩ := by
  apply bytes_ext
  unfold shapeL
  rw [if_pos h, data_append, data_append, hs, numS_data]
  simp
theorem shape_not (xs : List Int) (s : ByteArray) (h : xs.length ≠ 1) (hs : s.data.toList = Lib.join (xs.map Lib.itoa) [44, 32]) : (⟨#[40]⟩ : ByteArray) ++ s ++ ⟨#[41]⟩ = ⟨(shapeL xs).toArray⟩ := by
  apply bytes_ext
  unfold shapeL
  rw [if_neg h, data_append, data_append, hs]
  simp
/-- strings.Join over a row of numerals. -/
theorem joinN_any (g : Nat) (xs : List Int) (w : World) (hrow : w.heap[g]? = some (.cells (xs.map fun x => Value.string (numS x)).toArray 9)) (hl : xs.length ≤ 131072) (hx : In64s xs) :
    Calls Tryd.prog 26 #[.slice (some ⟨g, 0, none⟩) xs.length xs.length, .string ⟨#[44, 32]⟩] w fun e w' => ∃ s : ByteArray, e = .returned (.string s) ∧ s.data.toList = Lib.join (xs.map Lib.itoa) [44, 32] ∧ s.size ≤ 3014656 ∧ Below w.heap.size w w' := by
  have hj := join_le xs hx
  have em : (xs.map numS).map (·.data.toList) = xs.map Lib.itoa := by simp [numS_data, Function.comp_def]
  have h := Tryd.strings_Join g 0 xs.length (xs.map numS) ⟨#[44, 32]⟩ w (fun j x hx => by
    rw [Nat.zero_add, cell_of_block hrow j]
    simp only [List.getElem?_toArray, List.getElem?_map, Option.map_eq_some_iff] at hx ⊢
    obtain ⟨y, hy, rfl⟩ := hx
    exact ⟨y, hy, rfl⟩) ((Array.getElem?_eq_some_iff.mp hrow).1) (by simp; omega) (by simp) (by rw [em]; show (Lib.join (xs.map Lib.itoa) [44, 32]).length ≤ _; omega)
  rw [em, List.length_map] at h
  refine h.mono ?_
  rintro e w' ⟨rfl, hb⟩
  refine ⟨_, rfl, rfl, ?_, hb⟩
  show (Lib.join (xs.map Lib.itoa) [44, 32]).length ≤ _
  omega

theorem heap_two_new (w : World) (o1 o2 : Obj) : ((w.alloc o1).alloc o2).heap[w.heap.size + 1]? = some o2 := by
  have h := heap_alloc_new (w.alloc o1) o2
  simpa using h

set_option maxHeartbeats 400000 in
theorem shape_some (b o c : Nat) (xs : List Int) (w : World) (hl : xs.length ≤ 131072) (hb : b < w.heap.size) (hx : In64s xs) (htab : Lib.TabBelow Tryd.prog w.heap.size w Tryd.powName .u64 Lib.pow10Tab)
    (hcell : ∀ i, i < xs.length → w.cell? ⟨b, o + i, none⟩ = some (.int .i64 (xs.getD i 0))) :
    Calls Tryd.prog 21 #[.agg #[.string ⟨#[]⟩, .bool false, .slice (some ⟨b, o, none⟩) xs.length c, .int .i64 0]] w fun e w' => e = .returned (.string ⟨(shapeL xs).toArray⟩) ∧ Below w.heap.size w w' := by
  have HC := hidden hcell
  have HT := hidden htab
  have HX := hidden hx
  clear hcell htab hx
  have hmk := run_make_row' (P := Tryd.prog) 45 9 (.string ⟨#[]⟩) 16 Tryd.underlying45 info9 rfl .i64 .i64 xs.length (by omega) (by omega)
  go_enter Tryd.func21, Tryd.ntmps21
  go_wp2
  clear hmk
  go_loopw [13] (fun i wr => ∃ k : Nat, k ≤ xs.length ∧ i = .int .i64 k ∧ wr.heap[w.heap.size + 1]? = some (.cells (rowAt (xs.map fun x => Value.string (numS x)) (.string ⟨#[]⟩) k).toArray 9) ∧ Below w.heap.size w wr) (fun i _ => xs.length - (intOf i).toNat)
  case atStart =>
    refine ⟨0, Nat.zero_le _, rfl, ?_, below_alloc2 _ _ _⟩
    rw [rowAt_zero, List.length_map]
    exact heap_two_new w _ _
  case round =>
    obtain ⟨k, hk, rfl, hrow, hbel⟩ := hrel
    have hS : w.heap.size + 1 < wr.heap.size := (Array.getElem?_eq_some_iff.mp hrow).1
    by_cases hlt : k < xs.length
    · have hsrc : wr.cell? ⟨b, o + k, none⟩ = some (.int .i64 (xs.getD k 0)) := (hbel.cell (p := ⟨b, o + k, none⟩) hb).trans (HC.out k hlt)
      obtain ⟨r0, r1⟩ := HX.out.at k hlt
      have HF := hidden (fun (w' : World) (h : Lib.TabIs Tryd.prog w' Tryd.powName .u64 Lib.pow10Tab) => format_any (xs.getD k 0) r0 r1 w' h)
      have HT1 := hidden (HT.out wr hbel)
      have HR := hidden hrow
      have HB := hidden hbel
      clear hrow hbel r0 r1
      have HN := hidden (nums_get xs k hlt)
      obtain ⟨x, hx⟩ : ∃ x, x = xs.getD k 0 := ⟨_, rfl⟩
      rw [← hx] at hsrc HF HN
      clear hx
      go_wp2_with fail
      refine (HF.out _ HT1.out).mono ?_
      rintro e w1 ⟨rfl, hb1⟩
      have hrow1 : w1.heap[w.heap.size + 1]? = some (.cells (rowAt (xs.map fun x => Value.string (numS x)) (.string ⟨#[]⟩) k).toArray 9) := (hb1.block _ hS).trans HR.out
      have hdst : w1.cell? ⟨w.heap.size + 1, k, none⟩ = some (.string ⟨#[]⟩) := (cell_of_block hrow1 k).trans (rowAt_get _ _ _ (by simpa using hlt))
      have hfr : w1.frozen? ⟨w.heap.size + 1, k, none⟩ = false := unfrozen_of_block hrow1 k
      have HB1 := hidden (HB.out.trans (hb1.mono (by omega)))
      have HR1 := hidden hrow1
      clear hrow1 hb1
      go_wp2
      go_roundw
      case rel => exact ⟨k + 1, by omega, by go_num, by rw [block_setCell HR1.out, rowAt_set _ _ _ _ HN.out], HB1.out.setCell (by simp) _⟩
      case measure => simp only [intOf]; omega
    · have hrow' : wr.heap[w.heap.size + 1]? = some (.cells (xs.map fun x => Value.string (numS x)).toArray 9) := by
        have h := hrow
        rw [show k = (xs.map fun x => Value.string (numS x)).length by simp; omega, rowAt_end] at h
        exact h
      have HB := hidden hbel
      clear hrow hbel
      by_cases h1 : xs.length = 1
      · have hc0 : wr.cell? ⟨w.heap.size + 1, 0, none⟩ = some (.string (numS (xs.getD 0 0))) := by
          rw [cell_of_block hrow' 0]; simpa using nums_get xs 0 (by omega)
        have hd : ((xs.length : Int) == 1) = true := by rw [h1]; rfl
        have hz : (numS (xs.getD 0 0)).size ≤ 21 := numS_size _ (HX.out.at 0 (by omega)).1 (HX.out.at 0 (by omega)).2
        clear hrow'
        have H1 := hidden h1
        clear h1
        have hp : 0 < xs.length := by rw [H1.out]; omega
        obtain ⟨t, ht⟩ : ∃ t, t = numS (xs.getD 0 0) := ⟨_, rfl⟩
        rw [← ht] at hc0 hz
        have HS := hidden ht
        clear ht
        go_wp2
        go_ret
        exact ⟨ret_str (shape_one xs t H1.out HS.out), HB.out⟩
      · have hd : ((xs.length : Int) == 1) = false := by simp; omega
        have HJ := hidden (joinN_any (w.heap.size + 1) xs wr hrow' hl HX.out)
        have H1 := hidden h1
        clear hrow' h1
        go_wp2_with fail
        refine HJ.out.mono ?_
        rintro e w1 ⟨t, rfl, ht, hz, hb1⟩
        have HS := hidden ht
        have HB1 := hidden (HB.out.trans (hb1.mono (by omega)))
        clear ht hb1
        go_wp2
        go_ret
        exact ⟨ret_str (shape_not xs t H1.out HS.out), HB1.out⟩

theorem join_none_any (a : Option Addr) (c : Nat) (w : World) : Calls Tryd.prog 26 #[.slice a 0 c, .string ⟨#[44, 32]⟩] w fun e w' => e = .returned (.string ⟨#[]⟩) ∧ w' = w := Tryd.strings_Join_none a c _ w

theorem shape_nil (a : Option Addr) (c : Nat) (w : World) :
    Calls Tryd.prog 21 #[.agg #[.string ⟨#[]⟩, .bool false, .slice a 0 c, .int .i64 0]] w fun e w' => e = .returned (.string ⟨(shapeL []).toArray⟩) ∧ Below w.heap.size w w' := by
  have hmk := run_make_row' (P := Tryd.prog) 45 9 (.string ⟨#[]⟩) 16 Tryd.underlying45 info9 rfl .i64 .i64 0 (by omega) (by omega)
  simp only [Int.natCast_zero] at hmk
  go_enter Tryd.func21, Tryd.ntmps21
  go_wp2
  clear hmk
  go_loop [13] (fun i => i = .int .i64 0) (fun _ => 0)
  case atStart => rfl
  case round =>
    subst hrel
    go_wp2_with fail
    refine (join_none_any _ _ _).mono ?_
    rintro e w1 ⟨rfl, rfl⟩
    go_wp2
    go_ret
    exact ⟨ret_str (shape_not [] ⟨#[]⟩ (by simp) rfl), below_alloc2 _ _ _⟩

/-- ZZShapeString. -/
theorem zzShape_any (v : Value) (xs : List Int) (w : World) (hl : xs.length ≤ 131072) (hx : In64s xs) (htab : Lib.TabBelow Tryd.prog w.heap.size w Tryd.powName .u64 Lib.pow10Tab) (h : IsInts w v xs) :
    Calls Tryd.prog 10 #[v] w fun e w' => e = .returned (.string ⟨(shapeL xs).toArray⟩) ∧ Below w.heap.size w w' := by
  rcases h with ⟨a, c, rfl, rfl⟩ | ⟨b, o, c, rfl, hc, hb, hcell⟩
  · have HS := hidden (shape_nil a c)
    go_enter Tryd.func10, Tryd.ntmps10
    go_wp2_with fail
    refine (HS.out _).mono ?_
    rintro e w1 ⟨rfl, hb1⟩
    go_wp2
    go_ret
    exact ⟨rfl, hb1⟩
  · have HS := hidden (shape_some b o c xs w hl hb hx htab hcell)
    clear hx htab hcell hc hb
    go_enter Tryd.func10, Tryd.ntmps10
    go_wp2_with fail
    refine HS.out.mono ?_
    rintro e w1 ⟨rfl, hb1⟩
    go_wp2
    go_ret
    exact ⟨rfl, hb1⟩
end Go.Proofs.Qxb6601097aDoor
