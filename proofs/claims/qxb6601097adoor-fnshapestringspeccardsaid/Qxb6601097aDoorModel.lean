/-
  THE CONTRACT OF zzShapeModel: the same text as shapeString's (seat Qxb6601097aDoor).
-/
import Derived.Test.Qxb6601097aDoorDec
import Derived.Laws.IdiomStrings
namespace Go.Proofs.Qxb6601097aDoor
open Go.ChangeShapes Go.WideShapes Go.ChangeAt Go.RowKit Go.Joins

/-! ### The plain side -/
theorem joinTail_snoc (sep : List UInt8) (r : List (List UInt8)) (y : List UInt8) : Lib.joinTail sep (r ++ [y]) = Lib.joinTail sep r ++ (sep ++ y) := by
  unfold Lib.joinTail; simp
theorem join_snoc_nil (y sep : List UInt8) : Lib.join ([] ++ [y]) sep = y := by rw [List.nil_append, Lib.join_one]
theorem join_snoc_cons (x : List UInt8) (r : List (List UInt8)) (y sep : List UInt8) : Lib.join ((x :: r) ++ [y]) sep = Lib.join (x :: r) sep ++ (sep ++ y) := by
  rw [List.cons_append, Lib.join_cons, joinTail_snoc, Lib.join_cons, List.append_assoc]
/-- What the model has written when k numbers are in. -/
def acc (xs : List Int) (k : Nat) : List UInt8 := 40 :: Lib.join ((xs.take k).map Lib.itoa) [44, 32]
theorem acc_zero (xs : List Int) : acc xs 0 = [40] := rfl
theorem take_map_succ (xs : List Int) (k : Nat) (h : k < xs.length) : (xs.take (k + 1)).map Lib.itoa = (xs.take k).map Lib.itoa ++ [Lib.itoa (xs.getD k 0)] := by
  rw [List.take_add_one, List.map_append]
  congr 1
  simp [h]
theorem acc_first (xs : List Int) (h : 0 < xs.length) : acc xs (0 + 1) = acc xs 0 ++ Lib.itoa (xs.getD 0 0) := by
  unfold acc
  rw [take_map_succ xs 0 h, List.take_zero, List.map_nil, join_snoc_nil, Lib.join_nil]
  rfl
theorem acc_next (xs : List Int) (k : Nat) (h : k < xs.length) (h0 : k ≠ 0) : acc xs (k + 1) = acc xs k ++ [44, 32] ++ Lib.itoa (xs.getD k 0) := by
  unfold acc
  rw [take_map_succ xs k h]
  cases e : (xs.take k).map Lib.itoa with
  | nil =>
    have := congrArg List.length e
    rw [List.length_map, List.length_take, List.length_nil] at this
    omega
  | cons x r => rw [join_snoc_cons]; simp
theorem acc_len (xs : List Int) (hx : In64s xs) (k : Nat) (hl : xs.length ≤ 131072) : (acc xs k).length ≤ 3014657 := by
  have h1 : In64s (xs.take k) := fun x hx' => hx x (List.mem_of_mem_take hx')
  have h2 := join_le (xs.take k) h1
  have h3 : (xs.take k).length ≤ xs.length := List.length_take_le' k xs
  unfold acc
  rw [List.length_cons]
  omega
theorem acc_one (xs : List Int) (h : xs.length = 1) : acc xs xs.length ++ [44] ++ [41] = shapeL xs := by
  unfold acc shapeL
  rw [if_pos h, List.take_length]
  match xs, h with
  | [x], _ => simp [Lib.join_one]
theorem acc_not (xs : List Int) (h : xs.length ≠ 1) : acc xs xs.length ++ [41] = shapeL xs := by
  unfold acc shapeL
  rw [if_neg h, List.take_length]
  rfl

/-! ### Rows of the call's own -/
theorem Own.below {B : Nat} {w w' : World} {v : Value} {l : List UInt8} (h : Own B w v l) (hb : Below w.heap.size w w') : Own B w' v l := by
  refine World.ownsRow.kept (row := none) h ⟨hb.os, hb.tape, hb.output, hb.size, fun k hk _ => hb.block k hk⟩ ?_
  cases v.ownBlock with
  | none => exact Or.inl rfl
  | some k => exact Or.inr (by simp)
theorem Own.form {B : Nat} {w : World} {v : Value} {l : List UInt8} (h : Own B w v l) (hl : 0 < l.length) : ∃ g cap, v = .slice (some ⟨g, 0, none⟩) l.length cap := ownsRow_form h hl
/-- Behind an append of the bytes m. -/
theorem own_app {B n' : Nat} {w0 w wx w1 : World} {v v' : Value} {l m : List UInt8} (hown : Own B w v l) (hb : Below B w0 wx) (hB : B ≤ wx.heap.size)
    (hown' : w1.ownsRow B 5 1 v' n' (Lib.byteCells l ++ Lib.byteCells m)) (hg : wx.grownBy w1 v.ownBlock) : Own B w1 v' (l ++ m) ∧ Below B w0 w1 := by
  refine ⟨?_, hb.grown hg hB (fun k hk => (hown.lt k hk).1)⟩
  have en : n' = (l ++ m).length := by
    have := hown'.1
    rw [List.length_append, Lib.byteCells_length, Lib.byteCells_length] at this
    rw [List.length_append]
    omega
  unfold Own
  rw [Lib.byteCells_append, ← en]
  exact hown'
theorem two_new (w : World) (u x : Value) : ∀ (j : Nat) (y : Value), [u, x][j]? = some y → (w.alloc (.cells #[u, x] 5)).cell? ((⟨w.heap.size, 0, none⟩ : Addr).add j) = some y := by
  intro j y hj
  match j, hj with
  | 0, hj => simp at hj; subst hj; simp [Addr.add]
  | 1, hj => simp at hj; subst hj; simp [Addr.add]
theorem own_lit (w : World) : Own w.heap.size (w.alloc (.cells #[.int .u8 40] 5)) (.slice (some ⟨w.heap.size, 0, none⟩) 1 1) [40] := World.ownsRow_lit w #[.int .u8 40] 1 (Nat.le_refl _) (by unfold maxLen; omega) rfl
/-- string(out). -/
theorem conv_own {B g cap : Nat} {w : World} {l : List UInt8} (h : Own B w (.slice (some ⟨g, 0, none⟩) l.length cap) l) : (convert 26 9 (.slice (some ⟨g, 0, none⟩) l.length cap)).run Tryd.prog w = .ok (.string ⟨l.toArray⟩) w :=
  run_convert_bytes_back w 26 9 5 ⟨g, 0, none⟩ cap l Tryd.underlying26 Tryd.underlying5 Tryd.underlying9 (fun j hj => World.ownsRow.cells h rfl j _ (by simp [Lib.byteCells, hj]))

set_option maxHeartbeats 1000000 in
set_option maxRecDepth 100000 in
theorem model_some (b o c : Nat) (xs : List Int) (w : World) (hl : xs.length ≤ 131072) (hb : b < w.heap.size) (hx : In64s xs)
    (hcell : ∀ i, i < xs.length → w.cell? ⟨b, o + i, none⟩ = some (.int .i64 (xs.getD i 0))) :
    Calls Tryd.prog 11 #[.slice (some ⟨b, o, none⟩) xs.length c] w fun e w' => e = .returned (.string ⟨(shapeL xs).toArray⟩) ∧ Below w.heap.size w w' := by
  have HC := hidden hcell
  have HX := hidden hx
  clear hcell hx
  obtain ⟨i0, hi, hz0, hz1, hz2⟩ := info_parts info5
  go_enter Tryd.func11, Tryd.ntmps11
  go_wp2
  go_loopw [3, 4] (fun sv si wr => ∃ k : Nat, k ≤ xs.length ∧ si = .int .i64 k ∧ Own w.heap.size wr sv (acc xs k) ∧ Below w.heap.size w wr) (fun _ si _ => xs.length - (intOf si).toNat)
  case atStart => exact ⟨0, Nat.zero_le _, rfl, by rw [acc_zero]; exact own_lit w, below_alloc1 _ _⟩
  case round =>
    obtain ⟨k, hk, rfl, hown, hbel⟩ := hrel
    by_cases hlt : k < xs.length
    · have hsrc : wr.cell? ⟨b, o + k, none⟩ = some (.int .i64 (xs.getD k 0)) := (hbel.cell (p := ⟨b, o + k, none⟩) hb).trans (HC.out k hlt)
      obtain ⟨r0, r1⟩ := HX.out.at k hlt
      have HD := hidden (fun w' : World => dec_any (xs.getD k 0) w' r0 r1)
      have HZ := hidden (Lib.itoa_length_le _ r0 r1)
      have HI := hidden (itoa_cons (xs.getD k 0))
      have HLen := hidden (acc_len xs HX.out k hl)
      have HO := hidden hown
      have HB := hidden hbel
      clear r0 r1 hown hbel
      by_cases h0 : k = 0
      · have HA := hidden (show acc xs (k + 1) = acc xs k ++ Lib.itoa (xs.getD k 0) by subst h0; exact acc_first xs hlt)
        have hk0 : ¬ (0 : Int) < (k : Int) := by omega
        clear h0
        obtain ⟨x, hx⟩ : ∃ x, x = xs.getD k 0 := ⟨_, rfl⟩
        rw [← hx] at hsrc HD HA HZ HI
        clear hx
        go_wp2_with fail
        refine (HD.out _).mono ?_
        rintro e w1 ⟨v1, rfl, hown1, hb1⟩
        obtain ⟨g1, c1, rfl⟩ := hown1.form (by obtain ⟨c, r, e, _⟩ := HI.out; rw [e]; simp)
        have HO1 := hidden (HO.out.below hb1)
        have HN := hidden hown1
        have HB1 := hidden (HB.out.trans (hb1.mono HB.out.size))
        clear hown1 hb1
        go_wp2_with (at_builtin; refine wpList_append_own _ rfl (.tmp 17) (.tmp 22) 26 rfl w.heap.size 5 i0 (.int .u8 0) 1 1 Tryd.underlying26 hi hz0 hz1 hz2 rfl (by decide) _ _ _ rfl HO1.out ⟨g1, 0, none⟩ (Lib.itoa x).length c1 (Lib.byteCells (Lib.itoa x)) rfl (by simp [Lib.byteCells_length]) ?c1 ?c2 ?c3 ?c4 ?c5 ?_)
        case c1 => exact World.ownsRow.cells HN.out rfl
        case c2 => exact Lib.byteCells_one _
        case c3 => have h1 := HLen.out; have h2 := HZ.out; unfold maxLen; omega
        case c4 => have h1 := HLen.out; have h2 := HZ.out; omega
        case c5 => exact HB1.out.size
        intro v' w2 hown' hgrow _
        have HR := hidden (own_app HO1.out HB1.out HB1.out.size hown' hgrow)
        clear hown' hgrow
        go_wp2
        go_roundw
        case rel => exact ⟨k + 1, by omega, by go_num, by rw [HA.out]; exact HR.out.1, HR.out.2⟩
        case measure => simp only [intOf]; omega
      · have HA := hidden (acc_next xs k hlt h0)
        have hk0 : (0 : Int) < (k : Int) := by omega
        clear h0
        obtain ⟨x, hx⟩ : ∃ x, x = xs.getD k 0 := ⟨_, rfl⟩
        rw [← hx] at hsrc HD HA HZ HI
        have HS := hidden hsrc
        clear hx hsrc
        go_wp2_with (at_builtin; refine wpList_append_own _ rfl (.tmp 14) (.tmp 15) 26 rfl w.heap.size 5 i0 (.int .u8 0) 1 1 Tryd.underlying26 hi hz0 hz1 hz2 rfl (by decide) _ _ _ rfl (World.ownsRow.alloc HO.out _) ⟨wr.heap.size, 0, none⟩ 2 2 [.int .u8 44, .int .u8 32] rfl rfl ?d1 ?d2 ?d3 ?d4 ?d5 ?_)
        case d1 => exact two_new wr _ _
        case d2 => exact Lib.byteCells_one [44, 32]
        case d3 => have h1 := HLen.out; unfold maxLen; omega
        case d4 => have h1 := HLen.out; omega
        case d5 => have := HB.out.size; simp; omega
        intro v0 w0 hown0 hgrow0 _
        have HR0 := hidden (own_app (m := [44, 32]) HO.out (HB.out.alloc HB.out.size _) (by have := HB.out.size; simp; omega) hown0 hgrow0)
        have hsrc0 : w0.cell? ⟨b, o + k, none⟩ = some (.int .i64 x) := by
          rw [HR0.out.2.cell (p := ⟨b, o + k, none⟩) hb, ← HB.out.cell (p := ⟨b, o + k, none⟩) hb]
          exact HS.out
        clear hown0 hgrow0
        go_wp2_with fail
        refine (HD.out _).mono ?_
        rintro e w1 ⟨v1, rfl, hown1, hb1⟩
        obtain ⟨g1, c1, rfl⟩ := hown1.form (by obtain ⟨c, r, e, _⟩ := HI.out; rw [e]; simp)
        have HO1 := hidden (HR0.out.1.below hb1)
        have HN := hidden hown1
        have HB1 := hidden (HR0.out.2.trans (hb1.mono HR0.out.2.size))
        clear hown1 hb1
        go_wp2_with (at_builtin; refine wpList_append_own _ rfl (.tmp 17) (.tmp 22) 26 rfl w.heap.size 5 i0 (.int .u8 0) 1 1 Tryd.underlying26 hi hz0 hz1 hz2 rfl (by decide) _ _ _ rfl HO1.out ⟨g1, 0, none⟩ (Lib.itoa x).length c1 (Lib.byteCells (Lib.itoa x)) rfl (by simp [Lib.byteCells_length]) ?c1 ?c2 ?c3 ?c4 ?c5 ?_)
        case c1 => exact World.ownsRow.cells HN.out rfl
        case c2 => exact Lib.byteCells_one _
        case c3 => have h1 := HLen.out; have h2 := HZ.out; unfold maxLen; simp only [List.length_append, List.length_cons, List.length_nil]; omega
        case c4 => have h1 := HLen.out; have h2 := HZ.out; simp only [List.length_append, List.length_cons, List.length_nil]; omega
        case c5 => exact HB1.out.size
        intro v' w2 hown' hgrow _
        have HR := hidden (own_app HO1.out HB1.out HB1.out.size hown' hgrow)
        clear hown' hgrow
        go_wp2
        go_roundw
        case rel => exact ⟨k + 1, by omega, by go_num, by rw [HA.out]; exact HR.out.1, HR.out.2⟩
        case measure => simp only [intOf]; omega
    · have HK := hidden (show k = xs.length by omega)
      have HLen := hidden (acc_len xs HX.out xs.length hl)
      have HO := hidden (show Own w.heap.size wr _ (acc xs xs.length) by rw [← HK.out]; exact hown)
      have HB := hidden hbel
      clear hown hbel
      by_cases h1 : xs.length = 1
      · have hd : ((xs.length : Int) == 1) = true := by rw [h1]; rfl
        have HA := hidden (acc_one xs h1)
        clear h1
        go_wp2_with (at_builtin; refine wpList_append_own _ rfl (.tmp 27) (.tmp 28) 26 rfl w.heap.size 5 i0 (.int .u8 0) 1 1 Tryd.underlying26 hi hz0 hz1 hz2 rfl (by decide) _ _ _ rfl (World.ownsRow.alloc HO.out _) ⟨wr.heap.size, 0, none⟩ 1 1 [.int .u8 44] rfl rfl ?c1 ?c2 ?c3 ?c4 ?c5 ?_)
        case c1 => exact one_new wr _ _ rfl
        case c2 => exact Lib.byteCells_one [44]
        case c3 => have h1 := HLen.out; unfold maxLen; omega
        case c4 => have h1 := HLen.out; omega
        case c5 => have := HB.out.size; simp; omega
        intro v1 w1 hown1 hgrow1 _
        have HR := hidden (own_app (m := [44]) HO.out (HB.out.alloc HB.out.size _) (by have := HB.out.size; simp; omega) hown1 hgrow1)
        clear hown1 hgrow1
        go_wp2_with (at_builtin; refine wpList_append_own _ rfl (.tmp 30) (.tmp 31) 26 rfl w.heap.size 5 i0 (.int .u8 0) 1 1 Tryd.underlying26 hi hz0 hz1 hz2 rfl (by decide) _ _ _ rfl (World.ownsRow.alloc HR.out.1 _) ⟨_, 0, none⟩ 1 1 [.int .u8 41] rfl rfl ?e1 ?e2 ?e3 ?e4 ?e5 ?_)
        case e1 => exact one_new _ _ _ rfl
        case e2 => exact Lib.byteCells_one [41]
        case e3 => have h1 := HLen.out; unfold maxLen; simp only [List.length_append, List.length_cons, List.length_nil]; omega
        case e4 => have h1 := HLen.out; simp only [List.length_append, List.length_cons, List.length_nil]; omega
        case e5 => have := HR.out.2.size; simp; omega
        intro v2 w2 hown2 hgrow2 _
        have HR2 := hidden (own_app (m := [41]) HR.out.1 (HR.out.2.alloc HR.out.2.size _) (by have := HR.out.2.size; simp; omega) hown2 hgrow2)
        clear hown2 hgrow2
        rw [HA.out] at HR2
        obtain ⟨g2, c2, rfl⟩ := HR2.out.1.form (by rw [← HA.out]; simp)
        have hconv := conv_own HR2.out.1
        go_wp2
        go_ret
        exact ⟨rfl, HR2.out.2⟩
      · have hd : ((xs.length : Int) == 1) = false := by simp; omega
        have HA := hidden (acc_not xs h1)
        go_wp2_with (at_builtin; refine wpList_append_own _ rfl (.tmp 30) (.tmp 31) 26 rfl w.heap.size 5 i0 (.int .u8 0) 1 1 Tryd.underlying26 hi hz0 hz1 hz2 rfl (by decide) _ _ _ rfl (World.ownsRow.alloc HO.out _) ⟨_, 0, none⟩ 1 1 [.int .u8 41] rfl rfl ?e1 ?e2 ?e3 ?e4 ?e5 ?_)
        case e1 => exact one_new _ _ _ rfl
        case e2 => exact Lib.byteCells_one [41]
        case e3 => have h1 := HLen.out; unfold maxLen; omega
        case e4 => have h1 := HLen.out; omega
        case e5 => have := HB.out.size; simp; omega
        intro v2 w2 hown2 hgrow2 _
        have HR2 := hidden (own_app (m := [41]) HO.out (HB.out.alloc HB.out.size _) (by have := HB.out.size; simp; omega) hown2 hgrow2)
        clear hown2 hgrow2
        rw [HA.out] at HR2
        obtain ⟨g2, c2, rfl⟩ := HR2.out.1.form (by rw [← HA.out]; simp)
        have hconv := conv_own HR2.out.1
        go_wp2
        go_ret
        exact ⟨rfl, HR2.out.2⟩
end Go.Proofs.Qxb6601097aDoor
