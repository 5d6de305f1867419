/-
  THE CONTRACTS OF zzHead AND zzLess (seat Qxb6600618a).
-/
import Derived.Test.Qxb6600618aPart
import Derived.Test.Qxb6600618aPlain
import Derived.Laws.BitsAllLaws
import Derived.Deep.QuietTactic
import Derived.BigQuiet
import Derived.LoopTactic
namespace Go.Proofs.Qxb6600618a
open Go.ChangeShapes Go.WideShapes Go.ChangeAt Go.RowKit
open Go.Op (bytesLess)

theorem or_byte (x c : Nat) (hx : x < 72057594037927936) (hc : c < 256) : bits .or .u64 ((x : Int) * 256) (IntKind.u64.wrap (c : Int)) = ((x * 256 + c : Nat) : Int) := by
  have e1 : IntKind.u64.wrap (c : Int) = (c : Int) := by rw [IntKind.wrap_u64]; omega
  have e2 : ((x : Int) * 256) = ((x * 256 : Nat) : Int) := by omega
  rw [e1, e2, u64_or_nat _ _ (by omega) (by omega), nat_join 8 (x * 256) c (by omega) (by omega)]
theorem at0_byte (s : ByteArray) (k : Nat) (h : k < s.size) : s[k].toNat = at0 s.data.toList k := by
  rw [at0_in _ _ (by simpa using h)]; rfl

set_option maxHeartbeats 400000 in
set_option maxRecDepth 100000 in
theorem head_any (s : ByteArray) (w : World) :
    Calls Try.prog 14 #[.string s] w fun e w' => e = .returned (.int .u64 (hd s.data.toList 8 : Nat)) ∧ w' = w := by
  go_enter Try.func14, Try.ntmps14
  go_wp2
  go_loop [3, 4] (fun h i => ∃ k : Nat, k ≤ 8 ∧ i = .int .i64 k ∧ h = .int .u64 (hd s.data.toList k : Nat)) (fun _ i => 8 - (intOf i).toNat)
  case atStart => exact ⟨0, Nat.zero_le _, rfl, rfl⟩
  case round =>
    obtain ⟨k, hk, rfl, rfl⟩ := hrel
    by_cases hlt : k < 8
    · have hs1 := hd_small s.data.toList k (by omega)
      have hs2 := hd_succ s.data.toList k
      have HS := hidden hs2
      clear hs2
      by_cases hin : k < s.size
      · go_wp2
        go_round
        case rel => exact ⟨k + 1, by omega, by go_num, by rw [HS.out, or_byte _ _ hs1 (UInt8.toNat_lt _), at0_byte s k hin]⟩
        case measure => simp only [intOf]; omega
      · have HP := hidden (at0_past s.data.toList k (by simp; omega))
        go_wp2
        go_round
        case rel => exact ⟨k + 1, by omega, by go_num, by rw [HS.out, HP.out]; congr 1⟩
        case measure => simp only [intOf]; omega
    · go_wp2
      go_ret
      have e : k = 8 := by omega
      exact ⟨ret_int (by rw [e]), rfl⟩

/-! ### zzLess -/
theorem bl_take : ∀ (k : Nat) (a b : List UInt8), k ≤ a.length → k ≤ b.length → a.take k = b.take k → bytesLess a b = bytesLess (a.drop k) (b.drop k)
  | 0, a, b, _, _, _ => by simp
  | k + 1, [], _, h, _, _ => by simp at h
  | k + 1, _ :: _, [], _, h, _ => by simp at h
  | k + 1, x :: a, y :: b, h1, h2, h => by
    simp only [List.take_succ_cons, List.cons.injEq] at h
    obtain ⟨e, h⟩ := h
    subst e
    rw [bl_cons, bl_take k a b (by simpa using h1) (by simpa using h2) h]
    simp
theorem bl_at (a b : List UInt8) (k : Nat) (h1 : k < a.length) (h2 : k < b.length) (h : a.take k = b.take k) (hn : a[k].toNat ≠ b[k].toNat) : bytesLess a b = decide (a[k].toNat < b[k].toNat) := by
  rw [bl_take k a b (by omega) (by omega) h, List.drop_eq_getElem_cons h1, List.drop_eq_getElem_cons h2, Bool.eq_iff_iff, bl_cons_iff]
  simp; omega
theorem bl_end (a b : List UInt8) (k : Nat) (h1 : k ≤ a.length) (h2 : k ≤ b.length) (hk : k = a.length ∨ k = b.length) (h : a.take k = b.take k) : bytesLess a b = decide (a.length < b.length) := by
  rw [bl_take k a b h1 h2 h]
  rcases hk with e | e
  · rw [List.drop_of_length_le (by omega : a.length ≤ k)]
    cases hd : b.drop k with
    | nil => have := congrArg List.length hd; simp at this; simp [bl_nil_right]; omega
    | cons y t => have := congrArg List.length hd; simp at this; simp [bl_nil_left]; omega
  · rw [List.drop_of_length_le (by omega : b.length ≤ k), bl_nil_right]; simp; omega
theorem take_next (a b : ByteArray) (k : Nat) (h1 : k < a.size) (h2 : k < b.size) (h : a.data.toList.take k = b.data.toList.take k) (e : a[k].toNat = b[k].toNat) : a.data.toList.take (k + 1) = b.data.toList.take (k + 1) := by
  rw [List.take_succ_eq_append_getElem (by simpa using h1), List.take_succ_eq_append_getElem (by simpa using h2), h]
  congr 2
  exact UInt8.toNat_inj.mp e

theorem ret_bool {a b : Bool} (h : a = b) : Ending.returned (.bool a) = .returned (.bool b) := by rw [h]
theorem drewN3 (w : World) (n m l : Nat) : ((w.drewN n).drewN m).drewN l = w.drewN (n + m + l) := by rw [World.drewN_drewN, World.drewN_drewN, Nat.add_assoc]
theorem less_at (a b : ByteArray) (k : Nat) (h1 : k < a.size) (h2 : k < b.size) (h : a.data.toList.take k = b.data.toList.take k) (hn : ¬ a[k].toNat = b[k].toNat) : bytesLess a.data.toList b.data.toList = decide (a[k].toNat < b[k].toNat) :=
  bl_at a.data.toList b.data.toList k (by simpa using h1) (by simpa using h2) h hn
theorem less_end (a b : ByteArray) (k : Nat) (h1 : k ≤ a.size) (h2 : k ≤ b.size) (hk : k = a.size ∨ k = b.size) (h : a.data.toList.take k = b.data.toList.take k) : bytesLess a.data.toList b.data.toList = decide (a.size < b.size) := by
  have := bl_end a.data.toList b.data.toList k (by simpa using h1) (by simpa using h2) (by simpa using hk) h
  simpa using this

set_option maxHeartbeats 800000 in
set_option maxRecDepth 100000 in
/-- zzLess is the order of bytes. -/
theorem less_any (a b : ByteArray) (w : World) (ha : a.size ≤ 1048576) (hb : b.size ≤ 1048576) :
    Calls Try.prog 15 #[.string a, .string b] w fun e w' => e = .returned (.bool (bytesLess a.data.toList b.data.toList)) ∧ ∃ n, w' = w.drewN n := by
  by_cases hba : b.size < a.size
  · go_enter Try.func15, Try.ntmps15
    go_wp2
    go_loopw [6] (fun i wr => ∃ k : Nat, k ≤ b.size ∧ i = .int .i64 k ∧ a.data.toList.take k = b.data.toList.take k ∧ ∃ n, wr = w.drewN n) (fun i _ => b.size - (intOf i).toNat)
    case atStart => exact ⟨0, by omega, rfl, rfl, 0, rfl⟩
    case round =>
      obtain ⟨k, hk, rfl, ht, n, rfl⟩ := hrel
      have HT := hidden ht
      clear ht
      by_cases hlt : k < b.size
      · have hka : k < a.size := by omega
        have hkb : k < b.size := by omega
        have hia : (k : Int) < (a.size : Int) := by omega
        have hib : (k : Int) < (b.size : Int) := by omega
        by_cases hne : a[k].toNat = b[k].toNat
        · have hd : ((a[k].toNat : Int) != b[k].toNat) = false := by rw [hne]; simp
          have HN := hidden hne
          clear hne
          go_wp2
          go_quiet (fail)
          go_wp2
          go_roundw
          case rel => exact ⟨k + 1, by omega, by go_num, take_next a b k hka hkb HT.out HN.out, _, rfl⟩
          case measure => simp only [intOf]; omega
        · have hd : ((a[k].toNat : Int) != b[k].toNat) = true := by simp; omega
          have HN := hidden hne
          clear hne
          go_wp2
          go_quiet (fail)
          go_wp2
          go_quiet (fail)
          go_wp2
          go_ret
          exact ⟨ret_bool (less_at a b k hka hkb HT.out HN.out).symm, _, drewN3 _ _ _ _⟩
      · go_wp2
        go_ret
        exact ⟨ret_bool (less_end a b k (by omega) (by omega) (by omega) HT.out).symm, _, rfl⟩
  · go_enter Try.func15, Try.ntmps15
    go_wp2
    go_loopw [6] (fun i wr => ∃ k : Nat, k ≤ a.size ∧ i = .int .i64 k ∧ a.data.toList.take k = b.data.toList.take k ∧ ∃ n, wr = w.drewN n) (fun i _ => a.size - (intOf i).toNat)
    case atStart => exact ⟨0, by omega, rfl, rfl, 0, rfl⟩
    case round =>
      obtain ⟨k, hk, rfl, ht, n, rfl⟩ := hrel
      have HT := hidden ht
      clear ht
      by_cases hlt : k < a.size
      · have hka : k < a.size := by omega
        have hkb : k < b.size := by omega
        have hia : (k : Int) < (a.size : Int) := by omega
        have hib : (k : Int) < (b.size : Int) := by omega
        by_cases hne : a[k].toNat = b[k].toNat
        · have hd : ((a[k].toNat : Int) != b[k].toNat) = false := by rw [hne]; simp
          have HN := hidden hne
          clear hne
          go_wp2
          go_quiet (fail)
          go_wp2
          go_roundw
          case rel => exact ⟨k + 1, by omega, by go_num, take_next a b k hka hkb HT.out HN.out, _, rfl⟩
          case measure => simp only [intOf]; omega
        · have hd : ((a[k].toNat : Int) != b[k].toNat) = true := by simp; omega
          have HN := hidden hne
          clear hne
          go_wp2
          go_quiet (fail)
          go_wp2
          go_quiet (fail)
          go_wp2
          go_ret
          exact ⟨ret_bool (less_at a b k hka hkb HT.out HN.out).symm, _, drewN3 _ _ _ _⟩
      · go_wp2
        go_ret
        exact ⟨ret_bool (less_end a b k (by omega) (by omega) (by omega) HT.out).symm, _, rfl⟩
end Go.Proofs.Qxb6600618a
