/-
  A Span BY VALUE AS AN ARGUMENT: opened and shut (seat Qxb6600618a; after the guide's Joins.open_agg4, shut_agg4, at five fields).
-/
import Derived.Test.Qxb6600618aRows
import Derived.Lib.SmallJoins
namespace Go.Proofs.Qxb6600618a
open Go.ChangeShapes Go.WideShapes Go.ChangeAt Go.RowKit Go.Joins

theorem cells35 : Try.prog.cellsOf 35 = 5 := by kernel_rfl
theorem cells26 : Try.prog.cellsOf 26 = 1 := by kernel_rfl
theorem cells9 : Try.prog.cellsOf 9 = 1 := by kernel_rfl
theorem cells4 : Try.prog.cellsOf 4 = 1 := by kernel_rfl

theorem array5 {α : Type} {cs : Array α} (h : cs.size = 5) : ∃ c0 c1 c2 c3 c4, cs = #[c0, c1, c2, c3, c4] := by
  obtain ⟨l⟩ := cs
  match l, h with
  | [c0, c1, c2, c3, c4], _ => exact ⟨c0, c1, c2, c3, c4, rfl⟩
theorem list5 {α : Type} {l : List α} (h : l.length = 5) : ∃ c0 c1 c2 c3 c4, l = [c0, c1, c2, c3, c4] := by
  match l, h with
  | [c0, c1, c2, c3, c4], _ => exact ⟨c0, c1, c2, c3, c4, rfl⟩

theorem span_open {H : Type} {enc : TypeId × Value → H} {w : World} {base : Nat} {sp : Nat → Bool} {held : Bool} {r : Reach} {b0 : Nat} {v : Value} {d : DataW H} {p : List MemPlace}
    (hv : Value.okWide Try.prog w r b0 35 v) (h : DataW.Trod enc Try.prog w base sp held 35 v d p) :
    ∃ (l : Int) (lk : ByteArray) (x : Int) (hk : ByteArray) (o : Bool), v = .agg #[.int .u64 l, .string lk, .int .u64 x, .string hk, .bool o] ∧
      d = .agg [.lit (.int .u64 l), .lit (.string lk.data.toList), .lit (.int .u64 x), .lit (.string hk.data.toList), .lit (.bool o)] ∧ p = [] ∧
      (Lit.int .u64 l).wf = true ∧ (Lit.int .u64 x).wf = true ∧ lk.size ≤ maxLen ∧ hk.size ≤ maxLen := by
  obtain ⟨cs, rfl, hsz⟩ := okWide_struct Try.underlying35 hv
  obtain ⟨c0, c1, c2, c3, c4, rfl⟩ := array5 (hsz.trans cells35)
  obtain ⟨fuel, hf⟩ := h
  obtain ⟨xs, n, _, hx, hl, hlen, hF⟩ := DataW.trod_struct Try.underlying35 hf
  obtain ⟨y0, y1, y2, y3, y4, rfl⟩ := list5 hlen
  have f0 := hF 0 _ rfl
  have f1 := hF 1 _ rfl
  have f2 := hF 2 _ rfl
  have f3 := hF 3 _ rfl
  have f4 := hF 4 _ rfl
  obtain ⟨l, e0, rfl, wl⟩ := DataW.trod_int Try.underlying26 f0
  obtain ⟨lk, e1, rfl, wlk⟩ := DataW.trod_string Try.underlying9 f1
  obtain ⟨x, e2, rfl, wx⟩ := DataW.trod_int Try.underlying26 f2
  obtain ⟨hk, e3, rfl, whk⟩ := DataW.trod_string Try.underlying9 f3
  obtain ⟨o, e4, rfl⟩ := DataW.trod_bool Try.underlying4 f4
  simp [Value.cells, cells26, cells9, cells4] at e0 e1 e2 e3 e4
  subst e0 e1 e2 e3 e4
  simp only [Prod.mk.injEq] at hx
  exact ⟨l, lk, x, hk, o, rfl, hx.1, hx.2, wl, wx, wlk, whk⟩

theorem span_shut {H : Type} {enc : TypeId × Value → H} {w : World} {base : Nat} {sp : Nat → Bool} {held : Bool} {l x : Int} {lk hk : ByteArray} {o : Bool}
    (wl : (Lit.int .u64 l).wf = true) (wx : (Lit.int .u64 x).wf = true) (wlk : lk.size ≤ maxLen) (whk : hk.size ≤ maxLen) :
    DataW.Trod enc Try.prog w base sp held 35 (.agg #[.int .u64 l, .string lk, .int .u64 x, .string hk, .bool o]) (.agg [.lit (.int .u64 l), .lit (.string lk.data.toList), .lit (.int .u64 x), .lit (.string hk.data.toList), .lit (.bool o)]) [] := by
  have := trod_struct_mk (enc := enc) (w := w) (base := base) (spare := sp) (held := held) (n := 1) (cs := [.int .u64 l, .string lk, .int .u64 x, .string hk, .bool o])
    (xs := [(.lit (.int .u64 l), []), (.lit (.string lk.data.toList), []), (.lit (.int .u64 x), []), (.lit (.string hk.data.toList), []), (.lit (.bool o), [])]) Try.underlying35 (by rw [cells35]; rfl)
    (by simp [cells26, cells9, cells4, DataW.trod, Try.underlying26, Try.underlying9, Try.underlying4, wl, wx, wlk, whk])
  exact ⟨2, by simpa [Value.cells] using this⟩
end Go.Proofs.Qxb6600618a
