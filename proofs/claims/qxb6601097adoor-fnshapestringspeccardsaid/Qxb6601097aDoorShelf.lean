/-
  THE CONTRACTS OF strings.Join AND strconv.FormatInt (base 10) OFF THE SHELF, LAID AT THIS DUMP IN PLAIN WORDS (lay-shelf.mjs, lay-plain.mjs). The name of the table of powers is taken from the row.
-/
import Derived.Shelf.Strings.OnBuilder
import Derived.Shelf.LaysM
import Derived.Shelf.Strconv.Itoa4
import Derived.Test.Qxb6601097aDoorRows
namespace Go.Proofs
/-- The table of the powers of ten, by its name, as the row lists it. -/
def Tryd.powName : String := Qxb6601097aDoor.Rows.fnShapeStringSpecRow.named.headD "x"
open Go.Shelf
def Tryd.lays156_ren : Go.Shelf.Ren := ⟨fun | 156 => 26 | 165 => 32 | 166 => 33 | 169 => 34 | 240 => 42 | 241 => 43 | 276 => 55 | 277 => 56 | n => n, fun | 31 => 45 | 9 => 9 | 3 => 3 | 4 => 4 | 0 => 0 | 20 => 20 | 72 => 56 | 76 => 58 | 70 => 54 | 37 => 26 | 75 => 51 | 127 => 68 | 164 => 83 | 5 => 5 | 80 => 36 | n => n, fun | n => n⟩
theorem Tryd.lays156 : Go.Proofs.Lays.n156 Tryd.prog Tryd.lays156_ren := {
  mixed := by kernel_rfl
  f156 := Tryd.func26.trans (congrArg some (by kernel_rfl))
  f165 := Tryd.func32.trans (congrArg some (by kernel_rfl))
  f166 := Tryd.func33.trans (congrArg some (by kernel_rfl))
  f169 := Tryd.func34.trans (congrArg some (by kernel_rfl))
  f240 := Tryd.func42.trans (congrArg some (by kernel_rfl))
  f241 := Tryd.func43.trans (congrArg some (by kernel_rfl))
  f276 := Tryd.func55.trans (congrArg some (by kernel_rfl))
  f277 := Tryd.func56.trans (congrArg some (by kernel_rfl))
  t0 := Tryd.underlying0
  a0 := Tryd.isAgg0
  z0 := Tryd.sizeOf0
  v0 := Tryd.zeroValue0
  t3 := Tryd.underlying3
  a3 := Tryd.isAgg3
  z3 := Tryd.sizeOf3
  v3 := Tryd.zeroValue3
  t4 := Tryd.underlying4
  a4 := Tryd.isAgg4
  z4 := Tryd.sizeOf4
  v4 := Tryd.zeroValue4
  t9 := Tryd.underlying9
  a9 := Tryd.isAgg9
  z9 := Tryd.sizeOf9
  v9 := Tryd.zeroValue9
  t20 := Tryd.underlying20
  a20 := Tryd.isAgg20
  z20 := Tryd.sizeOf20
  v20 := Tryd.zeroValue20
  t31 := Tryd.underlying45
  a31 := Tryd.isAgg45
  z31 := Tryd.sizeOf45
  v31 := Tryd.zeroValue45
  t37 := Tryd.underlying26
  a37 := Tryd.isAgg26
  z37 := Tryd.sizeOf26
  v37 := Tryd.zeroValue26
  t70 := Tryd.underlying54
  a70 := Tryd.isAgg54
  z70 := Tryd.sizeOf54
  v70 := Tryd.zeroValue54
  t72 := Tryd.underlying56
  a72 := Tryd.isAgg56
  z72 := Tryd.sizeOf56
  v72 := Tryd.zeroValue56
  t75 := Tryd.underlying51
  a75 := Tryd.isAgg51
  z75 := Tryd.sizeOf51
  v75 := Tryd.zeroValue51
  t76 := Tryd.underlying58
  a76 := Tryd.isAgg58
  z76 := Tryd.sizeOf58
  v76 := Tryd.zeroValue58
  t127 := Tryd.underlying68
  a127 := Tryd.isAgg68
  z127 := Tryd.sizeOf68
  v127 := Tryd.zeroValue68
  t164 := Tryd.underlying83
  a164 := Tryd.isAgg83
  z164 := Tryd.sizeOf83
  v164 := Tryd.zeroValue83 }
theorem Tryd.Builder_Extra_156 : Builder.Extra Tryd.prog Tryd.lays156_ren := {
  sizeBuilder := by kernel_rfl
  liesBuilder := by kernel_rfl
  t5 := Tryd.underlying5
  a5 := Tryd.isAgg5
  z5 := Tryd.sizeOf5
  v5 := Tryd.zeroValue5
  infoByte := by kernel_rfl
  cellsByte := by kernel_rfl
  sizeByte := by kernel_rfl
  neB5 := by decide }
open Go.RowKit in
/-- No element: the empty string; the world is as it was. (Whatever the slice's address and capacity: a nil slice too.) (LAID: no walk: one application.) -/
theorem Tryd.strings_Join_none (a : Option Addr) (c : Nat) (sep : ByteArray) (w : World) :
    Calls Tryd.prog 26 #[.slice a 0 c, .string sep] w fun e w' => e = .returned (.string ⟨#[]⟩) ∧ w' = w := Any.strings_Join_none Tryd.lays156 Tryd.Builder_Extra_156 a c sep w
open Go.RowKit in
/-- strings.Join: "Join concatenates the elements of its first argument to create a single string. The separator string sep is placed between elements in the resulting string.": HOWEVER MANY ELEMENTS. Below the heap's end the world is as it was. (LAID: no walk: one application.) -/
theorem Tryd.strings_Join (bk o c : Nat) (xs : List ByteArray) (sep : ByteArray) (w : World) (hcells : ∀ (j : Nat) x, xs[j]? = some x → w.cell? ⟨bk, o + j, none⟩ = some (.string x)) (hbk : bk < w.heap.size) (hN : xs.length ≤ 140737488355328) (hcap : xs.length ≤ c) (hlen : (Lib.join (xs.map (·.data.toList)) sep.data.toList).length ≤ 140737488355328) :
    Calls Tryd.prog 26 #[.slice (some ⟨bk, o, none⟩) xs.length c, .string sep] w fun e w' => e = .returned (.string ⟨(Lib.join (xs.map (·.data.toList)) sep.data.toList).toArray⟩) ∧ Below w.heap.size w w' := Any.strings_Join Tryd.lays156 Tryd.Builder_Extra_156 bk o c xs sep w hcells hbk hN hcap hlen
def Tryd.laysM173_ren : Go.Shelf.Ren := ⟨fun | 173 => 25 | 246 => 31 | 283 => 38 | 284 => 39 | 285 => 40 | 286 => 41 | 129 => 51 | 317 => 50 | 318 => 52 | 319 => 53 | 320 => 54 | 337 => 63 | 338 => 64 | n => n, fun | 2 => 2 | 3 => 3 | 9 => 9 | 4 => 4 | 171 => 63 | 0 => 0 | 53 => 48 | 37 => 26 | 5 => 5 | 173 => 66 | 212 => 78 | 51 => 79 | 20 => 20 | 213 => 80 | 46 => 72 | 232 => 96 | 233 => 97 | n => n, fun | 17 => 0 | 18 => 4 | 19 => 5 | n => n⟩
theorem Tryd.laysM173 : Go.Proofs.LaysM.n173 Tryd.prog Tryd.laysM173_ren := {
  mixed := by kernel_rfl
  f129 := Tryd.func51.trans (congrArg some (by kernel_rfl))
  f173 := Tryd.func25.trans (congrArg some (by kernel_rfl))
  f246 := Tryd.func31.trans (congrArg some (by kernel_rfl))
  f283 := Tryd.func38.trans (congrArg some (by kernel_rfl))
  f284 := Tryd.func39.trans (congrArg some (by kernel_rfl))
  f285 := Tryd.func40.trans (congrArg some (by kernel_rfl))
  f286 := Tryd.func41.trans (congrArg some (by kernel_rfl))
  f317 := Tryd.func50.trans (congrArg some (by kernel_rfl))
  f318 := Tryd.func52.trans (congrArg some (by kernel_rfl))
  f319 := Tryd.func53.trans (congrArg some (by kernel_rfl))
  f320 := Tryd.func54.trans (congrArg some (by kernel_rfl))
  f337 := Tryd.func63.trans (congrArg some (by kernel_rfl))
  f338 := Tryd.func64.trans (congrArg some (by kernel_rfl))
  t0 := Tryd.underlying0
  a0 := Tryd.isAgg0
  z0 := Tryd.sizeOf0
  v0 := Tryd.zeroValue0
  t2 := Tryd.underlying2
  a2 := Tryd.isAgg2
  z2 := Tryd.sizeOf2
  v2 := Tryd.zeroValue2
  t3 := Tryd.underlying3
  a3 := Tryd.isAgg3
  z3 := Tryd.sizeOf3
  v3 := Tryd.zeroValue3
  t4 := Tryd.underlying4
  a4 := Tryd.isAgg4
  z4 := Tryd.sizeOf4
  v4 := Tryd.zeroValue4
  t5 := Tryd.underlying5
  a5 := Tryd.isAgg5
  z5 := Tryd.sizeOf5
  v5 := Tryd.zeroValue5
  t9 := Tryd.underlying9
  a9 := Tryd.isAgg9
  z9 := Tryd.sizeOf9
  v9 := Tryd.zeroValue9
  t20 := Tryd.underlying20
  a20 := Tryd.isAgg20
  z20 := Tryd.sizeOf20
  v20 := Tryd.zeroValue20
  t37 := Tryd.underlying26
  a37 := Tryd.isAgg26
  z37 := Tryd.sizeOf26
  v37 := Tryd.zeroValue26
  t46 := Tryd.underlying72
  a46 := Tryd.isAgg72
  z46 := Tryd.sizeOf72
  v46 := Tryd.zeroValue72
  t51 := Tryd.underlying79
  a51 := Tryd.isAgg79
  z51 := Tryd.sizeOf79
  v51 := Tryd.zeroValue79
  t53 := Tryd.underlying48
  a53 := Tryd.isAgg48
  z53 := Tryd.sizeOf48
  v53 := Tryd.zeroValue48
  t171 := Tryd.underlying63
  a171 := Tryd.isAgg63
  z171 := Tryd.sizeOf63
  v171 := Tryd.zeroValue63
  t173 := Tryd.underlying66
  a173 := Tryd.isAgg66
  z173 := Tryd.sizeOf66
  v173 := Tryd.zeroValue66
  t212 := Tryd.underlying78
  a212 := Tryd.isAgg78
  z212 := Tryd.sizeOf78
  v212 := Tryd.zeroValue78
  t213 := Tryd.underlying80
  a213 := Tryd.isAgg80
  z213 := Tryd.sizeOf80
  t232 := Tryd.underlying96
  a232 := Tryd.isAgg96
  z232 := Tryd.sizeOf96
  v232 := Tryd.zeroValue96
  t233 := Tryd.underlying97
  a233 := Tryd.isAgg97
  z233 := Tryd.sizeOf97
  v233 := Tryd.zeroValue97
  g17 := by kernel_rfl
  g18 := by kernel_rfl
  g19 := by kernel_rfl
  i0 := by kernel_rfl
  i2 := by kernel_rfl
  i3 := by kernel_rfl
  i4 := by kernel_rfl
  i5 := by kernel_rfl
  i9 := by kernel_rfl
  i20 := by kernel_rfl
  i37 := by kernel_rfl
  i46 := by kernel_rfl
  i51 := by kernel_rfl
  i53 := by kernel_rfl
  i171 := by kernel_rfl
  i173 := by kernel_rfl
  i212 := by kernel_rfl
  i232 := by kernel_rfl
  i233 := by kernel_rfl
  m17 := by kernel_rfl
  m18 := by kernel_rfl
  m19 := by kernel_rfl }
open Go.RowKit Go.Sort Go.Lib in
/-- strconv.FormatInt: "FormatInt returns the string representation of i in the given base": AT BASE 10: i's decimal numeral, for every int64. (LAID: no walk: one application.) -/
theorem Tryd.strconv_FormatInt_10 (n : Int) (h0 : -9223372036854775808 ≤ n) (h1 : n ≤ 9223372036854775807) (w : World) (htab : Lib.TabIs Tryd.prog w Tryd.powName .u64 Lib.pow10Tab) :
    Calls Tryd.prog 25 #[.int .i64 n, .int .i64 10] w fun e w' => e = .returned (.string ⟨(Lib.itoa n).toArray⟩) ∧ ∃ k os, w' = grow (w.drewN k) os := Any.strconv_FormatInt_10 Tryd.laysM173 n h0 h1 w htab
end Go.Proofs
