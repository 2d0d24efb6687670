/-
  THE SHELF's CONTRACT for strings.Join, laid at this program by the guide's two commands (the rows for Join alone).
-/
import Derived.Shelf.Strings.OnBuilder
import Derived.Test.YbulkfgpyProg
namespace Go.Proofs
open Go.Shelf
def Yba.lays156_ren : Go.Shelf.Ren := ⟨fun | 156 => 5 | 165 => 6 | 166 => 7 | 169 => 8 | 240 => 9 | 241 => 10 | 276 => 11 | 277 => 12 | n => n, fun | 31 => 34 | 9 => 9 | 3 => 3 | 4 => 4 | 0 => 0 | 20 => 20 | 72 => 38 | 76 => 42 | 70 => 36 | 37 => 32 | 75 => 41 | 127 => 44 | 164 => 45 | 5 => 5 | 80 => 31 | n => n, fun | n => n⟩
theorem Yba.lays156 : Go.Proofs.Lays.n156 Yba.prog Yba.lays156_ren := {
  mixed := by kernel_rfl
  f156 := Yba.func5.trans (congrArg some (by kernel_rfl))
  f165 := Yba.func6.trans (congrArg some (by kernel_rfl))
  f166 := Yba.func7.trans (congrArg some (by kernel_rfl))
  f169 := Yba.func8.trans (congrArg some (by kernel_rfl))
  f240 := Yba.func9.trans (congrArg some (by kernel_rfl))
  f241 := Yba.func10.trans (congrArg some (by kernel_rfl))
  f276 := Yba.func11.trans (congrArg some (by kernel_rfl))
  f277 := Yba.func12.trans (congrArg some (by kernel_rfl))
  t0 := Yba.underlying0
  a0 := Yba.isAgg0
  z0 := Yba.sizeOf0
  v0 := Yba.zeroValue0
  t3 := Yba.underlying3
  a3 := Yba.isAgg3
  z3 := Yba.sizeOf3
  v3 := Yba.zeroValue3
  t4 := Yba.underlying4
  a4 := Yba.isAgg4
  z4 := Yba.sizeOf4
  v4 := Yba.zeroValue4
  t9 := Yba.underlying9
  a9 := Yba.isAgg9
  z9 := Yba.sizeOf9
  v9 := Yba.zeroValue9
  t20 := Yba.underlying20
  a20 := Yba.isAgg20
  z20 := Yba.sizeOf20
  v20 := Yba.zeroValue20
  t31 := Yba.underlying34
  a31 := Yba.isAgg34
  z31 := Yba.sizeOf34
  v31 := Yba.zeroValue34
  t37 := Yba.underlying32
  a37 := Yba.isAgg32
  z37 := Yba.sizeOf32
  v37 := Yba.zeroValue32
  t70 := Yba.underlying36
  a70 := Yba.isAgg36
  z70 := Yba.sizeOf36
  v70 := Yba.zeroValue36
  t72 := Yba.underlying38
  a72 := Yba.isAgg38
  z72 := Yba.sizeOf38
  v72 := Yba.zeroValue38
  t75 := Yba.underlying41
  a75 := Yba.isAgg41
  z75 := Yba.sizeOf41
  v75 := Yba.zeroValue41
  t76 := Yba.underlying42
  a76 := Yba.isAgg42
  z76 := Yba.sizeOf42
  v76 := Yba.zeroValue42
  t127 := Yba.underlying44
  a127 := Yba.isAgg44
  z127 := Yba.sizeOf44
  v127 := Yba.zeroValue44
  t164 := Yba.underlying45
  a164 := Yba.isAgg45
  z164 := Yba.sizeOf45
  v164 := Yba.zeroValue45 }
theorem Yba.Builder_Extra_156 : Builder.Extra Yba.prog Yba.lays156_ren := {
  sizeBuilder := by kernel_rfl
  liesBuilder := by kernel_rfl
  t5 := Yba.underlying5
  a5 := Yba.isAgg5
  z5 := Yba.sizeOf5
  v5 := Yba.zeroValue5
  infoByte := by kernel_rfl
  cellsByte := by kernel_rfl
  sizeByte := by kernel_rfl
  neB5 := by decide }
open Go.RowKit in
theorem Yba.strings_Join_none (a : Option Addr) (c : Nat) (sep : ByteArray) (w : World) :
    Calls Yba.prog 5 #[.slice a 0 c, .string sep] w fun e w' => e = .returned (.string ⟨#[]⟩) ∧ w' = w := Any.strings_Join_none Yba.lays156 Yba.Builder_Extra_156 a c sep w
open Go.RowKit in
theorem Yba.strings_Join (bk o c : Nat) (xs : List ByteArray) (sep : ByteArray) (w : World) (hcells : ∀ (j : Nat) x, xs[j]? = some x → w.cell? ⟨bk, o + j, none⟩ = some (.string x)) (hbk : bk < w.heap.size) (hN : xs.length ≤ 140737488355328) (hcap : xs.length ≤ c) (hlen : (Lib.join (xs.map (·.data.toList)) sep.data.toList).length ≤ 140737488355328) :
    Calls Yba.prog 5 #[.slice (some ⟨bk, o, none⟩) xs.length c, .string sep] w fun e w' => e = .returned (.string ⟨(Lib.join (xs.map (·.data.toList)) sep.data.toList).toArray⟩) ∧ Below w.heap.size w w' := Any.strings_Join Yba.lays156 Yba.Builder_Extra_156 bk o c xs sep w hcells hbk hN hcap hlen
end Go.Proofs
