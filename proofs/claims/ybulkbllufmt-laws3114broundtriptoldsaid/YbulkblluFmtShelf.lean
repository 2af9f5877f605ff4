/-
  The shelf's contract of strings.Join at this translation, in plain words (written by the kit's lay-shelf and lay-plain tools; the laying of Join alone is kept).
-/
import Derived.Shelf.Strings.OnBuilder
import Derived.Test.YbulkblluFmtProg
namespace Go.Proofs
open Go.Shelf
def Ybaf.lays156_ren : Go.Shelf.Ren := ⟨fun | 156 => 10 | 165 => 13 | 166 => 14 | 169 => 15 | 240 => 16 | 241 => 17 | 276 => 18 | 277 => 19 | n => n, fun | 31 => 34 | 9 => 9 | 3 => 3 | 4 => 4 | 0 => 0 | 20 => 20 | 72 => 42 | 76 => 44 | 70 => 40 | 37 => 29 | 75 => 27 | 127 => 49 | 164 => 50 | 5 => 5 | 80 => 23 | n => n, fun | n => n⟩
theorem Ybaf.lays156 : Go.Proofs.Lays.n156 Ybaf.prog Ybaf.lays156_ren := {
  mixed := by kernel_rfl
  f156 := Ybaf.func10.trans (congrArg some (by kernel_rfl))
  f165 := Ybaf.func13.trans (congrArg some (by kernel_rfl))
  f166 := Ybaf.func14.trans (congrArg some (by kernel_rfl))
  f169 := Ybaf.func15.trans (congrArg some (by kernel_rfl))
  f240 := Ybaf.func16.trans (congrArg some (by kernel_rfl))
  f241 := Ybaf.func17.trans (congrArg some (by kernel_rfl))
  f276 := Ybaf.func18.trans (congrArg some (by kernel_rfl))
  f277 := Ybaf.func19.trans (congrArg some (by kernel_rfl))
  t0 := Ybaf.underlying0
  a0 := Ybaf.isAgg0
  z0 := Ybaf.sizeOf0
  v0 := Ybaf.zeroValue0
  t3 := Ybaf.underlying3
  a3 := Ybaf.isAgg3
  z3 := Ybaf.sizeOf3
  v3 := Ybaf.zeroValue3
  t4 := Ybaf.underlying4
  a4 := Ybaf.isAgg4
  z4 := Ybaf.sizeOf4
  v4 := Ybaf.zeroValue4
  t9 := Ybaf.underlying9
  a9 := Ybaf.isAgg9
  z9 := Ybaf.sizeOf9
  v9 := Ybaf.zeroValue9
  t20 := Ybaf.underlying20
  a20 := Ybaf.isAgg20
  z20 := Ybaf.sizeOf20
  v20 := Ybaf.zeroValue20
  t31 := Ybaf.underlying34
  a31 := Ybaf.isAgg34
  z31 := Ybaf.sizeOf34
  v31 := Ybaf.zeroValue34
  t37 := Ybaf.underlying29
  a37 := Ybaf.isAgg29
  z37 := Ybaf.sizeOf29
  v37 := Ybaf.zeroValue29
  t70 := Ybaf.underlying40
  a70 := Ybaf.isAgg40
  z70 := Ybaf.sizeOf40
  v70 := Ybaf.zeroValue40
  t72 := Ybaf.underlying42
  a72 := Ybaf.isAgg42
  z72 := Ybaf.sizeOf42
  v72 := Ybaf.zeroValue42
  t75 := Ybaf.underlying27
  a75 := Ybaf.isAgg27
  z75 := Ybaf.sizeOf27
  v75 := Ybaf.zeroValue27
  t76 := Ybaf.underlying44
  a76 := Ybaf.isAgg44
  z76 := Ybaf.sizeOf44
  v76 := Ybaf.zeroValue44
  t127 := Ybaf.underlying49
  a127 := Ybaf.isAgg49
  z127 := Ybaf.sizeOf49
  v127 := Ybaf.zeroValue49
  t164 := Ybaf.underlying50
  a164 := Ybaf.isAgg50
  z164 := Ybaf.sizeOf50
  v164 := Ybaf.zeroValue50 }
theorem Ybaf.Builder_Extra_156 : Builder.Extra Ybaf.prog Ybaf.lays156_ren := {
  sizeBuilder := by kernel_rfl
  liesBuilder := by kernel_rfl
  t5 := Ybaf.underlying5
  a5 := Ybaf.isAgg5
  z5 := Ybaf.sizeOf5
  v5 := Ybaf.zeroValue5
  infoByte := by kernel_rfl
  cellsByte := by kernel_rfl
  sizeByte := by kernel_rfl
  neB5 := by decide }
open Go.RowKit in
/-- strings.Join: "Join concatenates the elements of its first argument to create a single string. The separator string sep is placed between elements in the resulting string.": HOWEVER MANY ELEMENTS. Below the heap's end the world is as it was. (LAID: no walk: one application.) -/
theorem Ybaf.strings_Join (bk o c : Nat) (xs : List ByteArray) (sep : ByteArray) (w : World) (hcells : ∀ (j : Nat) x, xs[j]? = some x → w.cell? ⟨bk, o + j, none⟩ = some (.string x)) (hbk : bk < w.heap.size) (hN : xs.length ≤ 140737488355328) (hcap : xs.length ≤ c) (hlen : (Lib.join (xs.map (·.data.toList)) sep.data.toList).length ≤ 140737488355328) :
    Calls Ybaf.prog 10 #[.slice (some ⟨bk, o, none⟩) xs.length c, .string sep] w fun e w' => e = .returned (.string ⟨(Lib.join (xs.map (·.data.toList)) sep.data.toList).toArray⟩) ∧ Below w.heap.size w w' := Any.strings_Join Ybaf.lays156 Ybaf.Builder_Extra_156 bk o c xs sep w hcells hbk hN hcap hlen
end Go.Proofs
