/-
  strings.Join at this dump, as the kit tool lay-plain writes it.
-/
import Derived.Shelf.Strings.Builder1
import Derived.Shelf.Strings.Builder2
import Derived.Shelf.Strings.OnBuilder
import Derived.Test.YbulkdblgFmtProg
namespace Go.Proofs
open Go.Shelf
def Ybaf.lays156_ren : Go.Shelf.Ren := ⟨fun | 156 => 20 | 165 => 26 | 166 => 27 | 169 => 28 | 240 => 29 | 241 => 30 | 276 => 31 | 277 => 32 | n => n, fun | 31 => 82 | 9 => 9 | 3 => 3 | 4 => 4 | 0 => 0 | 20 => 20 | 72 => 96 | 76 => 98 | 70 => 94 | 37 => 26 | 75 => 32 | 127 => 104 | 164 => 105 | 5 => 5 | 80 => 85 | n => n, fun | n => n⟩
theorem Ybaf.lays156 : Go.Proofs.Lays.n156 Ybaf.prog Ybaf.lays156_ren := {
  mixed := by kernel_rfl
  f156 := Ybaf.func20.trans (congrArg some (by kernel_rfl))
  f165 := Ybaf.func26.trans (congrArg some (by kernel_rfl))
  f166 := Ybaf.func27.trans (congrArg some (by kernel_rfl))
  f169 := Ybaf.func28.trans (congrArg some (by kernel_rfl))
  f240 := Ybaf.func29.trans (congrArg some (by kernel_rfl))
  f241 := Ybaf.func30.trans (congrArg some (by kernel_rfl))
  f276 := Ybaf.func31.trans (congrArg some (by kernel_rfl))
  f277 := Ybaf.func32.trans (congrArg some (by kernel_rfl))
  t0 := Ybaf.underlying0
  a0 := Ybaf.isAgg0
  z0 := Ybaf.sizeOf0
  v0 := Ybaf.zeroValue0
  t3 := Ybaf.underlying3
  a3 := Ybaf.isAgg3
  z3 := Ybaf.sizeOf3
  v3 := Ybaf.zeroValue3
  t4 := Ybaf.underlying4
  a4 := Ybaf.isAgg4
  z4 := Ybaf.sizeOf4
  v4 := Ybaf.zeroValue4
  t9 := Ybaf.underlying9
  a9 := Ybaf.isAgg9
  z9 := Ybaf.sizeOf9
  v9 := Ybaf.zeroValue9
  t20 := Ybaf.underlying20
  a20 := Ybaf.isAgg20
  z20 := Ybaf.sizeOf20
  v20 := Ybaf.zeroValue20
  t31 := Ybaf.underlying82
  a31 := Ybaf.isAgg82
  z31 := Ybaf.sizeOf82
  v31 := Ybaf.zeroValue82
  t37 := Ybaf.underlying26
  a37 := Ybaf.isAgg26
  z37 := Ybaf.sizeOf26
  v37 := Ybaf.zeroValue26
  t70 := Ybaf.underlying94
  a70 := Ybaf.isAgg94
  z70 := Ybaf.sizeOf94
  v70 := Ybaf.zeroValue94
  t72 := Ybaf.underlying96
  a72 := Ybaf.isAgg96
  z72 := Ybaf.sizeOf96
  v72 := Ybaf.zeroValue96
  t75 := Ybaf.underlying32
  a75 := Ybaf.isAgg32
  z75 := Ybaf.sizeOf32
  v75 := Ybaf.zeroValue32
  t76 := Ybaf.underlying98
  a76 := Ybaf.isAgg98
  z76 := Ybaf.sizeOf98
  v76 := Ybaf.zeroValue98
  t127 := Ybaf.underlying104
  a127 := Ybaf.isAgg104
  z127 := Ybaf.sizeOf104
  v127 := Ybaf.zeroValue104
  t164 := Ybaf.underlying105
  a164 := Ybaf.isAgg105
  z164 := Ybaf.sizeOf105
  v164 := Ybaf.zeroValue105 }
theorem Ybaf.Builder_Extra_156 : Builder.Extra Ybaf.prog Ybaf.lays156_ren := {
  sizeBuilder := by kernel_rfl
  liesBuilder := by kernel_rfl
  t5 := Ybaf.underlying5
  a5 := Ybaf.isAgg5
  z5 := Ybaf.sizeOf5
  v5 := Ybaf.zeroValue5
  infoByte := by kernel_rfl
  cellsByte := by kernel_rfl
  sizeByte := by kernel_rfl
  neB5 := by decide }
open Go.RowKit in
theorem Ybaf.strings_Join (bk o c : Nat) (xs : List ByteArray) (sep : ByteArray) (w : World) (hcells : ∀ (j : Nat) x, xs[j]? = some x → w.cell? ⟨bk, o + j, none⟩ = some (.string x)) (hbk : bk < w.heap.size) (hN : xs.length ≤ 140737488355328) (hcap : xs.length ≤ c) (hlen : (Lib.join (xs.map (·.data.toList)) sep.data.toList).length ≤ 140737488355328) :
    Calls Ybaf.prog 20 #[.slice (some ⟨bk, o, none⟩) xs.length c, .string sep] w fun e w' => e = .returned (.string ⟨(Lib.join (xs.map (·.data.toList)) sep.data.toList).toArray⟩) ∧ Below w.heap.size w w' := Any.strings_Join Ybaf.lays156 Ybaf.Builder_Extra_156 bk o c xs sep w hcells hbk hN hcap hlen
end Go.Proofs
