/-
  The library's strings.Join at this dump: the shelf's contract, laid in plain words by the kit's own tool (lay-shelf, lay-plain); the others are left out.
-/
import Derived.Shelf.Strings.OnBuilder
import Derived.Shelf.LaysM
import Derived.Test.Qxb6616617aProg
namespace Go.Proofs
open Go.Shelf
def Try.lays156_ren : Go.Shelf.Ren := ⟨fun | 156 => 34 | 165 => 36 | 166 => 37 | 169 => 38 | 240 => 40 | 241 => 41 | 276 => 46 | 277 => 47 | n => n, fun | 31 => 25 | 9 => 9 | 3 => 3 | 4 => 4 | 0 => 0 | 20 => 20 | 72 => 148 | 76 => 152 | 70 => 146 | 37 => 58 | 75 => 151 | 127 => 156 | 164 => 160 | 5 => 5 | 80 => 154 | n => n, fun | n => n⟩
theorem Try.lays156 : Go.Proofs.Lays.n156 Try.prog Try.lays156_ren := {
  mixed := by kernel_rfl
  f156 := Try.func34.trans (congrArg some (by kernel_rfl))
  f165 := Try.func36.trans (congrArg some (by kernel_rfl))
  f166 := Try.func37.trans (congrArg some (by kernel_rfl))
  f169 := Try.func38.trans (congrArg some (by kernel_rfl))
  f240 := Try.func40.trans (congrArg some (by kernel_rfl))
  f241 := Try.func41.trans (congrArg some (by kernel_rfl))
  f276 := Try.func46.trans (congrArg some (by kernel_rfl))
  f277 := Try.func47.trans (congrArg some (by kernel_rfl))
  t0 := Try.underlying0
  a0 := Try.isAgg0
  z0 := Try.sizeOf0
  v0 := Try.zeroValue0
  t3 := Try.underlying3
  a3 := Try.isAgg3
  z3 := Try.sizeOf3
  v3 := Try.zeroValue3
  t4 := Try.underlying4
  a4 := Try.isAgg4
  z4 := Try.sizeOf4
  v4 := Try.zeroValue4
  t9 := Try.underlying9
  a9 := Try.isAgg9
  z9 := Try.sizeOf9
  v9 := Try.zeroValue9
  t20 := Try.underlying20
  a20 := Try.isAgg20
  z20 := Try.sizeOf20
  v20 := Try.zeroValue20
  t31 := Try.underlying25
  a31 := Try.isAgg25
  z31 := Try.sizeOf25
  v31 := Try.zeroValue25
  t37 := Try.underlying58
  a37 := Try.isAgg58
  z37 := Try.sizeOf58
  v37 := Try.zeroValue58
  t70 := Try.underlying146
  a70 := Try.isAgg146
  z70 := Try.sizeOf146
  v70 := Try.zeroValue146
  t72 := Try.underlying148
  a72 := Try.isAgg148
  z72 := Try.sizeOf148
  v72 := Try.zeroValue148
  t75 := Try.underlying151
  a75 := Try.isAgg151
  z75 := Try.sizeOf151
  v75 := Try.zeroValue151
  t76 := Try.underlying152
  a76 := Try.isAgg152
  z76 := Try.sizeOf152
  v76 := Try.zeroValue152
  t127 := Try.underlying156
  a127 := Try.isAgg156
  z127 := Try.sizeOf156
  v127 := Try.zeroValue156
  t164 := Try.underlying160
  a164 := Try.isAgg160
  z164 := Try.sizeOf160
  v164 := Try.zeroValue160 }
theorem Try.Builder_Extra_156 : Builder.Extra Try.prog Try.lays156_ren := {
  sizeBuilder := by kernel_rfl
  liesBuilder := by kernel_rfl
  t5 := Try.underlying5
  a5 := Try.isAgg5
  z5 := Try.sizeOf5
  v5 := Try.zeroValue5
  infoByte := by kernel_rfl
  cellsByte := by kernel_rfl
  sizeByte := by kernel_rfl
  neB5 := by decide }
open Go.RowKit in
/-- No element: the empty string; the world is as it was. (Whatever the slice's address and capacity: a nil slice too.) (LAID: no walk: one application.) -/
theorem Try.strings_Join_none (a : Option Addr) (c : Nat) (sep : ByteArray) (w : World) :
    Calls Try.prog 34 #[.slice a 0 c, .string sep] w fun e w' => e = .returned (.string ⟨#[]⟩) ∧ w' = w := Any.strings_Join_none Try.lays156 Try.Builder_Extra_156 a c sep w
open Go.RowKit in
/-- strings.Join: "Join concatenates the elements of its first argument to create a single string. The separator string sep is placed between elements in the resulting string.": HOWEVER MANY ELEMENTS. Below the heap's end the world is as it was. (LAID: no walk: one application.) -/
theorem Try.strings_Join (bk o c : Nat) (xs : List ByteArray) (sep : ByteArray) (w : World) (hcells : ∀ (j : Nat) x, xs[j]? = some x → w.cell? ⟨bk, o + j, none⟩ = some (.string x)) (hbk : bk < w.heap.size) (hN : xs.length ≤ 140737488355328) (hcap : xs.length ≤ c) (hlen : (Lib.join (xs.map (·.data.toList)) sep.data.toList).length ≤ 140737488355328) :
    Calls Try.prog 34 #[.slice (some ⟨bk, o, none⟩) xs.length c, .string sep] w fun e w' => e = .returned (.string ⟨(Lib.join (xs.map (·.data.toList)) sep.data.toList).toArray⟩) ∧ Below w.heap.size w w' := Any.strings_Join Try.lays156 Try.Builder_Extra_156 bk o c xs sep w hcells hbk hN hcap hlen
end Go.Proofs
