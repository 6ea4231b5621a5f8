/-
  THE SHELF's CONTRACTS OF strings.Join, LAID AT THIS PROGRAM BY THE KIT's TOOL (lay-shelf.mjs, lay-plain.mjs).
-/
import Derived.Shelf.Strings.OnBuilder
import Derived.KernelRfl
import Derived.Test.Qxb6604224aProg
namespace Go.Proofs.Qxb6604224a
open Go.Shelf
def Try.lays156_ren : Go.Shelf.Ren := ⟨fun | 156 => 16 | 165 => 17 | 166 => 18 | 169 => 19 | 240 => 20 | 241 => 21 | 276 => 22 | 277 => 23 | n => n, fun | 31 => 22 | 9 => 9 | 3 => 3 | 4 => 4 | 0 => 0 | 20 => 20 | 72 => 38 | 76 => 41 | 70 => 36 | 37 => 25 | 75 => 40 | 127 => 44 | 164 => 45 | 5 => 5 | 80 => 43 | n => n, fun | n => n⟩
theorem Try.lays156 : Go.Proofs.Lays.n156 Try.prog Try.lays156_ren := {
  mixed := by kernel_rfl
  f156 := Try.func16.trans (congrArg some (by kernel_rfl))
  f165 := Try.func17.trans (congrArg some (by kernel_rfl))
  f166 := Try.func18.trans (congrArg some (by kernel_rfl))
  f169 := Try.func19.trans (congrArg some (by kernel_rfl))
  f240 := Try.func20.trans (congrArg some (by kernel_rfl))
  f241 := Try.func21.trans (congrArg some (by kernel_rfl))
  f276 := Try.func22.trans (congrArg some (by kernel_rfl))
  f277 := Try.func23.trans (congrArg some (by kernel_rfl))
  t0 := Try.underlying0
  a0 := Try.isAgg0
  z0 := Try.sizeOf0
  v0 := Try.zeroValue0
  t3 := Try.underlying3
  a3 := Try.isAgg3
  z3 := Try.sizeOf3
  v3 := Try.zeroValue3
  t4 := Try.underlying4
  a4 := Try.isAgg4
  z4 := Try.sizeOf4
  v4 := Try.zeroValue4
  t9 := Try.underlying9
  a9 := Try.isAgg9
  z9 := Try.sizeOf9
  v9 := Try.zeroValue9
  t20 := Try.underlying20
  a20 := Try.isAgg20
  z20 := Try.sizeOf20
  v20 := Try.zeroValue20
  t31 := Try.underlying22
  a31 := Try.isAgg22
  z31 := Try.sizeOf22
  v31 := Try.zeroValue22
  t37 := Try.underlying25
  a37 := Try.isAgg25
  z37 := Try.sizeOf25
  v37 := Try.zeroValue25
  t70 := Try.underlying36
  a70 := Try.isAgg36
  z70 := Try.sizeOf36
  v70 := Try.zeroValue36
  t72 := Try.underlying38
  a72 := Try.isAgg38
  z72 := Try.sizeOf38
  v72 := Try.zeroValue38
  t75 := Try.underlying40
  a75 := Try.isAgg40
  z75 := Try.sizeOf40
  v75 := Try.zeroValue40
  t76 := Try.underlying41
  a76 := Try.isAgg41
  z76 := Try.sizeOf41
  v76 := Try.zeroValue41
  t127 := Try.underlying44
  a127 := Try.isAgg44
  z127 := Try.sizeOf44
  v127 := Try.zeroValue44
  t164 := Try.underlying45
  a164 := Try.isAgg45
  z164 := Try.sizeOf45
  v164 := Try.zeroValue45 }
theorem Try.Builder_Extra_156 : Builder.Extra Try.prog Try.lays156_ren := {
  sizeBuilder := by kernel_rfl
  liesBuilder := by kernel_rfl
  t5 := Try.underlying5
  a5 := Try.isAgg5
  z5 := Try.sizeOf5
  v5 := Try.zeroValue5
  infoByte := by kernel_rfl
  cellsByte := by kernel_rfl
  sizeByte := by kernel_rfl
  neB5 := by decide }
open Go.RowKit in
/-- No element: the empty string; the world is as it was. (Whatever the slice's address and capacity: a nil slice too.) (LAID: no walk: one application.) -/
theorem Try.strings_Join_none (a : Option Addr) (c : Nat) (sep : ByteArray) (w : World) :
    Calls Try.prog 16 #[.slice a 0 c, .string sep] w fun e w' => e = .returned (.string ⟨#[]⟩) ∧ w' = w := Any.strings_Join_none Try.lays156 Try.Builder_Extra_156 a c sep w
open Go.RowKit in
/-- strings.Join, however many elements. Below the end of the heap the world is as it was. -/
theorem Try.strings_Join (bk o c : Nat) (xs : List ByteArray) (sep : ByteArray) (w : World) (hcells : ∀ (j : Nat) x, xs[j]? = some x → w.cell? ⟨bk, o + j, none⟩ = some (.string x)) (hbk : bk < w.heap.size) (hN : xs.length ≤ 140737488355328) (hcap : xs.length ≤ c) (hlen : (Lib.join (xs.map (·.data.toList)) sep.data.toList).length ≤ 140737488355328) :
    Calls Try.prog 16 #[.slice (some ⟨bk, o, none⟩) xs.length c, .string sep] w fun e w' => e = .returned (.string ⟨(Lib.join (xs.map (·.data.toList)) sep.data.toList).toArray⟩) ∧ Below w.heap.size w w' := Any.strings_Join Try.lays156 Try.Builder_Extra_156 bk o c xs sep w hcells hbk hN hcap hlen
end Go.Proofs.Qxb6604224a
