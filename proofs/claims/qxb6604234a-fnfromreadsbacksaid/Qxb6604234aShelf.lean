/-
  strings.Join's contract at this program, laid by the kit's tools (lay-shelf, lay-plain).
-/
import Derived.Shelf.Strings.OnBuilder
import Derived.Test.Qxb6604234aProg
namespace Go.Proofs.Qxb6604234a
open Go.Shelf Go.RowKit
def Try.lays156_ren : Go.Shelf.Ren := ⟨fun | 156 => 21 | 165 => 22 | 166 => 23 | 169 => 24 | 240 => 25 | 241 => 26 | 276 => 27 | 277 => 28 | n => n, fun | 31 => 28 | 9 => 9 | 3 => 3 | 4 => 4 | 0 => 0 | 20 => 20 | 72 => 46 | 76 => 50 | 70 => 43 | 37 => 44 | 75 => 49 | 127 => 53 | 164 => 54 | 5 => 5 | 80 => 52 | n => n, fun | n => n⟩
theorem Try.lays156 : Go.Proofs.Lays.n156 Try.prog Try.lays156_ren := {
  mixed := by kernel_rfl
  f156 := Try.func21.trans (congrArg some (by kernel_rfl))
  f165 := Try.func22.trans (congrArg some (by kernel_rfl))
  f166 := Try.func23.trans (congrArg some (by kernel_rfl))
  f169 := Try.func24.trans (congrArg some (by kernel_rfl))
  f240 := Try.func25.trans (congrArg some (by kernel_rfl))
  f241 := Try.func26.trans (congrArg some (by kernel_rfl))
  f276 := Try.func27.trans (congrArg some (by kernel_rfl))
  f277 := Try.func28.trans (congrArg some (by kernel_rfl))
  t0 := Try.underlying0
  a0 := Try.isAgg0
  z0 := Try.sizeOf0
  v0 := Try.zeroValue0
  t3 := Try.underlying3
  a3 := Try.isAgg3
  z3 := Try.sizeOf3
  v3 := Try.zeroValue3
  t4 := Try.underlying4
  a4 := Try.isAgg4
  z4 := Try.sizeOf4
  v4 := Try.zeroValue4
  t9 := Try.underlying9
  a9 := Try.isAgg9
  z9 := Try.sizeOf9
  v9 := Try.zeroValue9
  t20 := Try.underlying20
  a20 := Try.isAgg20
  z20 := Try.sizeOf20
  v20 := Try.zeroValue20
  t31 := Try.underlying28
  a31 := Try.isAgg28
  z31 := Try.sizeOf28
  v31 := Try.zeroValue28
  t37 := Try.underlying44
  a37 := Try.isAgg44
  z37 := Try.sizeOf44
  v37 := Try.zeroValue44
  t70 := Try.underlying43
  a70 := Try.isAgg43
  z70 := Try.sizeOf43
  v70 := Try.zeroValue43
  t72 := Try.underlying46
  a72 := Try.isAgg46
  z72 := Try.sizeOf46
  v72 := Try.zeroValue46
  t75 := Try.underlying49
  a75 := Try.isAgg49
  z75 := Try.sizeOf49
  v75 := Try.zeroValue49
  t76 := Try.underlying50
  a76 := Try.isAgg50
  z76 := Try.sizeOf50
  v76 := Try.zeroValue50
  t127 := Try.underlying53
  a127 := Try.isAgg53
  z127 := Try.sizeOf53
  v127 := Try.zeroValue53
  t164 := Try.underlying54
  a164 := Try.isAgg54
  z164 := Try.sizeOf54
  v164 := Try.zeroValue54 }
theorem Try.Builder_Extra_156 : Builder.Extra Try.prog Try.lays156_ren := {
  sizeBuilder := by kernel_rfl
  liesBuilder := by kernel_rfl
  t5 := Try.underlying5
  a5 := Try.isAgg5
  z5 := Try.sizeOf5
  v5 := Try.zeroValue5
  infoByte := by kernel_rfl
  cellsByte := by kernel_rfl
  sizeByte := by kernel_rfl
  neB5 := by decide }
theorem Try.strings_Join_none (a : Option Addr) (c : Nat) (sep : ByteArray) (w : World) :
    Calls Try.prog 21 #[.slice a 0 c, .string sep] w fun e w' => e = .returned (.string ⟨#[]⟩) ∧ w' = w := Any.strings_Join_none Try.lays156 Try.Builder_Extra_156 a c sep w
theorem Try.strings_Join (bk o c : Nat) (xs : List ByteArray) (sep : ByteArray) (w : World) (hcells : ∀ (j : Nat) x, xs[j]? = some x → w.cell? ⟨bk, o + j, none⟩ = some (.string x)) (hbk : bk < w.heap.size) (hN : xs.length ≤ 140737488355328) (hcap : xs.length ≤ c) (hlen : (Lib.join (xs.map (·.data.toList)) sep.data.toList).length ≤ 140737488355328) :
    Calls Try.prog 21 #[.slice (some ⟨bk, o, none⟩) xs.length c, .string sep] w fun e w' => e = .returned (.string ⟨(Lib.join (xs.map (·.data.toList)) sep.data.toList).toArray⟩) ∧ Below w.heap.size w w' := Any.strings_Join Try.lays156 Try.Builder_Extra_156 bk o c xs sep w hcells hbk hN hcap hlen
end Go.Proofs.Qxb6604234a
