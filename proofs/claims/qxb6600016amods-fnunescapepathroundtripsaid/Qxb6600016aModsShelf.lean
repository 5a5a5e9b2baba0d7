/-
  The contracts of Go's library at this dump, laid by the kit's own tools (lay-shelf, lay-plain).
-/
import Derived.Shelf.Small.Strs
import Derived.Shelf.Strings.Search1
import Derived.Test.Qxb6600016aModsProg
namespace Go.Proofs
open Go.Shelf
def Trym.lays137_ren : Go.Shelf.Ren := ⟨fun | 137 => 43 | 217 => 50 | 266 => 55 | n => n, fun | 9 => 9 | 5 => 5 | 3 => 3 | n => n, fun | n => n⟩
theorem Trym.lays137 : Go.Proofs.Lays.n137 Trym.prog Trym.lays137_ren := {
  mixed := by kernel_rfl
  f137 := Trym.func43.trans (congrArg some (by kernel_rfl))
  f217 := Trym.func50.trans (congrArg some (by kernel_rfl))
  f266 := Trym.func55.trans (congrArg some (by kernel_rfl))
  t3 := Trym.underlying3
  a3 := Trym.isAgg3
  z3 := Trym.sizeOf3
  v3 := Trym.zeroValue3
  t5 := Trym.underlying5
  a5 := Trym.isAgg5
  z5 := Trym.sizeOf5
  v5 := Trym.zeroValue5
  t9 := Trym.underlying9
  a9 := Trym.isAgg9
  z9 := Trym.sizeOf9
  v9 := Trym.zeroValue9 }
open Go.RowKit in
theorem Trym.strings_IndexByte (s : ByteArray) (c : Int) (w : World) :
    Calls Trym.prog 43 #[.string s, .int .u8 c] w fun e w' => e = .returned (.int .i64 (Lib.indexByte s.data.toList c.toNat.toUInt8)) ∧ w' = w := Any.strings_IndexByte Trym.lays137 s c w
def Trym.lays217_ren : Go.Shelf.Ren := ⟨fun | 217 => 50 | 266 => 55 | n => n, fun | 9 => 9 | 5 => 5 | 3 => 3 | n => n, fun | n => n⟩
theorem Trym.lays217 : Go.Proofs.Lays.n217 Trym.prog Trym.lays217_ren := {
  mixed := by kernel_rfl
  f217 := Trym.func50.trans (congrArg some (by kernel_rfl))
  f266 := Trym.func55.trans (congrArg some (by kernel_rfl))
  t3 := Trym.underlying3
  a3 := Trym.isAgg3
  z3 := Trym.sizeOf3
  v3 := Trym.zeroValue3
  t5 := Trym.underlying5
  a5 := Trym.isAgg5
  z5 := Trym.sizeOf5
  v5 := Trym.zeroValue5
  t9 := Trym.underlying9
  a9 := Trym.isAgg9
  z9 := Trym.sizeOf9
  v9 := Trym.zeroValue9 }
open Go.RowKit Go.Lib in
theorem Trym.stringslite_IndexByte (s : ByteArray) (c : Int) (w : World) :
    Calls Trym.prog 50 #[.string s, .int .u8 c] w fun e w' => e = .returned (.int .i64 (Lib.indexByte s.data.toList c.toNat.toUInt8)) ∧ w' = w := Any.stringslite_IndexByte Trym.lays217 s c w
end Go.Proofs
