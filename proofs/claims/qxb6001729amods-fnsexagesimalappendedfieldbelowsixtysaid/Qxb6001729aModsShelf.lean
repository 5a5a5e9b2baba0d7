/-
  The contracts of Go's library at this dump, laid by the kit's own tools (lay-shelf, lay-plain).
-/
import Derived.Shelf.Bytes.SlIndexAt
import Derived.Shelf.Bytes.IndexByte
import Derived.Test.Qxb6001729aModsProg
namespace Go.Proofs
open Go.Shelf
def Trym.lays187_ren : Go.Shelf.Ren := ⟨fun | 187 => 31 | 255 => 33 | n => n, fun | 37 => 28 | 5 => 5 | 3 => 3 | n => n, fun | n => n⟩
theorem Trym.lays187 : Go.Proofs.Lays.n187 Trym.prog Trym.lays187_ren := {
  mixed := by kernel_rfl
  f187 := Trym.func31.trans (congrArg some (by kernel_rfl))
  f255 := Trym.func33.trans (congrArg some (by kernel_rfl))
  t3 := Trym.underlying3
  a3 := Trym.isAgg3
  z3 := Trym.sizeOf3
  v3 := Trym.zeroValue3
  t5 := Trym.underlying5
  a5 := Trym.isAgg5
  z5 := Trym.sizeOf5
  v5 := Trym.zeroValue5
  t37 := Trym.underlying28
  a37 := Trym.isAgg28
  z37 := Trym.sizeOf28
  v37 := Trym.zeroValue28 }
open Go.RowKit Go.Lib in
theorem Trym.bytes_IndexByte_at (a : Addr) (n c : Nat) (xs : List Int) (cv : Int) (w : World) (hx : xs.length = n) (hc : ∀ i, i < n → w.cell? (a.add i) = some (.int .u8 (xs.getD i 0))) :
    Calls Trym.prog 31 #[.slice (some a) n c, .int .u8 cv] w fun e w' => e = .returned (.int .i64 (Lib.indexByte (Lib.bytesOf xs) cv.toNat.toUInt8)) ∧ w' = w := Any.bytes_IndexByte_at Trym.lays187 a n c xs cv w hx hc
theorem Trym.bytes_IndexByte (b o n c : Nat) (xs : List Int) (cv : Int) (w : World) (hx : xs.length = n) (hc : ∀ i, i < n → w.cell? ⟨b, o + i, none⟩ = some (.int .u8 (xs.getD i 0))) :
    Calls Trym.prog 31 #[.slice (some ⟨b, o, none⟩) n c, .int .u8 cv] w fun e w' => e = .returned (.int .i64 (Lib.indexByte (Lib.bytesOf xs) cv.toNat.toUInt8)) ∧ w' = w := Any.bytes_IndexByte Trym.lays187 b o n c xs cv w hx hc
theorem Trym.bytes_IndexByte_nil (cv : Int) (w : World) :
    Calls Trym.prog 31 #[.slice none 0 0, .int .u8 cv] w fun e w' => e = .returned (.int .i64 (-1)) ∧ w' = w := Any.bytes_IndexByte_nil Trym.lays187 cv w
end Go.Proofs
