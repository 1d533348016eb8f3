/-
  THE SHELF's CONTRACT at this program (written by the kit's tool for this dump, one kept): internal/stringslite.Index at a substring of one byte.
-/
import Derived.Shelf.Strings.Search2
import Derived.Test.Qxb6000101aProg
namespace Go.Proofs
open Go.Shelf Go.RowKit
def Try.lays219_ren : Go.Shelf.Ren := ⟨fun | 219 => 35 | 217 => 36 | 225 => 37 | 224 => 38 | 267 => 39 | 266 => 40 | 314 => 41 | n => n, fun | 9 => 9 | 3 => 3 | 4 => 4 | 5 => 5 | 46 => 51 | 146 => 53 | 51 => 52 | n => n, fun | 1 => 0 | n => n⟩
theorem Try.lays219 : Go.Proofs.Lays.n219 Try.prog Try.lays219_ren := {
  mixed := by kernel_rfl
  f217 := Try.func36.trans (congrArg some (by kernel_rfl))
  f219 := Try.func35.trans (congrArg some (by kernel_rfl))
  f224 := Try.func38.trans (congrArg some (by kernel_rfl))
  f225 := Try.func37.trans (congrArg some (by kernel_rfl))
  f266 := Try.func40.trans (congrArg some (by kernel_rfl))
  f267 := Try.func39.trans (congrArg some (by kernel_rfl))
  f314 := Try.func41.trans (congrArg some (by kernel_rfl))
  t3 := Try.underlying3
  a3 := Try.isAgg3
  z3 := Try.sizeOf3
  v3 := Try.zeroValue3
  t4 := Try.underlying4
  a4 := Try.isAgg4
  z4 := Try.sizeOf4
  v4 := Try.zeroValue4
  t5 := Try.underlying5
  a5 := Try.isAgg5
  z5 := Try.sizeOf5
  v5 := Try.zeroValue5
  t9 := Try.underlying9
  a9 := Try.isAgg9
  z9 := Try.sizeOf9
  v9 := Try.zeroValue9
  t46 := Try.underlying51
  a46 := Try.isAgg51
  z46 := Try.sizeOf51
  v46 := Try.zeroValue51
  t51 := Try.underlying52
  a51 := Try.isAgg52
  z51 := Try.sizeOf52
  v51 := Try.zeroValue52
  t146 := Try.underlying53
  a146 := Try.isAgg53
  z146 := Try.sizeOf53
  v146 := Try.zeroValue53
  g1 := by kernel_rfl }
theorem Try.stringslite_Index_one (s : ByteArray) (c : UInt8) (w : World) :
    Calls Try.prog 35 #[.string s, .string ⟨#[c]⟩] w fun e w' => e = .returned (.int .i64 (Lib.indexByte s.data.toList c)) ∧ w' = w := Any.stringslite_Index_one Try.lays219 s c w
end Go.Proofs
