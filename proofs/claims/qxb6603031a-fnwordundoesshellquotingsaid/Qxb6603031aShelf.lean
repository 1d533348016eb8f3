/-
  THE SHELF's CONTRACTS at this program: strings.IndexByte and three methods of strings.Builder, each one application of a theorem of the kit's library; the tables of numbers are laid by hand.
-/
import Derived.Shelf.Small.Strs
import Derived.Shelf.Strings.BuilderK
import Derived.Test.Qxb6603031aProg
namespace Go.Proofs
open Go.Shelf Go.RowKit
def Try.lays137_ren : Go.Shelf.Ren := ⟨fun | 137 => 26 | 217 => 30 | 266 => 32 | n => n, fun | 3 => 3 | 5 => 5 | 9 => 9 | n => n, fun | n => n⟩
theorem Try.lays137 : Go.Proofs.Lays.n137 Try.prog Try.lays137_ren := {
  mixed := by kernel_rfl
  f137 := Try.func26.trans (congrArg some (by kernel_rfl))
  f217 := Try.func30.trans (congrArg some (by kernel_rfl))
  f266 := Try.func32.trans (congrArg some (by kernel_rfl))
  t3 := Try.underlying3
  a3 := Try.isAgg3
  z3 := Try.sizeOf3
  v3 := Try.zeroValue3
  t5 := Try.underlying5
  a5 := Try.isAgg5
  z5 := Try.sizeOf5
  v5 := Try.zeroValue5
  t9 := Try.underlying9
  a9 := Try.isAgg9
  z9 := Try.sizeOf9
  v9 := Try.zeroValue9 }
theorem Try.strings_IndexByte (s : ByteArray) (c : Int) (w : World) :
    Calls Try.prog 26 #[.string s, .int .u8 c] w fun e w' => e = .returned (.int .i64 (Lib.indexByte s.data.toList c.toNat.toUInt8)) ∧ w' = w := Any.strings_IndexByte Try.lays137 s c w
def Try.lays167_ren : Go.Shelf.Ren := ⟨fun | 167 => 28 | 240 => 31 | 276 => 33 | n => n, fun | 0 => 0 | 4 => 4 | 5 => 5 | 9 => 9 | 20 => 20 | 37 => 30 | 70 => 33 | 72 => 35 | 75 => 38 | 164 => 44 | 80 => 42 | n => n, fun | n => n⟩
theorem Try.lays167 : Go.Proofs.Lays.n167 Try.prog Try.lays167_ren := {
  mixed := by kernel_rfl
  f167 := Try.func28.trans (congrArg some (by kernel_rfl))
  f240 := Try.func31.trans (congrArg some (by kernel_rfl))
  f276 := Try.func33.trans (congrArg some (by kernel_rfl))
  t0 := Try.underlying0
  a0 := Try.isAgg0
  z0 := Try.sizeOf0
  v0 := Try.zeroValue0
  t4 := Try.underlying4
  a4 := Try.isAgg4
  z4 := Try.sizeOf4
  v4 := Try.zeroValue4
  t5 := Try.underlying5
  a5 := Try.isAgg5
  z5 := Try.sizeOf5
  v5 := Try.zeroValue5
  t9 := Try.underlying9
  a9 := Try.isAgg9
  z9 := Try.sizeOf9
  v9 := Try.zeroValue9
  t20 := Try.underlying20
  a20 := Try.isAgg20
  z20 := Try.sizeOf20
  v20 := Try.zeroValue20
  t37 := Try.underlying30
  a37 := Try.isAgg30
  z37 := Try.sizeOf30
  v37 := Try.zeroValue30
  t70 := Try.underlying33
  a70 := Try.isAgg33
  z70 := Try.sizeOf33
  v70 := Try.zeroValue33
  t72 := Try.underlying35
  a72 := Try.isAgg35
  z72 := Try.sizeOf35
  v72 := Try.zeroValue35
  t75 := Try.underlying38
  a75 := Try.isAgg38
  z75 := Try.sizeOf38
  v75 := Try.zeroValue38
  t164 := Try.underlying44
  a164 := Try.isAgg44
  z164 := Try.sizeOf44
  v164 := Try.zeroValue44 }
theorem Try.Builder_Extra_167 : Builder.Extra Try.prog Try.lays167_ren := {
  sizeBuilder := by kernel_rfl
  liesBuilder := by kernel_rfl
  t5 := Try.underlying5
  a5 := Try.isAgg5
  z5 := Try.sizeOf5
  v5 := Try.zeroValue5
  infoByte := by kernel_rfl
  cellsByte := by kernel_rfl
  sizeByte := by kernel_rfl
  neB5 := by decide }
theorem Try.Builder_WriteByte_k (B b : Nat) (bs : List Value) (c : Int) (w : World) (h : Lib.IsBuilderF 35 5 B b bs w) (hlen : bs.length + 1 ≤ 140737488355328) (hBw : B ≤ w.heap.size) :
    Calls Try.prog 28 #[.pointer (some ⟨b, 0, none⟩), .int .u8 c] w fun e w' => e = .returned .nilIface ∧ (Lib.BuilderAtF 35 5 B b (.pointer (some ⟨b, 0, none⟩)) (bs ++ [.int .u8 c]) w' ∧ Below B w w' ∧ Lib.OthersKept 5 (some b) w w') := Any.Builder_WriteByte_k Try.lays167 Try.Builder_Extra_167 B b bs c w h hlen hBw
def Try.lays166_ren : Go.Shelf.Ren := ⟨fun | 166 => 27 | 240 => 31 | 276 => 33 | n => n, fun | 0 => 0 | 3 => 3 | 4 => 4 | 9 => 9 | 20 => 20 | 37 => 30 | 70 => 33 | 72 => 35 | 75 => 38 | 164 => 44 | 5 => 5 | 80 => 42 | n => n, fun | n => n⟩
theorem Try.lays166 : Go.Proofs.Lays.n166 Try.prog Try.lays166_ren := {
  mixed := by kernel_rfl
  f166 := Try.func27.trans (congrArg some (by kernel_rfl))
  f240 := Try.func31.trans (congrArg some (by kernel_rfl))
  f276 := Try.func33.trans (congrArg some (by kernel_rfl))
  t0 := Try.underlying0
  a0 := Try.isAgg0
  z0 := Try.sizeOf0
  v0 := Try.zeroValue0
  t3 := Try.underlying3
  a3 := Try.isAgg3
  z3 := Try.sizeOf3
  v3 := Try.zeroValue3
  t4 := Try.underlying4
  a4 := Try.isAgg4
  z4 := Try.sizeOf4
  v4 := Try.zeroValue4
  t9 := Try.underlying9
  a9 := Try.isAgg9
  z9 := Try.sizeOf9
  v9 := Try.zeroValue9
  t20 := Try.underlying20
  a20 := Try.isAgg20
  z20 := Try.sizeOf20
  v20 := Try.zeroValue20
  t37 := Try.underlying30
  a37 := Try.isAgg30
  z37 := Try.sizeOf30
  v37 := Try.zeroValue30
  t70 := Try.underlying33
  a70 := Try.isAgg33
  z70 := Try.sizeOf33
  v70 := Try.zeroValue33
  t72 := Try.underlying35
  a72 := Try.isAgg35
  z72 := Try.sizeOf35
  v72 := Try.zeroValue35
  t75 := Try.underlying38
  a75 := Try.isAgg38
  z75 := Try.sizeOf38
  v75 := Try.zeroValue38
  t164 := Try.underlying44
  a164 := Try.isAgg44
  z164 := Try.sizeOf44
  v164 := Try.zeroValue44 }
theorem Try.Builder_Extra_166 : Builder.Extra Try.prog Try.lays166_ren := {
  sizeBuilder := by kernel_rfl
  liesBuilder := by kernel_rfl
  t5 := Try.underlying5
  a5 := Try.isAgg5
  z5 := Try.sizeOf5
  v5 := Try.zeroValue5
  infoByte := by kernel_rfl
  cellsByte := by kernel_rfl
  sizeByte := by kernel_rfl
  neB5 := by decide }
theorem Try.Builder_WriteString_k (B b : Nat) (bs : List Value) (s : ByteArray) (w : World) (h : Lib.IsBuilderF 35 5 B b bs w) (hlen : bs.length + s.size ≤ 140737488355328) (hBw : B ≤ w.heap.size) :
    Calls Try.prog 27 #[.pointer (some ⟨b, 0, none⟩), .string s] w fun e w' => e = .returned (.tuple #[.int .i64 s.size, .nilIface]) ∧ (Lib.BuilderAtF 35 5 B b (.pointer (some ⟨b, 0, none⟩)) (bs ++ Lib.strCells s) w' ∧ Below B w w' ∧ Lib.OthersKept 5 (some b) w w') := Any.Builder_WriteString_k Try.lays166 Try.Builder_Extra_166 B b bs s w h hlen hBw
def Try.lays169_ren : Go.Shelf.Ren := ⟨fun | 169 => 29 | n => n, fun | 0 => 0 | 3 => 3 | 9 => 9 | 37 => 30 | 70 => 33 | 72 => 35 | 127 => 43 | 5 => 5 | 80 => 42 | n => n, fun | n => n⟩
theorem Try.lays169 : Go.Proofs.Lays.n169 Try.prog Try.lays169_ren := {
  mixed := by kernel_rfl
  f169 := Try.func29.trans (congrArg some (by kernel_rfl))
  t0 := Try.underlying0
  a0 := Try.isAgg0
  z0 := Try.sizeOf0
  v0 := Try.zeroValue0
  t3 := Try.underlying3
  a3 := Try.isAgg3
  z3 := Try.sizeOf3
  v3 := Try.zeroValue3
  t9 := Try.underlying9
  a9 := Try.isAgg9
  z9 := Try.sizeOf9
  v9 := Try.zeroValue9
  t37 := Try.underlying30
  a37 := Try.isAgg30
  z37 := Try.sizeOf30
  v37 := Try.zeroValue30
  t70 := Try.underlying33
  a70 := Try.isAgg33
  z70 := Try.sizeOf33
  v70 := Try.zeroValue33
  t72 := Try.underlying35
  a72 := Try.isAgg35
  z72 := Try.sizeOf35
  v72 := Try.zeroValue35
  t127 := Try.underlying43
  a127 := Try.isAgg43
  z127 := Try.sizeOf43
  v127 := Try.zeroValue43 }
theorem Try.Builder_Extra_169 : Builder.Extra Try.prog Try.lays169_ren := {
  sizeBuilder := by kernel_rfl
  liesBuilder := by kernel_rfl
  t5 := Try.underlying5
  a5 := Try.isAgg5
  z5 := Try.sizeOf5
  v5 := Try.zeroValue5
  infoByte := by kernel_rfl
  cellsByte := by kernel_rfl
  sizeByte := by kernel_rfl
  neB5 := by decide }
theorem Try.Builder_String_any_k (B b : Nat) (l : List UInt8) (w : World) (h : Lib.IsBuilderF 35 5 B b (Lib.byteCells l) w) (hBw : B ≤ w.heap.size) :
    Calls Try.prog 29 #[.pointer (some ⟨b, 0, none⟩)] w fun e w' => e = .returned (.string ⟨l.toArray⟩) ∧ (Lib.IsBuilderF 35 5 B b (Lib.byteCells l) w' ∧ Below B w w' ∧ Lib.OthersKept 5 (some b) w w') := Any.Builder_String_any_k Try.lays169 Try.Builder_Extra_169 B b l w h hBw
end Go.Proofs
