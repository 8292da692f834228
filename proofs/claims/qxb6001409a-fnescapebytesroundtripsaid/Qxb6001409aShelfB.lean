/-
  (*strings.Builder).WriteByte off the shelf, laid at this seat's program by hand: the one command's tool finds no body that names the types of string and of the empty interface, so the table of numbers is typed here; the kernel compares each body.
-/
import Derived.Shelf.Strings.Builder1
import Derived.Test.Qxb6001409aProg
namespace Go.Proofs
open Go.Shelf
def Try.lays167_ren : Go.Shelf.Ren := ⟨fun | 167 => 29 | 240 => 32 | 276 => 34 | n => n, fun | 0 => 0 | 4 => 4 | 5 => 5 | 9 => 9 | 20 => 20 | 37 => 33 | 70 => 48 | 72 => 50 | 75 => 53 | 80 => 55 | 164 => 57 | n => n, fun | n => n⟩
theorem Try.lays167 : Go.Proofs.Lays.n167 Try.prog Try.lays167_ren := {
  mixed := by kernel_rfl
  f167 := Try.func29.trans (congrArg some (by kernel_rfl))
  f240 := Try.func32.trans (congrArg some (by kernel_rfl))
  f276 := Try.func34.trans (congrArg some (by kernel_rfl))
  t0 := Try.underlying0
  a0 := Try.isAgg0
  z0 := Try.sizeOf0
  v0 := Try.zeroValue0
  t4 := Try.underlying4
  a4 := Try.isAgg4
  z4 := Try.sizeOf4
  v4 := Try.zeroValue4
  t5 := Try.underlying5
  a5 := Try.isAgg5
  z5 := Try.sizeOf5
  v5 := Try.zeroValue5
  t9 := Try.underlying9
  a9 := Try.isAgg9
  z9 := Try.sizeOf9
  v9 := Try.zeroValue9
  t20 := Try.underlying20
  a20 := Try.isAgg20
  z20 := Try.sizeOf20
  v20 := Try.zeroValue20
  t37 := Try.underlying33
  a37 := Try.isAgg33
  z37 := Try.sizeOf33
  v37 := Try.zeroValue33
  t70 := Try.underlying48
  a70 := Try.isAgg48
  z70 := Try.sizeOf48
  v70 := Try.zeroValue48
  t72 := Try.underlying50
  a72 := Try.isAgg50
  z72 := Try.sizeOf50
  v72 := Try.zeroValue50
  t75 := Try.underlying53
  a75 := Try.isAgg53
  z75 := Try.sizeOf53
  v75 := Try.zeroValue53
  t164 := Try.underlying57
  a164 := Try.isAgg57
  z164 := Try.sizeOf57
  v164 := Try.zeroValue57 }
theorem Try.Builder_Extra_167 : Builder.Extra Try.prog Try.lays167_ren := {
  sizeBuilder := by kernel_rfl
  liesBuilder := by kernel_rfl
  t5 := Try.underlying5
  a5 := Try.isAgg5
  z5 := Try.sizeOf5
  v5 := Try.zeroValue5
  infoByte := by kernel_rfl
  cellsByte := by kernel_rfl
  sizeByte := by kernel_rfl
  neB5 := by decide }
open Go.RowKit in
theorem Try.Builder_WriteByte (B b : Nat) (bs : List Value) (c : Int) (w : World) (h : Lib.IsBuilder 50 5 B b bs w) (hlen : bs.length + 1 ≤ 140737488355328) (hBw : B ≤ w.heap.size) :
    Calls Try.prog 29 #[.pointer (some ⟨b, 0, none⟩), .int .u8 c] w fun e w' => e = .returned .nilIface ∧ (Lib.BuilderAt 50 5 B b (.pointer (some ⟨b, 0, none⟩)) (bs ++ [.int .u8 c]) w' ∧ Below B w w') := Any.Builder_WriteByte Try.lays167 Try.Builder_Extra_167 B b bs c w h hlen hBw
end Go.Proofs
