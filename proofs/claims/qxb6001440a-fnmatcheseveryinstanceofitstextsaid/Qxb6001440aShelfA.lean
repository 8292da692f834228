/-
  The contracts of the shelf that this seat leans on, laid at its program by the tools of the kit, in plain words.
-/
import Derived.Shelf.Strings.Search2
import Derived.Shelf.Strings.Prefix
import Derived.Test.Qxb6001440aProg
namespace Go.Proofs
open Go.Shelf
def Try.lays219_ren : Go.Shelf.Ren := ⟨fun | 219 => 25 | 217 => 26 | 225 => 27 | 224 => 28 | 267 => 29 | 266 => 30 | 314 => 31 | n => n, fun | 9 => 9 | 3 => 3 | 4 => 4 | 5 => 5 | 46 => 44 | 146 => 46 | 51 => 45 | n => n, fun | 1 => 0 | n => n⟩
theorem Try.lays219 : Go.Proofs.Lays.n219 Try.prog Try.lays219_ren := {
  mixed := by kernel_rfl
  f217 := Try.func26.trans (congrArg some (by kernel_rfl))
  f219 := Try.func25.trans (congrArg some (by kernel_rfl))
  f224 := Try.func28.trans (congrArg some (by kernel_rfl))
  f225 := Try.func27.trans (congrArg some (by kernel_rfl))
  f266 := Try.func30.trans (congrArg some (by kernel_rfl))
  f267 := Try.func29.trans (congrArg some (by kernel_rfl))
  f314 := Try.func31.trans (congrArg some (by kernel_rfl))
  t3 := Try.underlying3
  a3 := Try.isAgg3
  z3 := Try.sizeOf3
  v3 := Try.zeroValue3
  t4 := Try.underlying4
  a4 := Try.isAgg4
  z4 := Try.sizeOf4
  v4 := Try.zeroValue4
  t5 := Try.underlying5
  a5 := Try.isAgg5
  z5 := Try.sizeOf5
  v5 := Try.zeroValue5
  t9 := Try.underlying9
  a9 := Try.isAgg9
  z9 := Try.sizeOf9
  v9 := Try.zeroValue9
  t46 := Try.underlying44
  a46 := Try.isAgg44
  z46 := Try.sizeOf44
  v46 := Try.zeroValue44
  t51 := Try.underlying45
  a51 := Try.isAgg45
  z51 := Try.sizeOf45
  v51 := Try.zeroValue45
  t146 := Try.underlying46
  a146 := Try.isAgg46
  z146 := Try.sizeOf46
  v146 := Try.zeroValue46
  g1 := by kernel_rfl }
open Go.RowKit Go.Lib in
theorem Try.stringslite_Index_one (s : ByteArray) (c : UInt8) (w : World) :
    Calls Try.prog 25 #[.string s, .string ⟨#[c]⟩] w fun e w' => e = .returned (.int .i64 (Lib.indexByte s.data.toList c)) ∧ w' = w := Any.stringslite_Index_one Try.lays219 s c w
def Try.lays99_ren : Go.Shelf.Ren := ⟨fun | 99 => 21 | 206 => 23 | n => n, fun | 9 => 9 | 4 => 4 | 3 => 3 | n => n, fun | n => n⟩
theorem Try.lays99 : Go.Proofs.Lays.n99 Try.prog Try.lays99_ren := {
  mixed := by kernel_rfl
  f99 := Try.func21.trans (congrArg some (by kernel_rfl))
  f206 := Try.func23.trans (congrArg some (by kernel_rfl))
  t3 := Try.underlying3
  a3 := Try.isAgg3
  z3 := Try.sizeOf3
  v3 := Try.zeroValue3
  t4 := Try.underlying4
  a4 := Try.isAgg4
  z4 := Try.sizeOf4
  v4 := Try.zeroValue4
  t9 := Try.underlying9
  a9 := Try.isAgg9
  z9 := Try.sizeOf9
  v9 := Try.zeroValue9 }
open Go.RowKit Go.Lib in
theorem Try.strings_HasPrefix (s p : ByteArray) (w : World) :
    Calls Try.prog 21 #[.string s, .string p] w fun e w' => e = .returned (.bool (Lib.hasPrefix s.data.toList p.data.toList)) ∧ w' = w := Any.strings_HasPrefix Try.lays99 s p w
end Go.Proofs
