/-
  The contracts of the shelf that this seat leans on, laid at its program by the tools of the kit, in plain words.
-/
import Derived.Shelf.Bytes.SlIndexWhole
import Derived.Test.Qxb6001101aProg
namespace Go.Proofs
open Go.Shelf
def Try.lays185_ren : Go.Shelf.Ren := ⟨fun | 185 => 24 | 187 => 21 | 115 => 26 | 253 => 27 | 224 => 28 | 254 => 29 | 255 => 25 | 291 => 30 | n => n, fun | 37 => 22 | 3 => 3 | 4 => 4 | 0 => 0 | 5 => 5 | 46 => 43 | 9 => 9 | 146 => 45 | 51 => 44 | n => n, fun | 1 => 0 | n => n⟩
theorem Try.lays185 : Go.Proofs.Lays.n185 Try.prog Try.lays185_ren := {
  mixed := by kernel_rfl
  f115 := Try.func26.trans (congrArg some (by kernel_rfl))
  f185 := Try.func24.trans (congrArg some (by kernel_rfl))
  f187 := Try.func21.trans (congrArg some (by kernel_rfl))
  f224 := Try.func28.trans (congrArg some (by kernel_rfl))
  f253 := Try.func27.trans (congrArg some (by kernel_rfl))
  f254 := Try.func29.trans (congrArg some (by kernel_rfl))
  f255 := Try.func25.trans (congrArg some (by kernel_rfl))
  f291 := Try.func30.trans (congrArg some (by kernel_rfl))
  t0 := Try.underlying0
  a0 := Try.isAgg0
  z0 := Try.sizeOf0
  v0 := Try.zeroValue0
  t3 := Try.underlying3
  a3 := Try.isAgg3
  z3 := Try.sizeOf3
  v3 := Try.zeroValue3
  t4 := Try.underlying4
  a4 := Try.isAgg4
  z4 := Try.sizeOf4
  v4 := Try.zeroValue4
  t5 := Try.underlying5
  a5 := Try.isAgg5
  z5 := Try.sizeOf5
  v5 := Try.zeroValue5
  t9 := Try.underlying9
  a9 := Try.isAgg9
  z9 := Try.sizeOf9
  v9 := Try.zeroValue9
  t37 := Try.underlying22
  a37 := Try.isAgg22
  z37 := Try.sizeOf22
  v37 := Try.zeroValue22
  t46 := Try.underlying43
  a46 := Try.isAgg43
  z46 := Try.sizeOf43
  v46 := Try.zeroValue43
  t51 := Try.underlying44
  a51 := Try.isAgg44
  z51 := Try.sizeOf44
  v51 := Try.zeroValue44
  t146 := Try.underlying45
  a146 := Try.isAgg45
  z146 := Try.sizeOf45
  v146 := Try.zeroValue45
  g1 := by kernel_rfl }
open Go.Proofs Go.RowKit Go.Lib in
theorem Try.bytes_Index_at (a1 a2 : Addr) (n c1 k c2 : Nat) (xs ys : List Int) (m : Int) (w : World) (hx : xs.length = n) (hy : ys.length = k) (hr1 : ∀ x ∈ xs, 0 ≤ x ∧ x < 256) (hr2 : ∀ y ∈ ys, 0 ≤ y ∧ y < 256) (hc1 : ∀ i, i < n → w.cell? (a1.add i) = some (.int .u8 (xs.getD i 0))) (hc2 : ∀ i, i < k → w.cell? (a2.add i) = some (.int .u8 (ys.getD i 0))) (hcap : n ≤ c1) (hs : n < 4294967281) (hk : k ≤ 9223372036854775807) (hm : w.cell? ⟨0, 0, none⟩ = some (.int .i64 m)) :
    Calls Try.prog 24 #[.slice (some a1) n c1, .slice (some a2) k c2] w fun e w' => e = .returned (.int .i64 (Lib.index (Lib.bytesOf xs) (Lib.bytesOf ys))) ∧ ∃ q, w' = w.drewN q := Any.bytes_Index_at Try.lays185 a1 a2 n c1 k c2 xs ys m w hx hy hr1 hr2 hc1 hc2 hcap hs hk hm
def Try.laysM185_ren : Go.Shelf.Ren := ⟨fun | 185 => 24 | 187 => 21 | 115 => 26 | 253 => 27 | 224 => 28 | 254 => 29 | 255 => 25 | 291 => 30 | n => n, fun | 37 => 22 | 3 => 3 | 4 => 4 | 0 => 0 | 5 => 5 | 46 => 43 | 9 => 9 | 146 => 45 | 51 => 44 | n => n, fun | 1 => 0 | n => n⟩
theorem Try.laysM185 : Go.Proofs.LaysM.n185 Try.prog Try.laysM185_ren := {
  mixed := by kernel_rfl
  f115 := Try.func26.trans (congrArg some (by kernel_rfl))
  f185 := Try.func24.trans (congrArg some (by kernel_rfl))
  f187 := Try.func21.trans (congrArg some (by kernel_rfl))
  f224 := Try.func28.trans (congrArg some (by kernel_rfl))
  f253 := Try.func27.trans (congrArg some (by kernel_rfl))
  f254 := Try.func29.trans (congrArg some (by kernel_rfl))
  f255 := Try.func25.trans (congrArg some (by kernel_rfl))
  f291 := Try.func30.trans (congrArg some (by kernel_rfl))
  t0 := Try.underlying0
  a0 := Try.isAgg0
  z0 := Try.sizeOf0
  v0 := Try.zeroValue0
  t3 := Try.underlying3
  a3 := Try.isAgg3
  z3 := Try.sizeOf3
  v3 := Try.zeroValue3
  t4 := Try.underlying4
  a4 := Try.isAgg4
  z4 := Try.sizeOf4
  v4 := Try.zeroValue4
  t5 := Try.underlying5
  a5 := Try.isAgg5
  z5 := Try.sizeOf5
  v5 := Try.zeroValue5
  t9 := Try.underlying9
  a9 := Try.isAgg9
  z9 := Try.sizeOf9
  v9 := Try.zeroValue9
  t37 := Try.underlying22
  a37 := Try.isAgg22
  z37 := Try.sizeOf22
  v37 := Try.zeroValue22
  t46 := Try.underlying43
  a46 := Try.isAgg43
  z46 := Try.sizeOf43
  v46 := Try.zeroValue43
  t51 := Try.underlying44
  a51 := Try.isAgg44
  z51 := Try.sizeOf44
  v51 := Try.zeroValue44
  t146 := Try.underlying45
  a146 := Try.isAgg45
  z146 := Try.sizeOf45
  v146 := Try.zeroValue45
  g1 := by kernel_rfl
  i0 := by kernel_rfl
  i3 := by kernel_rfl
  i4 := by kernel_rfl
  i5 := by kernel_rfl
  i9 := by kernel_rfl
  i37 := by kernel_rfl
  i46 := by kernel_rfl
  i51 := by kernel_rfl
  i146 := by kernel_rfl
  m1 := by kernel_rfl
  s1_3 := fun w h => Go.Proofs.cell_of_shapedOpen_int (zero := #[.int .i64 0]) (t := 3) h (of_decide_eq_true (by kernel_rfl)) (by kernel_rfl) rfl (by kernel_rfl) (by kernel_rfl) Try.underlying3 }
end Go.Proofs
