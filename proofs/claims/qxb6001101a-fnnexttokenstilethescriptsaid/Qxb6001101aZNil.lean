import Derived.Test.Qxb6001101aScan
import Derived.Deep.LoopGhost
import Derived.Deep.QuietTactic
import Derived.BigQuiet
namespace Go.Proofs.Qxb6001101a
open Go.RowKit

/-- A scanner over nil: the skip stands still. -/
theorem skipNil (w : World) (b : Nat) (hb : w.cell? ⟨b, 0, none⟩ = some (.slice none 0 0)) (h1 : w.cell? ⟨b, 1, none⟩ = some (.int .i64 0)) :
    Calls Try.prog 16 #[.pointer (some ⟨b, 0, none⟩)] w fun e w' => e = .returned (.tuple #[]) ∧ ∃ q, w' = w.drewN q := by
  go_enter Try.func16, Try.ntmps16
  go_wp2
  go_loopg [2, 3, 23, 38, 64] 0 (fun _ _ _ _ _ _ wr => wr = w)
  case atStart => rfl
  case round =>
    subst hrel
    go_wp2
    go_quiet (fail)
    go_wp2
    refine bodyPost_end (results_none rfl _ _ _) rfl ?_
    exact ⟨rfl, _, rfl⟩

set_option maxRecDepth 20000 in
set_option maxHeartbeats 1000000 in
theorem nextNil (w : World) (b : Nat) (hbd : b < w.heap.size) (hb : w.cell? ⟨b, 0, none⟩ = some (.slice none 0 0)) (h1 : w.cell? ⟨b, 1, none⟩ = some (.int .i64 0)) :
    Calls Try.prog 12 #[.pointer (some ⟨b, 0, none⟩)] w fun e w' => e = .returned (.tuple #[.agg #[.string ByteArray.empty, .bool false], .int .i64 0, .bool false]) ∧ ∃ q o, w' = (w.alloc o).drewN q := by
  have sd : ∀ (W : World) (j : Nat) (x : Addr) (v : Value), (W.drewN j).setCell x v = (W.setCell x v).drewN j := fun _ _ _ _ => rfl
  have ad : ∀ (W : World) (j : Nat) (o : Obj), (W.drewN j).alloc o = (W.alloc o).drewN j := fun _ _ _ => rfl
  go_enter Try.func12, Try.ntmps12
  go_wp2_with fail
  refine (skipNil _ b (by rw [World.cell?_alloc_lt _ _ _ hbd]; exact hb) (by rw [World.cell?_alloc_lt _ _ _ hbd]; exact h1)).mono ?_
  rintro e w1 ⟨rfl, q, rfl⟩
  go_wp2
  go_quiet (fail)
  go_wp2
  refine bodyPost_ret (v := .tuple #[.agg #[.string ByteArray.empty, .bool false], .int .i64 0, .bool false]) (by simp [results, Try.results12, go_sem]; rfl) rfl ?_
  exact ⟨rfl, _, _, rfl⟩

set_option maxRecDepth 20000 in
set_option maxHeartbeats 1000000 in
theorem zznextNil (w : World) :
    Calls Try.prog 7 #[.slice none 0 0, .int .i64 0] w fun e w' => e = .returned (.tuple #[.string ByteArray.empty, .bool false, .int .i64 0, .int .i64 0, .bool false]) ∧ Below w.heap.size w w' := by
  have sd : ∀ (W : World) (j : Nat) (x : Addr) (v : Value), (W.drewN j).setCell x v = (W.setCell x v).drewN j := fun _ _ _ _ => rfl
  have ad : ∀ (W : World) (j : Nat) (o : Obj), (W.drewN j).alloc o = (W.alloc o).drewN j := fun _ _ _ => rfl
  go_enter Try.func7, Try.ntmps7
  go_wp2_with fail
  refine (nextNil _ _ (by simp) (by simp) (by simp)).mono ?_
  rintro e w1 ⟨rfl, q, o, rfl⟩
  go_wp2
  go_quiet (fail)
  go_wp2
  refine bodyPost_ret (v := .tuple #[.string ByteArray.empty, .bool false, .int .i64 0, .int .i64 0, .bool false]) (by simp [results, Try.results7, go_sem]) rfl ?_
  exact ⟨rfl, ⟨rfl, rfl, rfl, by simp; omega, fun k hk => by simp; rw [Below.heap_alloc _ _ _ (by simp; omega), Below.heap_alloc _ _ _ (by simp; omega), Below.heap_alloc _ _ _ hk]⟩⟩
end Go.Proofs.Qxb6001101a
