import Derived.Test.Qxb6001101aNext
namespace Go.Proofs.Qxb6001101a
open Go.RowKit

set_option maxRecDepth 20000 in
set_option maxHeartbeats 1000000 in
theorem zznext_any (w : World) (bs n p : Nat) (Z : Nat → Int) (mx : Int) (hZ : ∀ i, IsByte (Z i)) (hbs : bs < w.heap.size) (hs : ∀ i, i < n → w.cell? ⟨bs, i, none⟩ = some (.int .u8 (Z i))) (hn : n ≤ 65536) (hp : p ≤ n)
    (hx : w.cell? ⟨0, 0, none⟩ = some (.int .i64 mx)) :
    Calls Try.prog 7 #[.slice (some ⟨bs, 0, none⟩) n n, .int .i64 p] w fun e w' => Below w.heap.size w w' ∧
      ((e = .returned (.tuple #[.string ByteArray.empty, .bool false, .int .i64 0, .int .i64 n, .bool false]) ∧ GapO Z p n) ∨
       ∃ (s p' : Nat) (wd : Bool), e = .returned (.tuple #[.string (txt Z s p'), .bool wd, .int .i64 s, .int .i64 p', .bool true]) ∧ p ≤ s ∧ s < p' ∧ p' ≤ n ∧ GapO Z p s ∧ GapC Z p s ∧ Shape Z n s p' wd) := by
  have sd : ∀ (W : World) (j : Nat) (x : Addr) (v : Value), (W.drewN j).setCell x v = (W.setCell x v).drewN j := fun _ _ _ _ => rfl
  have ad : ∀ (W : World) (j : Nat) (o : Obj), (W.drewN j).alloc o = (W.alloc o).drewN j := fun _ _ _ => rfl
  have h0 : 0 < w.heap.size := by omega
  have HS : Hid (∀ i, i < n → w.cell? ⟨bs, i, none⟩ = some (.int .u8 (Z i))) := hs
  have HZ : Hid (∀ i, IsByte (Z i)) := hZ
  clear hs hZ
  go_enter Try.func7, Try.ntmps7
  go_wp2_with fail
  refine (next_any _ w.heap.size bs n p Z mx HZ.out ⟨⟨false, heap_alloc_new _ _⟩, hbs, fun i hi => ?_⟩ hn hp ?_ h0).mono ?_
  · rw [World.cell?_alloc_lt _ _ _ hbs]; exact HS.out i hi
  · rw [World.cell?_alloc_lt _ _ _ h0]; exact hx
  rintro e w1 ⟨p', hsc, hg, hr⟩
  have hbel : Below w.heap.size w w1 := ⟨hg.os, hg.tape, hg.output, by have := hg.size; simp at this; omega, fun k hk => (hg.block k (by simp; omega) (by simp; omega)).trans (Below.heap_alloc _ _ _ hk)⟩
  have hsz : w.heap.size < w1.heap.size := hsc.bound
  have c1 := hsc.c1
  clear hg hsc
  rcases hr with ⟨rfl, rfl, hgo⟩ | ⟨s, wd, rfl, q1, q2, q3, q4, q5, q6⟩
  · have HGO : Hid (GapO Z p p') := hgo
    clear hgo
    go_wp2
    go_quiet (fail)
    go_wp2
    refine bodyPost_ret (v := .tuple #[.string ByteArray.empty, .bool false, .int .i64 0, .int .i64 p', .bool false]) (by simp [results, Try.results7, go_sem]) rfl ?_
    exact ⟨⟨hbel.os, hbel.tape, hbel.output, by have := hbel.size; simp; omega, fun k hk => by simp; rw [Below.heap_alloc _ _ _ (by omega)]; exact hbel.block k hk⟩, .inl ⟨rfl, HGO.out⟩⟩
  · have HQ : Hid (GapO Z p s ∧ GapC Z p s ∧ Shape Z n s p' wd) := ⟨q4, q5, q6⟩
    clear q4 q5 q6
    go_wp2
    go_quiet (fail)
    go_wp2
    refine bodyPost_ret (v := .tuple #[.string (txt Z s p'), .bool wd, .int .i64 s, .int .i64 p', .bool true]) (by simp [results, Try.results7, go_sem]) rfl ?_
    exact ⟨⟨hbel.os, hbel.tape, hbel.output, by have := hbel.size; simp; omega, fun k hk => by simp; rw [Below.heap_alloc _ _ _ (by omega)]; exact hbel.block k hk⟩, .inr ⟨s, p', wd, rfl, q1, q2, q3, HQ.out⟩⟩
end Go.Proofs.Qxb6001101a
