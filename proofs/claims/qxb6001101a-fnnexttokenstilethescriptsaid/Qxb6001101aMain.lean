import Derived.Test.Qxb6001101aZNext
import Derived.Test.Qxb6001101aZNil
import Derived.Test.Qxb6001101aTok
import Derived.Test.Qxb6001101aClone
namespace Go.Proofs.Qxb6001101a
open Go.RowKit

theorem run_txtw {w : World} {bs n : Nat} {Z : Nat → Int} (hs : ∀ i, i < n → w.cell? ⟨bs, i, none⟩ = some (.int .u8 (Z i))) (s e c : Nat) (he : e ≤ n) :
    (convert 22 9 (.slice (some ⟨bs, s, none⟩) (e - s) c)).run Try.prog w = .ok (.string (txt Z s e)) w :=
  run_convert_bytes_arg (P := Try.prog) w 22 5 Try.underlying22 Try.underlying5 bs s (e - s) c (seg Z s (e - s)) (seg_length _ _ _)
    (fun i hi => by rw [seg_getD _ _ _ _ hi]; exact hs (s + i) (by omega)) 9 Try.underlying9

set_option maxRecDepth 20000 in
set_option maxHeartbeats 1000000 in
theorem main_nil (w : World) :
    Calls Try.prog 3 #[.slice none 0 0] w fun e w' => e = .returned (.bool true) ∧ Below w.heap.size w w' := by
  go_enter Try.func3, Try.ntmps3
  go_wp2_with (first
    | (go_at_call 5; refine (zzBytes_any _ _ _ (by omega) _).mono ?_; rintro e w' ⟨rfl, hw⟩; obtain rfl := hw.symm)
    | (go_at_call 6; refine (clone_nil _).mono ?_; rintro e w' ⟨rfl, hw⟩; obtain rfl := hw.symm))
  go_loopg [3, 4, 5, 6, 7, 8, 9] 0 (fun _ p k _ _ _ _ _ wr => p = .int .i64 0 ∧ k = .int .i64 0 ∧ wr = w)
  case atStart => exact ⟨rfl, rfl, rfl⟩
  case round =>
    obtain ⟨rfl, rfl, rfl⟩ := hrel
    go_wp2_with fail
    refine (zznextNil _).mono ?_
    rintro e w1 ⟨rfl, hb⟩
    go_wp2_with fail
    refine (gapOpens_same _ _ _).mono ?_
    rintro e w2 ⟨rfl, hw⟩
    obtain rfl := hw.symm
    go_wp2
    go_ret
    exact ⟨rfl, hb⟩

set_option maxRecDepth 20000 in
set_option maxHeartbeats 1000000 in
theorem main_long (w : World) (a : Option Addr) (n c : Nat) (hn : 65536 < n) (hm : n ≤ 9223372036854775807) :
    Calls Try.prog 3 #[.slice a n c] w fun e w' => e = .returned (.bool true) ∧ Below w.heap.size w w' := by
  by_cases h : n ≤ 1048576
  · go_enter Try.func3, Try.ntmps3
    go_wp2_with (go_at_call 5; refine (zzBytes_any _ _ _ hm _).mono ?_; rintro e w' ⟨rfl, hw⟩; obtain rfl := hw.symm)
    go_ret
    exact ⟨rfl, Below.refl _ _⟩
  · go_enter Try.func3, Try.ntmps3
    go_wp2_with (go_at_call 5; refine (zzBytes_any _ _ _ hm _).mono ?_; rintro e w' ⟨rfl, hw⟩; obtain rfl := hw.symm)
    go_ret
    exact ⟨rfl, Below.refl _ _⟩

set_option maxRecDepth 20000 in
set_option maxHeartbeats 2000000 in
theorem main_any (w : World) (x : Addr) (n c : Nat) (Z : Nat → Int) (mx : Int) (hZ : ∀ i, IsByte (Z i)) (hn : n ≤ 65536) (hs : ∀ i, i < n → w.cell? (x.add i) = some (.int .u8 (Z i))) (hx : w.cell? ⟨0, 0, none⟩ = some (.int .i64 mx)) :
    Calls Try.prog 3 #[.slice (some x) n c] w fun e w' => e = .returned (.bool true) ∧ Below w.heap.size w w' := by
  have h0 : 0 < w.heap.size := World.block_lt_of_cell? w ⟨0, 0, none⟩ hx
  have HS : Hid (∀ i, i < n → w.cell? (x.add i) = some (.int .u8 (Z i))) := hs
  have HZ : Hid (∀ i, IsByte (Z i)) := hZ
  clear hs hZ
  have hle : n ≤ 1048576 := by omega
  go_enter Try.func3, Try.ntmps3
  go_wp2_with (go_at_call 5; refine (zzBytes_any _ _ _ (by omega) _).mono ?_; rintro e w' ⟨rfl, hw⟩; obtain rfl := hw.symm)
  refine (clone_any _ x n c Z hn HS.out).mono ?_
  rintro e w1 ⟨g, rfl, hgl, hgs, hb1⟩
  have HB1 : Hid (Below w.heap.size w w1) := hb1
  have HGS : Hid (∀ i, i < n → w1.cell? ⟨g, i, none⟩ = some (.int .u8 (Z i))) := hgs
  clear hgs hb1
  go_wp2_with fail
  go_loopg [3, 4, 5, 6, 7, 8, 9] n (fun gh p k _ _ _ _ _ wr => ∃ q j : Nat, p = .int .i64 q ∧ k = .int .i64 j ∧ j ≤ q ∧ q ≤ n ∧ Hid (Below w1.heap.size w1 wr) ∧ gh = n - q)
  case atStart => exact ⟨0, 0, rfl, rfl, by omega, by omega, Below.refl _ _, rfl⟩
  case round =>
    obtain ⟨q, j, rfl, rfl, hjq, hqn, HB, rfl⟩ := hrel
    have hsz := HB.out.size
    have hgw : g < wr.heap.size := by omega
    have cs : Hid (∀ i, i < n → wr.cell? ⟨g, i, none⟩ = some (.int .u8 (Z i))) := fun i hi => (HB.out.cell (p := ⟨g, i, none⟩) hgl).trans (HGS.out i hi)
    have hx2 : wr.cell? ⟨0, 0, none⟩ = some (.int .i64 mx) := (HB.out.cell (p := ⟨0, 0, none⟩) (by have := HB1.out.size; simp; omega)).trans ((HB1.out.cell (p := ⟨0, 0, none⟩) h0).trans hx)
    have HX2 : Hid (wr.cell? ⟨0, 0, none⟩ = some (.int .i64 mx)) := hx2
    clear hx2
    go_wp2_with fail
    refine (zznext_any _ g n q Z mx HZ.out hgw cs.out hn hqn HX2.out).mono ?_
    rintro e w2 ⟨hb2, hr⟩
    have cs2 : Hid (∀ i, i < n → w2.cell? ⟨g, i, none⟩ = some (.int .u8 (Z i))) := fun i hi => (hb2.cell (p := ⟨g, i, none⟩) hgw).trans (cs.out i hi)
    have HB2 : Hid (Below w1.heap.size w1 w2) := HB.out.trans (hb2.mono hsz)
    clear hb2
    rcases hr with ⟨rfl, hgo⟩ | ⟨s, p', wd, rfl, q1, q2, q3, q4, q5, q6⟩
    · have HGO : Hid (GapO Z q n) := hgo
      clear hgo
      go_wp2_with fail
      refine (gapOpens_any _ g n q n Z cs2.out hn hqn (Nat.le_refl _) HGO.out).mono ?_
      rintro e w3 ⟨rfl, hw⟩
      obtain rfl := hw.symm
      go_wp2
      go_ret
      exact ⟨rfl, HB1.out.trans (HB2.out.mono HB1.out.size)⟩
    · have Q4 : Hid (GapO Z q s) := q4
      have Q5 : Hid (GapC Z q s) := q5
      have Q6 : Hid (Shape Z n s p' wd) := q6
      clear q4 q5 q6
      have hcv := fun c => run_txtw cs2.out s p' c q3
      have hns : ¬ n = s := by omega
      go_wp2_with fail
      refine (gapOpens_any _ g n q s Z cs2.out hn q1 (by omega) Q4.out).mono ?_
      rintro e w3 ⟨rfl, hw⟩
      obtain rfl := hw.symm
      go_wp2_with fail
      refine (gapCloses_any _ g n q s Z cs2.out hn q1 (by omega) Q5.out).mono ?_
      rintro e w3 ⟨rfl, hw⟩
      obtain rfl := hw.symm
      go_wp2_with fail
      refine (shape_any _ g n s p' Z HZ.out cs2.out hn q2 q3 wd Q6.out).mono ?_
      rintro e w3 ⟨rfl, hw⟩
      obtain rfl := hw.symm
      go_wp2
      go_roundg (n - p')
      case measure => omega
      case rel => exact ⟨p', j + 1, rfl, by go_num, by omega, by omega, HB2.out, rfl⟩
end Go.Proofs.Qxb6001101a
