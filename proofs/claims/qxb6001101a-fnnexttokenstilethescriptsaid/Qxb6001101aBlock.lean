import Derived.Test.Qxb6001101aLib
import Derived.Deep.LoopGhost
import Derived.Deep.QuietTactic
import Derived.BigQuiet
import Derived.Lib.SlBytesConst
namespace Go.Proofs.Qxb6001101a
open Go.RowKit

theorem cell_mark_at (w : World) (C : Array Value) (t : TypeId) (fr : Nat × Nat) (n j : Nat) (hn : n = w.heap.size) : (w.alloc (.cells C t fr)).cell? ⟨n, j, none⟩ = C[j]? := by
  subst hn
  exact World.cell?_alloc_mark w C t fr j

theorem conv_const (w : World) (j : Nat) (C : Array Value) (n c g : Nat) (hg : g = w.heap.size) :
    (convert 22 22 (.slice (some ⟨g, 0, none⟩) n c)).run Try.prog ((w.alloc (.cells C 5)).drewN j) = .ok (.slice (some ⟨g, 0, none⟩) n c) ((w.alloc (.cells C 5 (C.size, C.size + 1))).drewN j) := by
  subst hg
  exact Lib.run_convert_bytes_const (P := Try.prog) (w.drewN j) 22 5 C n c Try.underlying22 Try.underlying5

set_option maxRecDepth 20000 in
set_option maxHeartbeats 1000000 in
theorem skipBlock_any (w : World) (b bs n p : Nat) (Z : Nat → Int) (hZ : ∀ i, IsByte (Z i)) (hS : Sc w b bs n Z p) (hn : n ≤ 65536) (hp : p + 2 ≤ n) (hz0 : Z p = 47) (hz1 : Z (p + 1) = 42) :
    Calls Try.prog 23 #[.pointer (some ⟨b, 0, none⟩)] w fun e w' => e = .returned (.tuple #[]) ∧
      ∃ p', Sc w' b bs n Z p' ∧ w.grownBy w' (some b) ∧ p + 2 ≤ p' ∧ p' ≤ n ∧ (p' = n ∨ (p + 4 ≤ p' ∧ Z (p' - 1) = 47 ∧ Z (p' - 2) = 42)) := by
  have sd : ∀ (W : World) (j : Nat) (x : Addr) (v : Value), (W.drewN j).setCell x v = (W.setCell x v).drewN j := fun _ _ _ _ => rfl
  have ad : ∀ (W : World) (j : Nat) (o : Obj), (W.drewN j).alloc o = (W.alloc o).drewN j := fun _ _ _ => rfl
  have kc := conv_const
  have HZ0 : Hid (Z p = 47) := hz0
  have HZ1 : Hid (Z (p + 1) = 42) := hz1
  clear hz0 hz1
  have HZ : Hid (∀ i, IsByte (Z i)) := hZ
  clear hZ
  go_enter Try.func23, Try.ntmps23
  go_wp2
  go_loopg [2, 3, 30, 44] (n - p) (fun g d _ _ _ wr => ∃ p1 k : Nat, p ≤ p1 ∧ p1 ≤ n ∧ d = .int .i64 k ∧ k ≤ p1 ∧ (k = 0 → p1 = p) ∧ (1 ≤ k → p + 2 ≤ p1) ∧ Sc wr b bs n Z p1 ∧ w.grownBy wr (some b) ∧ g = n - p1)
  case atStart => exact ⟨p, 0, by omega, by omega, rfl, by omega, by omega, by omega, hS, gb_refl _ _, rfl⟩
  case round =>
    obtain ⟨p1, k, h1, h2, rfl, hk1, hk2, hk3, hsc, hg, rfl⟩ := hrel
    have c0 := hsc.c0
    have c1 := hsc.c1
    have f1 := hsc.fr 1
    have f2 := hsc.fr 2
    obtain ⟨op, c2⟩ := hsc.c2
    have hne : ¬ b = bs := by have := hsc.lt; omega
    have hbd := hsc.bound
    by_cases hlt : p1 < n
    · have hnp : ¬ n = p1 := by omega
      cases ha : pre2 Z p1 (n - p1) 47 42
      · have hk0 : 1 ≤ k := by
          rcases Nat.eq_zero_or_pos k with h | h
          · exfalso
            obtain rfl := hk2 h
            have e0 := HZ0.out
            have e1 := HZ1.out
            unfold pre2 at ha
            rw [decide_eq_false_iff_not] at ha
            exact ha ⟨by omega, e0, e1⟩
          · exact h
        have hk4 := hk3 hk0
        clear hk2 hk3
        cases hb : pre2 Z p1 (n - p1) 42 47
        · skip
          go_wp2
          go_quiet (fail)
          go_wp2
          go_quiet (fail)
          go_wp2_with fail
          refine (hasPrefix2 _ bs p1 (n - p1) (n - p1) _ 47 42 Z HZ.out ⟨by omega, by omega⟩ ⟨by omega, by omega⟩ (Nat.le_refl _) (fun i hi => ((hsc.alloc _).drewN _).src (p1 + i) (by omega)) (by simp [cell_mark_at]) (by simp [cell_mark_at])).mono ?_
          rintro e w' ⟨rfl, hw⟩
          obtain rfl := hw.symm
          go_wp2_with fail
          refine (hasPrefix2 _ bs p1 (n - p1) (n - p1) _ 42 47 Z HZ.out ⟨by omega, by omega⟩ ⟨by omega, by omega⟩ (Nat.le_refl _) (fun i hi => (((hsc.alloc _).alloc _).drewN _).src (p1 + i) (by omega)) (by simp [cell_mark_at]) (by simp [cell_mark_at])).mono ?_
          rintro e w' ⟨rfl, hw⟩
          obtain rfl := hw.symm
          go_wp2
          go_roundg (n - (p1 + 1))
          case measure => omega
          case rel => exact ⟨p1 + 1, k, by omega, by omega, rfl, by omega, by omega, by omega, (((hsc.set1i _ (p1 + 1) (by omega)).alloc _).alloc _).drewN _, gb_drewN (gb_alloc (gb_alloc (gb_set hg _ _) _) _) _, rfl⟩
        · have hb' := hb
          unfold pre2 at hb'
          rw [decide_eq_true_eq] at hb'
          obtain ⟨hb1, hb2, hb3⟩ := hb'
          have B2 : Hid (Z p1 = 42) := hb2
          have B3 : Hid (Z (p1 + 1) = 47) := hb3
          clear hb2 hb3
          by_cases hk5 : k = 1
          · subst hk5
            go_wp2
            go_quiet (fail)
            go_wp2
            go_quiet (fail)
            go_wp2_with fail
            refine (hasPrefix2 _ bs p1 (n - p1) (n - p1) _ 47 42 Z HZ.out ⟨by omega, by omega⟩ ⟨by omega, by omega⟩ (Nat.le_refl _) (fun i hi => ((hsc.alloc _).drewN _).src (p1 + i) (by omega)) (by simp [cell_mark_at]) (by simp [cell_mark_at])).mono ?_
            rintro e w' ⟨rfl, hw⟩
            obtain rfl := hw.symm
            go_wp2_with fail
            refine (hasPrefix2 _ bs p1 (n - p1) (n - p1) _ 42 47 Z HZ.out ⟨by omega, by omega⟩ ⟨by omega, by omega⟩ (Nat.le_refl _) (fun i hi => (((hsc.alloc _).alloc _).drewN _).src (p1 + i) (by omega)) (by simp [cell_mark_at]) (by simp [cell_mark_at])).mono ?_
            rintro e w' ⟨rfl, hw⟩
            obtain rfl := hw.symm
            go_wp2
            refine bodyPost_ret (results_none rfl _ _ _) rfl ?_
            exact ⟨rfl, p1 + 2, (((hsc.set1i _ (p1 + 2) (by omega)).alloc _).alloc _).drewN _, gb_drewN (gb_alloc (gb_alloc (gb_set hg _ _) _) _) _, by omega, by omega, .inr ⟨by omega, B3.out, B2.out⟩⟩
          · have hk6 : ((k : Int) - 1 == 0) = false := by simp; omega
            go_wp2
            go_quiet (fail)
            go_wp2
            go_quiet (fail)
            go_wp2_with fail
            refine (hasPrefix2 _ bs p1 (n - p1) (n - p1) _ 47 42 Z HZ.out ⟨by omega, by omega⟩ ⟨by omega, by omega⟩ (Nat.le_refl _) (fun i hi => ((hsc.alloc _).drewN _).src (p1 + i) (by omega)) (by simp [cell_mark_at]) (by simp [cell_mark_at])).mono ?_
            rintro e w' ⟨rfl, hw⟩
            obtain rfl := hw.symm
            go_wp2_with fail
            refine (hasPrefix2 _ bs p1 (n - p1) (n - p1) _ 42 47 Z HZ.out ⟨by omega, by omega⟩ ⟨by omega, by omega⟩ (Nat.le_refl _) (fun i hi => (((hsc.alloc _).alloc _).drewN _).src (p1 + i) (by omega)) (by simp [cell_mark_at]) (by simp [cell_mark_at])).mono ?_
            rintro e w' ⟨rfl, hw⟩
            obtain rfl := hw.symm
            go_wp2
            go_roundg (n - (p1 + 2))
            case measure => omega
            case rel => exact ⟨p1 + 2, k - 1, by omega, by omega, by go_num, by omega, by omega, by omega, (((hsc.set1i _ (p1 + 2) (by omega)).alloc _).alloc _).drewN _, gb_drewN (gb_alloc (gb_alloc (gb_set hg _ _) _) _) _, rfl⟩
      · have ha' := ha
        unfold pre2 at ha'
        rw [decide_eq_true_eq] at ha'
        have ha1 := ha'.1
        clear ha' hk2 hk3
        go_wp2
        go_quiet (fail)
        go_wp2
        go_quiet (fail)
        go_wp2_with fail
        refine (hasPrefix2 _ bs p1 (n - p1) (n - p1) _ 47 42 Z HZ.out ⟨by omega, by omega⟩ ⟨by omega, by omega⟩ (Nat.le_refl _) (fun i hi => ((hsc.alloc _).drewN _).src (p1 + i) (by omega)) (by simp [cell_mark_at]) (by simp [cell_mark_at])).mono ?_
        rintro e w' ⟨rfl, hw⟩
        obtain rfl := hw.symm
        go_wp2
        go_roundg (n - (p1 + 2))
        case measure => omega
        case rel => exact ⟨p1 + 2, k + 1, by omega, by omega, by go_num, by omega, by omega, by omega, ((hsc.set1i _ (p1 + 2) (by omega)).alloc _).drewN _, gb_drewN (gb_alloc (gb_set hg _ _) _) _, rfl⟩
    · go_wp2
      go_quiet (fail)
      go_wp2
      refine bodyPost_end (results_none rfl _ _ _) rfl ?_
      obtain rfl : p1 = n := by omega
      exact ⟨rfl, p1, (hsc.set2 _).drewN _, gb_drewN (gb_set hg _ _) _, by omega, by omega, .inl rfl⟩
end Go.Proofs.Qxb6001101a
