import Derived.Test.Qxb6001101aBlock
import Derived.Test.Qxb6001101aGaps
namespace Go.Proofs.Qxb6001101a
open Go.RowKit

theorem sp_ten : spB 10 = true := by decide
/-- One step of the skip: a space. -/
theorem gapO_space {Z : Nat → Int} {p p1 : Nat} (h : GapO Z p p1) (hp : p ≤ p1) (hs : spB (Z p1) = true) : GapO Z p (p1 + 1) := by
  by_cases e : p = p1
  · subst e; exact .inr (.inl ⟨by omega, hs⟩)
  · exact h.mono e (by omega)
theorem gapC_space {Z : Nat → Int} {p p1 q : Nat} (hp : p ≤ p1) (hq : q = p1 + 1) (hs : spB (Z p1) = true) : GapC Z p q := by
  subst hq
  exact .inr (.inl ⟨by omega, by simpa using hs⟩)
theorem gapO_dash {Z : Nat → Int} {p p1 q : Nat} (h : GapO Z p p1) (h0 : Z p1 = 45) (h1 : Z (p1 + 1) = 45) (hq : p1 + 2 ≤ q) : GapO Z p q := by
  by_cases e : p = p1
  · subst e; exact .inr (.inr (.inl ⟨by omega, h0, h1⟩))
  · exact h.mono e (by omega)
theorem gapO_block {Z : Nat → Int} {p p1 q : Nat} (h : GapO Z p p1) (h0 : Z p1 = 47) (h1 : Z (p1 + 1) = 42) (hq : p1 + 2 ≤ q) : GapO Z p q := by
  by_cases e : p = p1
  · subst e; exact .inr (.inr (.inr ⟨by omega, h0, h1⟩))
  · exact h.mono e (by omega)

set_option maxRecDepth 20000 in
set_option maxHeartbeats 1000000 in
theorem skipSpace_any (w : World) (b bs n p : Nat) (Z : Nat → Int) (hZ : ∀ i, IsByte (Z i)) (hS : Sc w b bs n Z p) (hn : n ≤ 65536) (hp : p ≤ n) :
    Calls Try.prog 16 #[.pointer (some ⟨b, 0, none⟩)] w fun e w' => e = .returned (.tuple #[]) ∧
      ∃ p', Sc w' b bs n Z p' ∧ w.grownBy w' (some b) ∧ p ≤ p' ∧ p' ≤ n ∧ GapO Z p p' ∧ (p' = n ∨ GapC Z p p') := by
  have sd : ∀ (W : World) (j : Nat) (x : Addr) (v : Value), (W.drewN j).setCell x v = (W.setCell x v).drewN j := fun _ _ _ _ => rfl
  have ad : ∀ (W : World) (j : Nat) (o : Obj), (W.drewN j).alloc o = (W.alloc o).drewN j := fun _ _ _ => rfl
  have kc := conv_const
  have HZ : Hid (∀ i, IsByte (Z i)) := hZ
  clear hZ
  go_enter Try.func16, Try.ntmps16
  go_wp2
  go_loopg [2, 3, 23, 38, 64] (n - p) (fun g _ _ _ _ _ wr => ∃ p1 : Nat, p ≤ p1 ∧ p1 ≤ n ∧ GapO Z p p1 ∧ (p1 = n ∨ GapC Z p p1) ∧ Sc wr b bs n Z p1 ∧ w.grownBy wr (some b) ∧ g = n - p1)
  case atStart => exact ⟨p, by omega, by omega, .inl rfl, .inr (.inl rfl), hS, gb_refl _ _, rfl⟩
  case round =>
    obtain ⟨p1, h1, h2, hgo, hgc, hsc, hg, rfl⟩ := hrel
    have HGO : Hid (GapO Z p p1) := hgo
    have HGC : Hid (p1 = n ∨ GapC Z p p1) := hgc
    clear hgo hgc
    have c0 := hsc.c0
    have c1 := hsc.c1
    have f1 := hsc.fr 1
    have f2 := hsc.fr 2
    obtain ⟨op, c2⟩ := hsc.c2
    have hne : ¬ b = bs := by have := hsc.lt; omega
    have hbd := hsc.bound
    have hbs : bs < wr.heap.size := by have := hsc.lt; omega
    by_cases hlt : p1 < n
    · have hnp : ¬ n = p1 := by omega
      have cs := hsc.src p1 hlt
      have hz1 := HZ.out p1
      obtain ⟨c, hc⟩ : ∃ c, c = Z p1 := ⟨_, rfl⟩
      rw [← hc] at cs hz1
      have HC : Hid (c = Z p1) := hc
      clear hc
      have i0 : (0 : Int) < ((n - p1 : Nat) : Int) := by omega
      cases hsp : spB c
      · cases hd : pre2 Z p1 (n - p1) 45 45
        · cases hbl : pre2 Z p1 (n - p1) 47 42
          · skip
            go_wp2
            go_quiet (fail)
            go_wp2
            go_quiet (fail)
            go_wp2_with fail
            refine (indexByte_space _ _ c hz1 (by simp [cell_mark_at]) (by simp [cell_mark_at]) (by simp [cell_mark_at]) (by simp [cell_mark_at]) (by simp [cell_mark_at]) (by simp [cell_mark_at])).mono ?_
            rintro e w' ⟨r, rfl, hr, hw⟩
            obtain rfl := hw.symm
            rw [hsp] at hr
            have hr' : ¬ 0 ≤ r := fun h => by simpa using hr.1 h
            clear hr
            go_wp2_with fail
            refine (hasPrefix2 _ bs p1 (n - p1) (n - p1) _ 45 45 Z HZ.out ⟨by omega, by omega⟩ ⟨by omega, by omega⟩ (Nat.le_refl _) (fun i hi => (((hsc.alloc _).alloc _).drewN _).src (p1 + i) (by omega)) (by simp [cell_mark_at]) (by simp [cell_mark_at])).mono ?_
            rintro e w' ⟨rfl, hw⟩
            obtain rfl := hw.symm
            go_wp2_with fail
            refine (hasPrefix2 _ bs p1 (n - p1) (n - p1) _ 47 42 Z HZ.out ⟨by omega, by omega⟩ ⟨by omega, by omega⟩ (Nat.le_refl _) (fun i hi => ((((hsc.alloc _).alloc _).alloc _).drewN _).src (p1 + i) (by omega)) (by simp [cell_mark_at]) (by simp [cell_mark_at])).mono ?_
            rintro e w' ⟨rfl, hw⟩
            obtain rfl := hw.symm
            go_wp2
            refine bodyPost_ret (results_none rfl _ _ _) rfl ?_
            exact ⟨rfl, p1, (((hsc.alloc _).alloc _).alloc _).drewN _, gb_drewN (gb_alloc (gb_alloc (gb_alloc hg _) _) _) _, by omega, by omega, HGO.out, HGC.out⟩
          · have hbl' := hbl
            unfold pre2 at hbl'
            rw [decide_eq_true_eq] at hbl'
            obtain ⟨b1, b2, b3⟩ := hbl'
            have B2 : Hid (Z p1 = 47) := b2
            have B3 : Hid (Z (p1 + 1) = 42) := b3
            clear b2 b3
            go_wp2
            go_quiet (fail)
            go_wp2
            go_quiet (fail)
            go_wp2_with fail
            refine (indexByte_space _ _ c hz1 (by simp [cell_mark_at]) (by simp [cell_mark_at]) (by simp [cell_mark_at]) (by simp [cell_mark_at]) (by simp [cell_mark_at]) (by simp [cell_mark_at])).mono ?_
            rintro e w' ⟨r, rfl, hr, hw⟩
            obtain rfl := hw.symm
            rw [hsp] at hr
            have hr' : ¬ 0 ≤ r := fun h => by simpa using hr.1 h
            clear hr
            go_wp2_with fail
            refine (hasPrefix2 _ bs p1 (n - p1) (n - p1) _ 45 45 Z HZ.out ⟨by omega, by omega⟩ ⟨by omega, by omega⟩ (Nat.le_refl _) (fun i hi => (((hsc.alloc _).alloc _).drewN _).src (p1 + i) (by omega)) (by simp [cell_mark_at]) (by simp [cell_mark_at])).mono ?_
            rintro e w' ⟨rfl, hw⟩
            obtain rfl := hw.symm
            go_wp2_with fail
            refine (hasPrefix2 _ bs p1 (n - p1) (n - p1) _ 47 42 Z HZ.out ⟨by omega, by omega⟩ ⟨by omega, by omega⟩ (Nat.le_refl _) (fun i hi => ((((hsc.alloc _).alloc _).alloc _).drewN _).src (p1 + i) (by omega)) (by simp [cell_mark_at]) (by simp [cell_mark_at])).mono ?_
            rintro e w' ⟨rfl, hw⟩
            obtain rfl := hw.symm
            go_wp2_with fail
            refine (skipBlock_any _ b bs n p1 Z HZ.out ((((hsc.alloc _).alloc _).alloc _).drewN _) hn (by omega) B2.out B3.out).mono ?_
            rintro e w' ⟨rfl, p2, hsc2, hg2, q1, q2, q3⟩
            have HG3 : Hid (w.grownBy w' (some b)) := gb_trans (gb_drewN (gb_alloc (gb_alloc (gb_alloc hg _) _) _) _) hg2
            have HS2 : Hid (Sc w' b bs n Z p2) := hsc2
            have HQ3 : Hid (p2 = n ∨ (p1 + 4 ≤ p2 ∧ Z (p2 - 1) = 47 ∧ Z (p2 - 2) = 42)) := q3
            clear hg2 hsc2 q3
            go_wp2
            go_roundg (n - p2)
            case measure => omega
            case rel => exact ⟨p2, by omega, by omega, gapO_block HGO.out B2.out B3.out q1, (HQ3.out.elim .inl (fun h => .inr (.inr (.inr ⟨by omega, h.2⟩)))), HS2.out, HG3.out, rfl⟩
        · have hd' := hd
          unfold pre2 at hd'
          rw [decide_eq_true_eq] at hd'
          obtain ⟨b1, b2, b3⟩ := hd'
          have B2 : Hid (Z p1 = 45) := b2
          have B3 : Hid (Z (p1 + 1) = 45) := b3
          clear b2 b3
          go_wp2
          go_quiet (fail)
          go_wp2
          go_quiet (fail)
          go_wp2_with fail
          refine (indexByte_space _ _ c hz1 (by simp [cell_mark_at]) (by simp [cell_mark_at]) (by simp [cell_mark_at]) (by simp [cell_mark_at]) (by simp [cell_mark_at]) (by simp [cell_mark_at])).mono ?_
          rintro e w' ⟨r, rfl, hr, hw⟩
          obtain rfl := hw.symm
          rw [hsp] at hr
          have hr' : ¬ 0 ≤ r := fun h => by simpa using hr.1 h
          clear hr
          go_wp2_with fail
          refine (hasPrefix2 _ bs p1 (n - p1) (n - p1) _ 45 45 Z HZ.out ⟨by omega, by omega⟩ ⟨by omega, by omega⟩ (Nat.le_refl _) (fun i hi => (((hsc.alloc _).alloc _).drewN _).src (p1 + i) (by omega)) (by simp [cell_mark_at]) (by simp [cell_mark_at])).mono ?_
          rintro e w' ⟨rfl, hw⟩
          obtain rfl := hw.symm
          go_wp2_with fail
          refine (indexByte_seg _ bs p1 (n - p1) (n - p1) 10 Z HZ.out ⟨by omega, by omega⟩ (fun i hi => (((hsc.alloc _).alloc _).drewN _).src (p1 + i) (by omega))).mono ?_
          rintro e w' ⟨r2, rfl, hr2, hw⟩
          obtain rfl := hw.symm
          rcases hr2 with rfl | ⟨k, rfl, hk1, hk2⟩
          · go_wp2
            go_roundg 0
            case measure => omega
            case rel => exact ⟨n, by omega, by omega, gapO_dash HGO.out B2.out B3.out (by omega), .inl rfl, (((hsc.set1i _ n rfl).alloc _).alloc _).drewN _, gb_drewN (gb_alloc (gb_alloc (gb_set hg _ _) _) _) _, by omega⟩
          · have hk0 : 1 ≤ k := by
              rcases Nat.eq_zero_or_pos k with h | h
              · exfalso
                subst h
                have := B2.out
                simp at hk2
                omega
              · exact h
            have HK : Hid (Z (p1 + k) = 10) := hk2
            clear hk2
            go_wp2
            go_roundg (n - (p1 + (k + 1)))
            case measure => omega
            case rel => exact ⟨p1 + (k + 1), by omega, by omega, gapO_dash HGO.out B2.out B3.out (by omega), .inr (gapC_space (p1 := p1 + k) (by omega) (by omega) (by rw [HK.out]; exact sp_ten)), (((hsc.set1i _ (p1 + (k + 1)) (by omega)).alloc _).alloc _).drewN _, gb_drewN (gb_alloc (gb_alloc (gb_set hg _ _) _) _) _, rfl⟩
      · have hsp2 : spB (Z p1) = true := by rw [← HC.out]; exact hsp
        have HSP : Hid (spB (Z p1) = true) := hsp2
        clear hsp2
        go_wp2
        go_quiet (fail)
        go_wp2
        go_quiet (fail)
        go_wp2_with fail
        refine (indexByte_space _ _ c hz1 (by simp [cell_mark_at]) (by simp [cell_mark_at]) (by simp [cell_mark_at]) (by simp [cell_mark_at]) (by simp [cell_mark_at]) (by simp [cell_mark_at])).mono ?_
        rintro e w' ⟨r, rfl, hr, hw⟩
        obtain rfl := hw.symm
        rw [hsp] at hr
        have hr' : 0 ≤ r := hr.2 rfl
        clear hr
        go_wp2
        go_roundg (n - (p1 + 1))
        case measure => omega
        case rel => exact ⟨p1 + 1, by omega, by omega, gapO_space HGO.out h1 HSP.out, .inr (gapC_space h1 rfl HSP.out), ((hsc.set1i _ (p1 + 1) (by omega)).alloc _).drewN _, gb_drewN (gb_alloc (gb_set hg _ _) _) _, rfl⟩
    · obtain rfl : p1 = n := by omega
      go_wp2
      go_quiet (fail)
      go_wp2
      refine bodyPost_end (results_none rfl _ _ _) rfl ?_
      exact ⟨rfl, p1, hsc.drewN _, gb_drewN hg _, by omega, by omega, HGO.out, .inl rfl⟩
end Go.Proofs.Qxb6001101a
