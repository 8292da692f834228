import Derived.Test.Qxb6001101aLib
import Derived.Test.Qxb6001101aShelfB
import Derived.Deep.LoopGhost
import Derived.Deep.QuietTactic
import Derived.BigQuiet
namespace Go.Proofs.Qxb6001101a
open Go.RowKit

theorem index_any (w : World) (a1 : Addr) (m c bs2 p2 k c2 : Nat) (Z Z2 : Nat → Int) (mx : Int) (hZ : ∀ i, IsByte (Z i)) (hZ2 : ∀ i, IsByte (Z2 i)) (hm : m < 4294967281) (hk : k < 4294967281) (hc : m ≤ c)
    (hs : ∀ i, i < m → w.cell? (a1.add i) = some (.int .u8 (Z i))) (hs2 : ∀ i, i < k → w.cell? ⟨bs2, p2 + i, none⟩ = some (.int .u8 (Z2 i))) (hx : w.cell? ⟨0, 0, none⟩ = some (.int .i64 mx)) :
    Calls Try.prog 24 #[.slice (some a1) m c, .slice (some ⟨bs2, p2, none⟩) k c2] w fun e w' => ∃ r : Int, e = .returned (.int .i64 r) ∧ (r = -1 ∨ ∃ j : Nat, r = j ∧ j + k ≤ m) ∧ ∃ q, w' = w.drewN q := by
  have hb : ∀ (Z : Nat → Int) (m : Nat), (∀ i, IsByte (Z i)) → ∀ x ∈ seg Z 0 m, 0 ≤ x ∧ x < 256 := by
    intro Z m hZ x hx
    simp [seg] at hx
    obtain ⟨a, _, rfl⟩ := hx
    exact hZ a
  refine (Try.bytes_Index_at a1 ⟨bs2, p2, none⟩ m c k c2 (seg Z 0 m) (seg Z2 0 k) mx w (seg_length _ _ _) (seg_length _ _ _) (hb Z m hZ) (hb Z2 k hZ2) (fun i hi => ?_) (fun i hi => ?_) hc hm (by omega) hx).mono ?_
  · rw [hs i hi, seg_getD _ _ _ _ hi, Nat.zero_add]
  · rw [addr_add, hs2 i hi, seg_getD _ _ _ _ hi, Nat.zero_add]
  · rintro e w' ⟨rfl, q, rfl⟩
    refine ⟨_, rfl, ?_, q, rfl⟩
    have hge := Lib.index_ge (Lib.bytesOf (seg Z 0 m)) (Lib.bytesOf (seg Z2 0 k))
    by_cases h : Lib.index (Lib.bytesOf (seg Z 0 m)) (Lib.bytesOf (seg Z2 0 k)) = -1
    · exact .inl h
    · have hr := Lib.index_room (Lib.bytesOf (seg Z 0 m)) (Lib.bytesOf (seg Z2 0 k)) (by omega)
      simp only [Lib.bytesOf, List.length_map, seg_length] at hr
      exact .inr ⟨(Lib.index (Lib.bytesOf (seg Z 0 m)) (Lib.bytesOf (seg Z2 0 k))).toNat, by omega, by simp only [Lib.bytesOf] at h hge ⊢; omega⟩

set_option maxRecDepth 20000 in
set_option maxHeartbeats 1000000 in
theorem skipDollar_any (w : World) (b bs n p : Nat) (Z : Nat → Int) (mx : Int) (hZ : ∀ i, IsByte (Z i)) (hS : Sc w b bs n Z p) (hn : n ≤ 65536) (hp : p < n) (hx : w.cell? ⟨0, 0, none⟩ = some (.int .i64 mx)) :
    Calls Try.prog 18 #[.pointer (some ⟨b, 0, none⟩)] w fun e w' => e = .returned (.tuple #[]) ∧
      ∃ p', Sc w' b bs n Z p' ∧ w.grownBy w' (some b) ∧ p < p' ∧ p' ≤ n := by
  have sd : ∀ (W : World) (j : Nat) (x : Addr) (v : Value), (W.drewN j).setCell x v = (W.setCell x v).drewN j := fun _ _ _ _ => rfl
  have HZ : Hid (∀ i, IsByte (Z i)) := hZ
  clear hZ
  have c0 := hS.c0
  have c1 := hS.c1
  have f1 := hS.fr 1
  have f2 := hS.fr 2
  obtain ⟨op, c2⟩ := hS.c2
  have hne : ¬ b = bs := by have := hS.lt; omega
  have hnp : ¬ n = p := by omega
  go_enter Try.func18, Try.ntmps18
  go_wp2
  go_quiet (fail)
  go_wp2
  go_loopg [3, 4, 5, 31, 36] (n - p - 1) (fun g t i _ _ _ wr => ∃ k tl q : Nat, 1 ≤ k ∧ k ≤ n - p ∧ i = .int .i64 k ∧ t = .int .i64 tl ∧ (tl = 0 ∨ (tl = k ∧ 2 ≤ k)) ∧ wr = w.drewN q ∧ g = n - p - k)
  case atStart => exact ⟨1, 0, _, by omega, by omega, rfl, rfl, .inl rfl, rfl, rfl⟩
  case round =>
    obtain ⟨k, tl, q, h1, h2, rfl, rfl, ht, rfl, rfl⟩ := hrel
    rcases ht with rfl | ⟨rfl, h3⟩
    · by_cases hlt : k < n - p
      · have cs := hS.src (p + k) (by omega)
        obtain ⟨c, hc⟩ : ∃ c, c = Z (p + k) := ⟨_, rfl⟩
        rw [← hc] at cs
        clear hc
        by_cases h36 : c = 36
        · subst h36
          go_wp2
          go_roundg (n - p - (k + 1))
          case measure => omega
          case rel => exact ⟨k + 1, k + 1, q, by omega, by omega, by go_num, by go_num, .inr ⟨rfl, by omega⟩, rfl, rfl⟩
        · have h36' : (c == 36) = false := by simpa using h36
          cases hip : idPartB c
          · go_wp2_with (go_at_call 20; refine (isIdentifierPart_any _ _).mono ?_; rintro e w' ⟨rfl, hw⟩; obtain rfl := hw.symm)
            refine bodyPost_ret (results_none rfl _ _ _) rfl ?_
            exact ⟨rfl, p + 1, (hS.set1i _ (p + 1) (by omega)).drewN _, gb_drewN (gb_set (gb_refl _ _) _ _) _, by omega, by omega⟩
          · go_wp2_with (go_at_call 20; refine (isIdentifierPart_any _ _).mono ?_; rintro e w' ⟨rfl, hw⟩; obtain rfl := hw.symm)
            go_roundg (n - p - (k + 1))
            case measure => omega
            case rel => exact ⟨k + 1, 0, q, by omega, by omega, by go_num, rfl, .inl rfl, rfl, rfl⟩
      · go_wp2
        refine bodyPost_ret (results_none rfl _ _ _) rfl ?_
        exact ⟨rfl, p + 1, (hS.set1i _ (p + 1) (by omega)).drewN _, gb_drewN (gb_set (gb_refl _ _) _ _) _, by omega, by omega⟩
    · have hk0 : ((tl : Int) == 0) = false := by simp; omega
      by_cases hend : n - p = tl
      · go_wp2_with fail
        refine (index_any _ _ 0 0 bs p tl tl Z (fun i => Z (p + i)) mx HZ.out (fun i => HZ.out (p + i)) (by omega) (by omega) (Nat.le_refl _) (fun i hi => absurd hi (Nat.not_lt_zero _)) (fun i hi => (hS.drewN _).src (p + i) (by omega)) (by simpa using hx)).mono ?_
        rintro e w' ⟨r, rfl, hr, q2, rfl⟩
        obtain rfl : r = -1 := by
          rcases hr with hr | ⟨j, _, hj⟩
          · exact hr
          · omega
        clear hr
        go_wp2
        refine bodyPost_end (results_none rfl _ _ _) rfl ?_
        exact ⟨rfl, n, ((hS.set1i _ n (by omega)).set2 _).drewN _, gb_drewN (gb_set (gb_set (gb_refl _ _) _ _) _ _) _, by omega, by omega⟩
      · go_wp2_with fail
        refine (index_any _ _ (n - p - tl) (n - p - tl) bs p tl (n - p) (fun i => Z (p + tl + i)) (fun i => Z (p + i)) mx (fun i => HZ.out (p + tl + i)) (fun i => HZ.out (p + i)) (by omega) (by omega) (Nat.le_refl _) (fun i hi => by rw [addr_add]; exact (hS.drewN _).src (p + tl + i) (by omega)) (fun i hi => (hS.drewN _).src (p + i) (by omega)) (by simpa using hx)).mono ?_
        rintro e w' ⟨r, rfl, hr, q2, rfl⟩
        rcases hr with rfl | ⟨j, rfl, hj⟩
        · go_wp2
          refine bodyPost_end (results_none rfl _ _ _) rfl ?_
          exact ⟨rfl, n, ((hS.set1i _ n (by omega)).set2 _).drewN _, gb_drewN (gb_set (gb_set (gb_refl _ _) _ _) _ _) _, by omega, by omega⟩
        · go_wp2
          refine bodyPost_end (results_none rfl _ _ _) rfl ?_
          exact ⟨rfl, p + (tl + j + tl), (hS.set1i _ (p + (tl + j + tl)) (by omega)).drewN _, gb_drewN (gb_set (gb_refl _ _) _ _) _, by omega, by omega⟩
end Go.Proofs.Qxb6001101a
