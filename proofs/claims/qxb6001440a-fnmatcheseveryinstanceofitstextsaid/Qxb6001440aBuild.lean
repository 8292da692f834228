import Derived.Test.Qxb6001440aParseW
import Derived.Test.Qxb6001440aPat
namespace Go.Proofs.Qxb6001440a
open Go.RowKit

set_option maxRecDepth 20000 in
set_option maxHeartbeats 1000000 in
theorem zbuild_any (T : List UInt8) (hT : T.length ≤ 65536) (w : World) :
    Calls Try.prog 10 #[.string (ofL T)] w fun e w' => ∃ pb, e = .returned (.pointer (some ⟨pb, 0, none⟩)) ∧ w.heap.size ≤ pb ∧ Pat w' pb T ∧ Below w.heap.size w w' := by
  go_enter Try.func10, Try.ntmps10
  go_wp2_with fail
  refine (zparse_any T hT _).mono ?_
  rintro e w1 ⟨g, cap, wc, rfl, hg1, hg2, hcell, hb1, hwc1, hwc2⟩
  obtain ⟨N, hN⟩ : ∃ N, N = (segs T).length := ⟨_, rfl⟩
  rw [← hN] at hcell ⊢
  have HN : Hid (N = (segs T).length) := hN
  have HC : Hid (∀ i, i < N → w1.cell? ⟨g, i, none⟩ = some (.string (ofL ((segs T).getD i [])))) := hcell
  have HB : Hid (Below w.heap.size w w1) := hb1
  have HW : Hid (((0 < plus T ∨ globB T = true) → 0 ≤ wc) ∧ (plus T = 0 → globB T = false → wc = -1)) := ⟨hwc1, hwc2⟩
  have hw1 := hb1.size
  clear hN hcell hb1 hwc1 hwc2
  obtain ⟨pl, hpl⟩ : ∃ pl, pl = plus T := ⟨_, rfl⟩
  rw [← hpl]
  have HPL : Hid (pl = plus T) := hpl
  clear hpl
  obtain ⟨t, ht⟩ : ∃ t, t = ofL T := ⟨_, rfl⟩
  rw [← ht]
  have HTT : Hid (t = ofL T) := ht
  clear ht
  obtain ⟨gl, hgl⟩ : ∃ gl, gl = globB T := ⟨_, rfl⟩
  rw [← hgl]
  have HGL : Hid (gl = globB T) := hgl
  clear hgl
  rcases Nat.eq_zero_or_pos pl with h0 | h0
  · have hd : decide (0 < pl) = false := by simp; omega
    go_wp2_with fail
    refine (newPattern_any _ _ _ _ _ _ _ _).mono ?_
    rintro e w2 ⟨rfl, hw⟩
    subst hw
    go_wp2
    go_ret
    refine ⟨w1.heap.size + 1, rfl, by omega, ⟨by simp, ?_, ?_, .inl ⟨by have := HPL.out; omega, ?_⟩, ⟨wc, ?_, HW.out⟩, ?_⟩, (HB.out.alloc hw1 _).alloc (by simp; omega) _⟩
    · rw [← HTT.out]; simp [go_sem]
    · rw [← HGL.out]; simp [go_sem]
    · simp [go_sem]
    · simp [go_sem]
    · rw [← HPL.out, h0]; simp [go_sem]
  · have hd : decide (0 < pl) = true := by simp; omega
    go_wp2_with fail
    refine (newPattern_any _ _ _ _ _ _ _ _).mono ?_
    rintro e w2 ⟨rfl, hw⟩
    subst hw
    go_wp2
    go_ret
    refine ⟨w1.heap.size + 1, rfl, by omega, ⟨by simp, ?_, ?_, .inr ⟨by have := HPL.out; omega, g, cap, by simp; omega, ?_, fun i hi => ?_⟩, ⟨wc, ?_, HW.out⟩, ?_⟩, (HB.out.alloc hw1 _).alloc (by simp; omega) _⟩
    · rw [← HTT.out]; simp [go_sem]
    · rw [← HGL.out]; simp [go_sem]
    · rw [← HN.out]; simp [go_sem]
    · rw [World.cell?_alloc_lt _ _ _ (by simp; omega), World.cell?_alloc_lt _ _ _ hg2]
      exact HC.out i (by rw [HN.out]; exact hi)
    · simp [go_sem]
    · rw [← HPL.out]; simp [go_sem]
end Go.Proofs.Qxb6001440a
