import Derived.Test.Qxb6001101aScan
import Derived.Deep.LoopGhost
namespace Go.Proofs.Qxb6001101a
open Go.RowKit

/-- The stretch [a, b) is empty or opens with white space or a comment. -/
def GapO (Z : Nat → Int) (a b : Nat) : Prop :=
  a = b ∨ (a < b ∧ spB (Z a) = true) ∨ (a + 2 ≤ b ∧ Z a = 45 ∧ Z (a + 1) = 45) ∨ (a + 2 ≤ b ∧ Z a = 47 ∧ Z (a + 1) = 42)
/-- The stretch [a, b) is empty or ends in white space or in the mark that closes a comment. -/
def GapC (Z : Nat → Int) (a b : Nat) : Prop :=
  a = b ∨ (a < b ∧ spB (Z (b - 1)) = true) ∨ (a + 4 ≤ b ∧ Z (b - 1) = 47 ∧ Z (b - 2) = 42)

theorem GapO.mono {Z : Nat → Int} {a b c : Nat} (h : GapO Z a b) (hab : a ≠ b) (hbc : b ≤ c) : GapO Z a c := by
  rcases h with h | ⟨h, h2⟩ | ⟨h, h2⟩ | ⟨h, h2⟩
  · exact absurd h hab
  · exact .inr (.inl ⟨by omega, h2⟩)
  · exact .inr (.inr (.inl ⟨by omega, h2⟩))
  · exact .inr (.inr (.inr ⟨by omega, h2⟩))

set_option maxRecDepth 20000 in
set_option maxHeartbeats 400000 in
theorem gapOpens_same (v : Value) (a : Int) (w : World) :
    Calls Try.prog 8 #[v, .int .i64 a, .int .i64 a] w fun e w' => e = .returned (.bool true) ∧ w' = w := by
  go_enter Try.func8, Try.ntmps8
  go_wp2
  go_ret
  exact ⟨rfl, rfl⟩

set_option maxRecDepth 20000 in
set_option maxHeartbeats 400000 in
theorem gapCloses_same (v : Value) (a : Int) (w : World) :
    Calls Try.prog 9 #[v, .int .i64 a, .int .i64 a] w fun e w' => e = .returned (.bool true) ∧ w' = w := by
  go_enter Try.func9, Try.ntmps9
  go_wp2
  go_ret
  exact ⟨rfl, rfl⟩

set_option maxRecDepth 20000 in
set_option maxHeartbeats 400000 in
theorem gapOpens_any (w : World) (bs n a b : Nat) (Z : Nat → Int) (hs : ∀ i, i < n → w.cell? ⟨bs, i, none⟩ = some (.int .u8 (Z i))) (hn : n ≤ 65536) (hab : a ≤ b) (hb : b ≤ n) (hg : GapO Z a b) :
    Calls Try.prog 8 #[.slice (some ⟨bs, 0, none⟩) n n, .int .i64 a, .int .i64 b] w fun e w' => e = .returned (.bool true) ∧ w' = w := by
  rcases hg with rfl | ⟨h, h2⟩ | ⟨h, h2, h3⟩ | ⟨h, h2, h3⟩
  · exact gapOpens_same _ _ _
  · have hne : ((a : Int) == (b : Int)) = false := by simp; omega
    have cs := hs a (by omega)
    clear hs
    go_enter Try.func8, Try.ntmps8
    go_wp2_with (go_at_call 13; refine (isSpaceB_any _ _).mono ?_; rintro e w' ⟨rfl, rfl⟩)
    go_ret
    exact ⟨rfl, rfl⟩
  · have hne : ((a : Int) == (b : Int)) = false := by simp; omega
    have cs := hs a (by omega)
    have cs1 := hs (a + 1) (by omega)
    rw [h2] at cs
    rw [h3] at cs1
    have e1 : spB 45 = false := by decide
    have i1 : (0 : Int) ≤ (a : Int) + 1 := by omega
    have i2 : ((a : Int) + 1).toNat = a + 1 := by omega
    clear hs h2 h3
    go_enter Try.func8, Try.ntmps8
    go_wp2_with (go_at_call 13; refine (isSpaceB_any _ _).mono ?_; rintro e w' ⟨rfl, rfl⟩)
    go_ret
    exact ⟨rfl, rfl⟩
  · have hne : ((a : Int) == (b : Int)) = false := by simp; omega
    have cs := hs a (by omega)
    have cs1 := hs (a + 1) (by omega)
    rw [h2] at cs
    rw [h3] at cs1
    have e1 : spB 47 = false := by decide
    have i1 : (0 : Int) ≤ (a : Int) + 1 := by omega
    have i2 : ((a : Int) + 1).toNat = a + 1 := by omega
    clear hs h2 h3
    go_enter Try.func8, Try.ntmps8
    go_wp2_with (go_at_call 13; refine (isSpaceB_any _ _).mono ?_; rintro e w' ⟨rfl, rfl⟩)
    go_ret
    exact ⟨rfl, rfl⟩

set_option maxRecDepth 20000 in
set_option maxHeartbeats 400000 in
theorem gapCloses_any (w : World) (bs n a b : Nat) (Z : Nat → Int) (hs : ∀ i, i < n → w.cell? ⟨bs, i, none⟩ = some (.int .u8 (Z i))) (hn : n ≤ 65536) (hab : a ≤ b) (hb : b ≤ n) (hg : GapC Z a b) :
    Calls Try.prog 9 #[.slice (some ⟨bs, 0, none⟩) n n, .int .i64 a, .int .i64 b] w fun e w' => e = .returned (.bool true) ∧ w' = w := by
  rcases hg with rfl | ⟨h, h2⟩ | ⟨h, h2, h3⟩
  · exact gapCloses_same _ _ _
  · have hne : ((a : Int) == (b : Int)) = false := by simp; omega
    have cs := hs (b - 1) (by omega)
    have i1 : (0 : Int) ≤ (b : Int) - 1 := by omega
    have i2 : ((b : Int) - 1).toNat = b - 1 := by omega
    clear hs
    go_enter Try.func9, Try.ntmps9
    go_wp2_with (go_at_call 13; refine (isSpaceB_any _ _).mono ?_; rintro e w' ⟨rfl, rfl⟩)
    go_ret
    exact ⟨rfl, rfl⟩
  · have hne : ((a : Int) == (b : Int)) = false := by simp; omega
    have cs := hs (b - 1) (by omega)
    have cs1 := hs (b - 2) (by omega)
    rw [h2] at cs
    rw [h3] at cs1
    have e1 : spB 47 = false := by decide
    have i1 : (0 : Int) ≤ (b : Int) - 1 := by omega
    have i2 : ((b : Int) - 1).toNat = b - 1 := by omega
    have i3 : (0 : Int) ≤ (b : Int) - 2 := by omega
    have i4 : ((b : Int) - 2).toNat = b - 2 := by omega
    clear hs h2 h3
    go_enter Try.func9, Try.ntmps9
    go_wp2_with (go_at_call 13; refine (isSpaceB_any _ _).mono ?_; rintro e w' ⟨rfl, rfl⟩)
    go_ret
    exact ⟨rfl, rfl⟩
end Go.Proofs.Qxb6001101a
