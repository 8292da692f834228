import Derived.Test.Qxb6001409aProg
import Derived.WalkKit
import Derived.WalkSpells
import Derived.WalkLawsBesides
namespace Go.Proofs.Qxb6001409a
open Go.RowKit

/-- An unreserved byte. -/
def unresB (c : Int) : Bool := decide ((97 ≤ c ∧ c ≤ 122) ∨ (65 ≤ c ∧ c ≤ 90) ∨ (48 ≤ c ∧ c ≤ 57) ∨ c = 45 ∨ c = 46 ∨ c = 95 ∨ c = 126)
/-- A hexadecimal digit's byte. -/
def hexI (d : Int) : Int := if d < 10 then 48 + d else 55 + d

theorem ret_bool {a b : Bool} (h : a = b) : Ending.returned (.bool a) = .returned (.bool b) := by rw [h]

theorem ret_two {k : IntKind} {a b : Int} {v : Bool} (h : a = b) : Ending.returned (.tuple #[.int k a, .bool v]) = .returned (.tuple #[.int k b, .bool v]) := by rw [h]

set_option maxHeartbeats 400000 in
theorem unreserved_any (c : Int) (w : World) :
    Calls Try.prog 26 #[.int .u8 c] w fun e w' => e = .returned (.bool (unresB c)) ∧ w' = w := by
  go_enter Try.func26, Try.ntmps26
  go_wp2
  all_goals (go_ret; exact ⟨ret_bool (by rw [Bool.eq_iff_iff]; simp [unresB]; try omega), rfl⟩)

theorem unreserved_at (c : Int) (v : Bool) (h : unresB c = v) (w : World) :
    Calls Try.prog 26 #[.int .u8 c] w fun e w' => e = .returned (.bool v) ∧ w' = w := by
  rw [← h]
  exact unreserved_any c w

set_option maxHeartbeats 400000 in
theorem upperHex_at (d : Int) (h0 : 0 ≤ d) (h1 : d < 16) (w : World) :
    Calls Try.prog 25 #[.int .u8 (hexI d)] w fun e w' => e = .returned (.tuple #[.int .u8 d, .bool true]) ∧ w' = w := by
  unfold hexI
  by_cases h : d < 10
  · rw [if_pos h]
    go_enter Try.func25, Try.ntmps25
    go_wp2
    go_ret2
    exact ⟨ret_two (by omega), rfl⟩
  · rw [if_neg h]
    go_enter Try.func25, Try.ntmps25
    go_wp2
    go_ret2
    exact ⟨ret_two (by omega), rfl⟩

set_option maxHeartbeats 400000 in
theorem zzBytes_any (a : Option Addr) (n c : Nat) (hn : n ≤ 9223372036854775807) (w : World) :
    Calls Try.prog 17 #[.slice a n c] w fun e w' => e = .returned (.bool (decide (n ≤ 1048576))) ∧ w' = w := by
  by_cases h : n ≤ 1048576
  · go_enter Try.func17, Try.ntmps17
    go_wp2
    all_goals (go_ret; exact ⟨ret_bool (by simp; omega), rfl⟩)
  · go_enter Try.func17, Try.ntmps17
    go_wp2
    all_goals (go_ret; exact ⟨ret_bool (by simp; omega), rfl⟩)
end Go.Proofs.Qxb6001409a
