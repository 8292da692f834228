import Derived.Test.Qxb6001101aProg
import Derived.WalkKit
import Derived.WalkSpells
import Derived.WalkLawsBesides
namespace Go.Proofs.Qxb6001101a
open Go.RowKit

def idStartB (c : Int) : Bool := decide ((97 ≤ c ∧ c ≤ 122) ∨ (65 ≤ c ∧ c ≤ 90) ∨ c = 95 ∨ 128 ≤ c)
def idPartB (c : Int) : Bool := decide ((97 ≤ c ∧ c ≤ 122) ∨ (65 ≤ c ∧ c ≤ 90) ∨ c = 95 ∨ 128 ≤ c ∨ (48 ≤ c ∧ c ≤ 57) ∨ c = 36)
def spB (c : Int) : Bool := decide (c = 32 ∨ c = 9 ∨ c = 10 ∨ c = 13 ∨ c = 12 ∨ c = 11)

theorem ret_bool {a b : Bool} (h : a = b) : Ending.returned (.bool a) = .returned (.bool b) := by rw [h]

set_option maxHeartbeats 400000 in
theorem isIdentifierStart_any (c : Int) (w : World) :
    Calls Try.prog 19 #[.int .u8 c] w fun e w' => e = .returned (.bool (idStartB c)) ∧ w' = w := by
  go_enter Try.func19, Try.ntmps19
  go_wp2
  all_goals (go_ret; exact ⟨ret_bool (by rw [Bool.eq_iff_iff]; simp [idStartB]; try omega), rfl⟩)

set_option maxHeartbeats 400000 in
theorem isIdentStartB_any (c : Int) (w : World) :
    Calls Try.prog 14 #[.int .u8 c] w fun e w' => e = .returned (.bool (idStartB c)) ∧ w' = w := by
  go_enter Try.func14, Try.ntmps14
  go_wp2
  all_goals (go_ret; exact ⟨ret_bool (by rw [Bool.eq_iff_iff]; simp [idStartB]; try omega), rfl⟩)

set_option maxHeartbeats 400000 in
theorem isIdentifierPart_any (c : Int) (w : World) :
    Calls Try.prog 20 #[.int .u8 c] w fun e w' => e = .returned (.bool (idPartB c)) ∧ w' = w := by
  by_cases h : idStartB c = true
  · have h2 := h
    simp [idStartB] at h2
    go_enter Try.func20, Try.ntmps20
    go_wp2_with (go_at_call 19; refine (isIdentifierStart_any _ _).mono ?_; rintro e w' ⟨rfl, rfl⟩)
    all_goals (go_ret; exact ⟨ret_bool (by rw [Bool.eq_iff_iff]; simp [idPartB]; try omega), rfl⟩)
  · have h : idStartB c = false := by simpa using h
    have h2 := h
    simp [idStartB] at h2
    go_enter Try.func20, Try.ntmps20
    go_wp2_with (go_at_call 19; refine (isIdentifierStart_any _ _).mono ?_; rintro e w' ⟨rfl, rfl⟩)
    all_goals (go_ret; exact ⟨ret_bool (by rw [Bool.eq_iff_iff]; simp [idPartB]; try omega), rfl⟩)

set_option maxHeartbeats 400000 in
theorem isIdentPartB_any (c : Int) (w : World) :
    Calls Try.prog 15 #[.int .u8 c] w fun e w' => e = .returned (.bool (idPartB c)) ∧ w' = w := by
  by_cases h : idStartB c = true
  · have h2 := h
    simp [idStartB] at h2
    go_enter Try.func15, Try.ntmps15
    go_wp2_with (go_at_call 14; refine (isIdentStartB_any _ _).mono ?_; rintro e w' ⟨rfl, rfl⟩)
    all_goals (go_ret; exact ⟨ret_bool (by rw [Bool.eq_iff_iff]; simp [idPartB]; try omega), rfl⟩)
  · have h : idStartB c = false := by simpa using h
    have h2 := h
    simp [idStartB] at h2
    go_enter Try.func15, Try.ntmps15
    go_wp2_with (go_at_call 14; refine (isIdentStartB_any _ _).mono ?_; rintro e w' ⟨rfl, rfl⟩)
    all_goals (go_ret; exact ⟨ret_bool (by rw [Bool.eq_iff_iff]; simp [idPartB]; try omega), rfl⟩)

set_option maxHeartbeats 400000 in
theorem isSpaceB_any (c : Int) (w : World) :
    Calls Try.prog 13 #[.int .u8 c] w fun e w' => e = .returned (.bool (spB c)) ∧ w' = w := by
  go_enter Try.func13, Try.ntmps13
  go_wp2
  all_goals (go_ret; exact ⟨ret_bool (by rw [Bool.eq_iff_iff]; simp [spB]; try omega), rfl⟩)

set_option maxHeartbeats 400000 in
theorem zzBytes_any (a : Option Addr) (n c : Nat) (hn : n ≤ 9223372036854775807) (w : World) :
    Calls Try.prog 5 #[.slice a n c] w fun e w' => e = .returned (.bool (decide (n ≤ 1048576))) ∧ w' = w := by
  by_cases h : n ≤ 1048576
  · go_enter Try.func5, Try.ntmps5
    go_wp2
    all_goals (go_ret; exact ⟨ret_bool (by simp; omega), rfl⟩)
  · go_enter Try.func5, Try.ntmps5
    go_wp2
    all_goals (go_ret; exact ⟨ret_bool (by simp; omega), rfl⟩)
end Go.Proofs.Qxb6001101a
