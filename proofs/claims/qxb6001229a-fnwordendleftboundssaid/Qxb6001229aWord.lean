import Derived.Test.Qxb6001229aShelfA
import Derived.WalkKit
import Derived.WalkSpells
import Derived.WalkLawsBesides
import Derived.Deep.LoopGhost
namespace Go.Proofs.Qxb6001229a
open Go.RowKit

/-- How many of the first k bytes are x. -/
def num (t : ByteArray) (x : Int) : Nat → Nat
  | 0 => 0
  | k + 1 => num t x k + (if ((t.data.toList.getD k 0).toNat : Int) = x then 1 else 0)

theorem num_le (t : ByteArray) (x : Int) (k : Nat) : num t x k ≤ k := by
  induction k with
  | zero => exact Nat.le_refl _
  | succ k ih => unfold num; split <;> omega

theorem num_succ (t : ByteArray) (x : Int) (k : Nat) (h : k < t.size) : num t x (k + 1) = num t x k + (if (t[k].toNat : Int) = x then 1 else 0) := by
  have e : t.data.toList.getD k 0 = t[k] := by
    rw [List.getD_eq_getElem?_getD, List.getElem?_eq_getElem (by simpa using h)]
    rfl
  show num t x k + (if ((t.data.toList.getD k 0).toNat : Int) = x then 1 else 0) = _
  rw [e]

theorem ret_bool {a b : Bool} (h : a = b) : Ending.returned (.bool a) = .returned (.bool b) := by rw [h]

set_option maxHeartbeats 400000 in
theorem zzBytes_any (t : ByteArray) (o : Int) (hn : t.size ≤ 9223372036854775807) (w : World) :
    Calls Try.prog 20 #[.string t, .int .i64 o] w fun e w' => e = .returned (.bool (decide (t.size ≤ 1048576))) ∧ w' = w := by
  by_cases h : t.size ≤ 1048576
  · go_enter Try.func20, Try.ntmps20
    go_wp2
    all_goals (go_ret; exact ⟨ret_bool (by simp; omega), rfl⟩)
  · go_enter Try.func20, Try.ntmps20
    go_wp2
    all_goals (go_ret; exact ⟨ret_bool (by simp; omega), rfl⟩)

set_option maxRecDepth 20000 in
set_option maxHeartbeats 1000000 in
theorem wordEnd_any (t : ByteArray) (o : Int) (hn : t.size ≤ 1048576) (h0 : 0 ≤ o) (h1 : o ≤ 1073741824) (w : World) :
    Calls Try.prog 23 #[.string t, .int .i64 o] w fun e w' => ∃ a l : Int, e = .returned (.tuple #[.int .i64 a, .int .i64 l]) ∧ 0 ≤ l ∧ l ≤ o + num t 40 t.size ∧ o - num t 41 t.size ≤ l ∧ w' = w := by
  go_enter Try.func23, Try.ntmps23
  go_wp2
  go_loopg [1, 4, 6, 7, 17, 22, 29, 34] t.size (fun g p e i _ _ _ _ _ wr => ∃ (k : Nat) (l a : Int), k ≤ t.size ∧ i = .int .i64 k ∧ p = .int .i64 l ∧ e = .int .i64 a ∧ 0 ≤ l ∧ l ≤ o + num t 40 k ∧ o - num t 41 k ≤ l ∧ wr = w ∧ g = t.size - k)
  case atStart => exact ⟨0, o, 0, by omega, rfl, rfl, rfl, h0, by simp [num], by simp [num], rfl, rfl⟩
  case round =>
    obtain ⟨k, l, a, hk, rfl, rfl, rfl, b0, b1, b2, rfl, rfl⟩ := hrel
    have n40 := num_le t 40 k
    have n41 := num_le t 41 k
    by_cases hlt : k < t.size
    · have s40 := num_succ t 40 k hlt
      have s41 := num_succ t 41 k hlt
      by_cases h40 : (t[k].toNat : Int) = 40
      · have S : Hid (num t 40 (k + 1) = num t 40 k + 1 ∧ num t 41 (k + 1) = num t 41 k) := ⟨by rw [s40, if_pos h40], by rw [s41, if_neg (by omega)]; rfl⟩
        clear s40 s41
        go_wp2
        go_roundg (t.size - (k + 1))
        case measure => omega
        case rel =>
          have s := S.out
          exact ⟨k + 1, l + 1, k + 1, by omega, by go_num, rfl, rfl, by omega, by omega, by omega, rfl, rfl⟩
      · by_cases h41 : (t[k].toNat : Int) = 41
        · have S : Hid (num t 40 (k + 1) = num t 40 k ∧ num t 41 (k + 1) = num t 41 k + 1) := ⟨by rw [s40, if_neg h40]; rfl, by rw [s41, if_pos h41]⟩
          clear s40 s41
          by_cases hl : l = 0
          · subst hl
            go_wp2
            go_roundg (t.size - (k + 1))
            case measure => omega
            case rel =>
              have s := S.out
              exact ⟨k + 1, 0, a, by omega, by go_num, rfl, rfl, by omega, by omega, by omega, rfl, rfl⟩
          · have hl' : (l == 0) = false := by simpa using hl
            go_wp2
            go_roundg (t.size - (k + 1))
            case measure => omega
            case rel =>
              have s := S.out
              exact ⟨k + 1, l - 1, k + 1, by omega, by go_num, rfl, rfl, by omega, by omega, by omega, rfl, rfl⟩
        · have S : Hid (num t 40 (k + 1) = num t 40 k ∧ num t 41 (k + 1) = num t 41 k) := ⟨by rw [s40, if_neg h40]; rfl, by rw [s41, if_neg h41]; rfl⟩
          clear s40 s41
          have e40 : ((t[k].toNat : Int) == 40) = false := by simpa using h40
          have e41 : ((t[k].toNat : Int) == 41) = false := by simpa using h41
          go_wp2_with (go_at_call 26; refine (Try.strings_IndexByte _ _ _).mono ?_; rintro e w' ⟨rfl, hw⟩; obtain rfl := hw.symm)
          all_goals
            go_roundg (t.size - (k + 1))
            case measure => omega
            case rel =>
              have s := S.out
              exact ⟨k + 1, l, _, by omega, by go_num, rfl, rfl, by omega, by omega, by omega, rfl, rfl⟩
    · obtain rfl : k = t.size := by omega
      go_wp2
      go_ret2
      exact ⟨_, _, rfl, b0, b1, b2, rfl⟩

theorem zzWordEnd_any (t : ByteArray) (o : Int) (hn : t.size ≤ 1048576) (h0 : 0 ≤ o) (h1 : o ≤ 1073741824) (w : World) :
    Calls Try.prog 17 #[.string t, .int .i64 o] w fun e w' => ∃ a l : Int, e = .returned (.tuple #[.int .i64 a, .int .i64 l]) ∧ 0 ≤ l ∧ l ≤ o + num t 40 t.size ∧ o - num t 41 t.size ≤ l ∧ w' = w := by
  go_enter Try.func17, Try.ntmps17
  go_wp2_with (go_at_call 23; refine (wordEnd_any _ _ hn h0 h1 _).mono ?_; rintro e w' ⟨a, l, rfl, b0, b1, b2, hw⟩; obtain rfl := hw.symm)
  go_ret2
  exact ⟨_, _, rfl, b0, b1, b2, rfl⟩

set_option maxRecDepth 20000 in
set_option maxHeartbeats 1000000 in
theorem main_any (t : ByteArray) (o : Int) (hm : t.size ≤ 9223372036854775807) (w : World) :
    Calls Try.prog 9 #[.string t, .int .i64 o] w fun e w' => e = .returned (.bool true) ∧ w' = w := by
  by_cases hn : t.size ≤ 1048576
  · by_cases ho : 0 ≤ o ∧ o ≤ 1073741824
    · obtain ⟨h0, h1⟩ := ho
      go_enter Try.func9, Try.ntmps9
      go_wp2_with (go_at_call 20; refine (zzBytes_any _ _ hm _).mono ?_; rintro e w' ⟨rfl, hw⟩; obtain rfl := hw.symm)
      go_loopg [5, 6, 7] t.size (fun g a c i wr => ∃ k : Nat, k ≤ t.size ∧ i = .int .i64 k ∧ a = .int .i64 (num t 40 k) ∧ c = .int .i64 (num t 41 k) ∧ wr = w ∧ g = t.size - k)
      case atStart => exact ⟨0, by omega, rfl, rfl, rfl, rfl, rfl⟩
      case round =>
        obtain ⟨k, hk, rfl, rfl, rfl, rfl, rfl⟩ := hrel
        have n40 := num_le t 40 k
        have n41 := num_le t 41 k
        by_cases hlt : k < t.size
        · have s40 := num_succ t 40 k hlt
          have s41 := num_succ t 41 k hlt
          by_cases h40 : (t[k].toNat : Int) = 40
          · have S : Hid (num t 40 (k + 1) = num t 40 k + 1 ∧ num t 41 (k + 1) = num t 41 k) := ⟨by rw [s40, if_pos h40], by rw [s41, if_neg (by omega)]; rfl⟩
            clear s40 s41
            go_wp2
            go_roundg (t.size - (k + 1))
            case measure => omega
            case rel =>
              have s := S.out
              exact ⟨k + 1, by omega, by go_num, by rw [s.1]; go_num, by rw [s.2], rfl, rfl⟩
          · by_cases h41 : (t[k].toNat : Int) = 41
            · have S : Hid (num t 40 (k + 1) = num t 40 k ∧ num t 41 (k + 1) = num t 41 k + 1) := ⟨by rw [s40, if_neg h40]; rfl, by rw [s41, if_pos h41]⟩
              clear s40 s41
              go_wp2
              go_roundg (t.size - (k + 1))
              case measure => omega
              case rel =>
                have s := S.out
                exact ⟨k + 1, by omega, by go_num, by rw [s.1], by rw [s.2]; go_num, rfl, rfl⟩
            · have S : Hid (num t 40 (k + 1) = num t 40 k ∧ num t 41 (k + 1) = num t 41 k) := ⟨by rw [s40, if_neg h40]; rfl, by rw [s41, if_neg h41]; rfl⟩
              clear s40 s41
              have e40 : ((t[k].toNat : Int) == 40) = false := by simpa using h40
              have e41 : ((t[k].toNat : Int) == 41) = false := by simpa using h41
              go_wp2
              go_roundg (t.size - (k + 1))
              case measure => omega
              case rel =>
                have s := S.out
                exact ⟨k + 1, by omega, by go_num, by rw [s.1], by rw [s.2], rfl, rfl⟩
        · obtain rfl : k = t.size := by omega
          go_wp2_with fail
          refine (zzWordEnd_any _ _ hn h0 h1 _).mono ?_
          rintro e w' ⟨a, l, rfl, b0, b1, b2, hw⟩
          obtain rfl := hw.symm
          go_wp2
          go_ret
          exact ⟨ret_bool (by simp), rfl⟩
    · rcases (show o < 0 ∨ (0 ≤ o ∧ 1073741824 < o) by omega) with h | ⟨h, h'⟩
      all_goals
        go_enter Try.func9, Try.ntmps9
        go_wp2_with (go_at_call 20; refine (zzBytes_any _ _ hm _).mono ?_; rintro e w' ⟨rfl, hw⟩; obtain rfl := hw.symm)
        go_ret
        exact ⟨rfl, rfl⟩
  · go_enter Try.func9, Try.ntmps9
    go_wp2_with (go_at_call 20; refine (zzBytes_any _ _ hm _).mono ?_; rintro e w' ⟨rfl, hw⟩; obtain rfl := hw.symm)
    go_ret
    exact ⟨rfl, rfl⟩
end Go.Proofs.Qxb6001229a
