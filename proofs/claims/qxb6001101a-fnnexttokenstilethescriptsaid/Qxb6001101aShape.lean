import Derived.Test.Qxb6001101aScan
import Derived.Deep.LoopGhost
namespace Go.Proofs.Qxb6001101a
open Go.RowKit

set_option maxRecDepth 20000 in
set_option maxHeartbeats 1000000 in
theorem shape_word (w : World) (bs n after : Nat) (Z : Nat → Int) (t : ByteArray) (hs : ∀ i, i < n → w.cell? ⟨bs, i, none⟩ = some (.int .u8 (Z i))) (_hn : n ≤ 65536)
    (ht : 0 < t.size) (hts : t.size ≤ 65536) (h0 : idStartB (t[0].toNat : Int) = true) (hp : ∀ i (h : i < t.size), 0 < i → idPartB (t[i].toNat : Int) = true)
    (ha : after < n → idPartB (Z after) = false) (hE : t.size = 1 → after < n → ((t[0].toNat : Int) = 101 ∨ (t[0].toNat : Int) = 69) → Z after = 39 → False) :
    Calls Try.prog 10 #[.slice (some ⟨bs, 0, none⟩) n n, .string t, .bool true, .int .i64 after] w fun e w' => e = .returned (.bool true) ∧ w' = w := by
  have HP : Hid (∀ i (h : i < t.size), 0 < i → idPartB (t[i].toNat : Int) = true) := hp
  have HE : Hid (t.size = 1 → after < n → ((t[0].toNat : Int) = 101 ∨ (t[0].toNat : Int) = 69) → Z after = 39 → False) := hE
  clear hp hE
  go_enter Try.func10, Try.ntmps10
  go_wp2_with (go_at_call 14; refine (isIdentStartB_any _ _).mono ?_; rintro e w' ⟨rfl, hw⟩; obtain rfl := hw.symm)
  go_loopg [9] (t.size - 1) (fun g i wr => ∃ k : Nat, 1 ≤ k ∧ k ≤ t.size ∧ i = .int .i64 k ∧ wr = w ∧ g = t.size - k)
  case atStart => exact ⟨1, by omega, by omega, rfl, rfl, rfl⟩
  case round =>
    obtain ⟨k, hk1, hk2, rfl, rfl, rfl⟩ := hrel
    by_cases hlt : k < t.size
    · have hpk := HP.out k hlt (by omega)
      go_wp2_with (go_at_call 15; refine (isIdentPartB_any _ _).mono ?_; rintro e w' ⟨rfl, hw⟩; obtain rfl := hw.symm)
      go_roundg (t.size - (k + 1))
      case measure => omega
      case rel => exact ⟨k + 1, by omega, by omega, by go_num, rfl, rfl⟩
    · by_cases hal : after < n
      · have cs := hs after hal
        have ha' := ha hal
        clear hs ha
        go_wp2_with (go_at_call 15; refine (isIdentPartB_any _ _).mono ?_; rintro e w' ⟨rfl, hw⟩; obtain rfl := hw.symm)
        all_goals first
          | (go_ret; exact ⟨rfl, rfl⟩)
          | (exfalso; have h39 : (Z after == 39) = true := by assumption
             exact HE.out (by omega) hal (by omega) (by simpa using h39))
      · clear hs ha
        go_wp2_with (go_at_call 15; refine (isIdentPartB_any _ _).mono ?_; rintro e w' ⟨rfl, hw⟩; obtain rfl := hw.symm)
        all_goals (go_ret; exact ⟨rfl, rfl⟩)

set_option maxRecDepth 20000 in
set_option maxHeartbeats 1000000 in
theorem shape_other (w : World) (v : Value) (after : Int) (t : ByteArray) (ht : 0 < t.size) (hts : t.size ≤ 65536)
    (h : idStartB (t[0].toNat : Int) = false ∨ ∃ h2 : 2 ≤ t.size, ((t[0].toNat : Int) = 101 ∨ (t[0].toNat : Int) = 69) ∧ (t[1].toNat : Int) = 39) :
    Calls Try.prog 10 #[v, .string t, .bool false, .int .i64 after] w fun e w' => e = .returned (.bool true) ∧ w' = w := by
  rcases h with h | ⟨h2, h3, h4⟩
  · go_enter Try.func10, Try.ntmps10
    go_wp2_with (go_at_call 14; refine (isIdentStartB_any _ _).mono ?_; rintro e w' ⟨rfl, hw⟩; obtain rfl := hw.symm)
    all_goals (go_ret; exact ⟨rfl, rfl⟩)
  · have e1 : idStartB 101 = true := by decide
    have e2 : idStartB 69 = true := by decide
    rcases h3 with h3 | h3
    all_goals
      go_enter Try.func10, Try.ntmps10
      go_wp2_with (go_at_call 14; refine (isIdentStartB_any _ _).mono ?_; rintro e w' ⟨rfl, hw⟩; obtain rfl := hw.symm)
      all_goals (go_ret; exact ⟨rfl, rfl⟩)
end Go.Proofs.Qxb6001101a
