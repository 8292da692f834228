import Derived.Test.Qxb6001101aScan
import Derived.Deep.LoopGhost
import Derived.Deep.QuietTactic
import Derived.BigQuiet
namespace Go.Proofs.Qxb6001101a
open Go.RowKit

set_option maxRecDepth 20000 in
set_option maxHeartbeats 1000000 in
theorem skipQuoted_any (w : World) (b bs n p : Nat) (Z : Nat → Int) (q : Int) (bk : Bool) (hS : Sc w b bs n Z p) (hn : n ≤ 65536) (hp : p < n) :
    Calls Try.prog 17 #[.pointer (some ⟨b, 0, none⟩), .int .u8 q, .bool bk] w fun e w' => e = .returned (.tuple #[]) ∧
      ∃ p', Sc w' b bs n Z p' ∧ w.grownBy w' (some b) ∧ p < p' ∧ p' ≤ n := by
  have sd : ∀ (W : World) (j : Nat) (x : Addr) (v : Value), (W.drewN j).setCell x v = (W.setCell x v).drewN j := fun _ _ _ _ => rfl
  have c0 := hS.c0
  have c1 := hS.c1
  have f1 := hS.fr 1
  go_enter Try.func17, Try.ntmps17
  go_wp2
  go_loopg [6, 41, 54, 91] (n + 1 - (p + 1)) (fun g _ _ _ _ wr => ∃ p1, p < p1 ∧ p1 ≤ n + 1 ∧ Sc wr b bs n Z p1 ∧ w.grownBy wr (some b) ∧ g = n + 1 - p1)
  case atStart => exact ⟨p + 1, by omega, by omega, hS.set1 (p + 1), gb_set (gb_refl _ _) _ _, rfl⟩
  case round =>
    obtain ⟨p1, h1, h2, hsc, hg, rfl⟩ := hrel
    clear c0 c1 f1
    have c0 := hsc.c0
    have c1 := hsc.c1
    have f1 := hsc.fr 1
    have f2 := hsc.fr 2
    obtain ⟨op, c2⟩ := hsc.c2
    have hne : ¬ b = bs := by have := hsc.lt; omega
    by_cases hlt : p1 < n
    · have cs := hsc.src p1 hlt
      obtain ⟨c, hc⟩ : ∃ c, c = Z p1 := ⟨_, rfl⟩
      rw [← hc] at cs
      clear hc
      have i1 : (0 : Int) ≤ (p1 : Int) + 1 := by omega
      have i2 : ((p1 : Int) + 1).toNat = p1 + 1 := by omega
      by_cases hbk : bk = true ∧ c = 92
      · obtain ⟨rfl, rfl⟩ := hbk
        go_wp2
        go_quiet (fail)
        go_wp2
        go_quiet (fail)
        go_wp2
        go_roundg (n + 1 - (p1 + 2))
        case measure => omega
        case rel => exact ⟨p1 + 2, by omega, by omega, ((hsc.set1i _ (p1 + 1) (by omega)).set1i _ (p1 + 2) (by omega)).drewN _, gb_drewN (gb_set (gb_set hg _ _) _ _) _, rfl⟩
      · have hbk' : bk = false ∨ (bk = true ∧ (c == 92) = false) := by
          cases bk
          · exact .inl rfl
          · exact .inr ⟨rfl, by simpa using hbk⟩
        clear hbk
        rcases hbk' with rfl | ⟨rfl, hb9⟩
        all_goals
          by_cases hq : c = q
          · subst hq
            by_cases h3 : p1 + 1 < n
            · have cs2 := hsc.src (p1 + 1) h3
              obtain ⟨d, hd⟩ : ∃ d, d = Z (p1 + 1) := ⟨_, rfl⟩
              rw [← hd] at cs2
              clear hd
              have i3 : (p1 : Int) + 1 < (n : Int) := by omega
              go_wp2
              go_quiet (fail)
              go_wp2
              go_quiet (fail)
              go_wp2
              go_quiet (fail)
              go_wp2
              · go_roundg (n + 1 - (p1 + 2))
                case measure => omega
                case rel => exact ⟨p1 + 2, by omega, by omega, ((hsc.set1i _ (p1 + 1) (by omega)).set1i _ (p1 + 2) (by omega)).drewN _, gb_drewN (gb_set (gb_set hg _ _) _ _) _, rfl⟩
              · refine bodyPost_ret (results_none rfl _ _ _) rfl ?_
                exact ⟨rfl, p1 + 1, (hsc.set1i _ (p1 + 1) (by omega)).drewN _, gb_drewN (gb_set hg _ _) _, by omega, by omega⟩
            · have i3 : decide ((p1 : Int) + 1 < (n : Int)) = false := by simp; omega
              go_wp2
              go_quiet (fail)
              go_wp2
              go_quiet (fail)
              go_wp2
              go_quiet (fail)
              go_wp2
              refine bodyPost_ret (results_none rfl _ _ _) rfl ?_
              exact ⟨rfl, p1 + 1, (hsc.set1i _ (p1 + 1) (by omega)).drewN _, gb_drewN (gb_set hg _ _) _, by omega, by omega⟩
          · have hq' : (c == q) = false := by simpa using hq
            go_wp2
            go_quiet (fail)
            go_wp2
            go_quiet (fail)
            go_wp2
            go_quiet (fail)
            go_wp2
            go_roundg (n + 1 - (p1 + 1))
            case measure => omega
            case rel => exact ⟨p1 + 1, by omega, by omega, (hsc.set1i _ (p1 + 1) (by omega)).drewN _, gb_drewN (gb_set hg _ _) _, rfl⟩
    · go_wp2
      go_quiet (fail)
      go_wp2
      refine bodyPost_end (results_none rfl _ _ _) rfl ?_
      exact ⟨rfl, n, ((hsc.set1i _ n (by omega)).set2 _).drewN _, gb_drewN (gb_set (gb_set hg _ _) _ _) _, by omega, by omega⟩
end Go.Proofs.Qxb6001101a
