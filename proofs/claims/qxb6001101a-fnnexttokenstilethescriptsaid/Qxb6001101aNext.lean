import Derived.Test.Qxb6001101aNextParts
import Derived.RegionTactic
import Derived.BigRegion
namespace Go.Proofs.Qxb6001101a
open Go.RowKit

set_option maxRecDepth 20000 in
set_option maxHeartbeats 16000000 in
theorem next_any (w : World) (b bs n p : Nat) (Z : Nat → Int) (mx : Int) (hZ : ∀ i, IsByte (Z i)) (hS : Sc w b bs n Z p) (hn : n ≤ 65536) (hp : p ≤ n) (hx : w.cell? ⟨0, 0, none⟩ = some (.int .i64 mx)) (hb0 : 0 < b) :
    Calls Try.prog 12 #[.pointer (some ⟨b, 0, none⟩)] w fun e w' => ∃ p', Sc w' b bs n Z p' ∧ w.grownBy w' (some b) ∧
      ((e = .returned (.tuple #[.agg #[.string ByteArray.empty, .bool false], .int .i64 0, .bool false]) ∧ p' = n ∧ GapO Z p n) ∨
       (∃ (s : Nat) (wd : Bool), e = .returned (.tuple #[.agg #[.string (txt Z s p'), .bool wd], .int .i64 s, .bool true]) ∧ p ≤ s ∧ s < p' ∧ p' ≤ n ∧ GapO Z p s ∧ GapC Z p s ∧ Shape Z n s p' wd)) := by
  have sd : ∀ (W : World) (j : Nat) (x : Addr) (v : Value), (W.drewN j).setCell x v = (W.setCell x v).drewN j := fun _ _ _ _ => rfl
  have ad : ∀ (W : World) (j : Nat) (o : Obj), (W.drewN j).alloc o = (W.alloc o).drewN j := fun _ _ _ => rfl
  have HZ : Hid (∀ i, IsByte (Z i)) := hZ
  clear hZ
  have hbd := hS.bound
  go_enter Try.func12, Try.ntmps12
  go_wp2_with fail
  refine (skipSpace_any _ b bs n p Z HZ.out (hS.alloc _) hn hp).mono ?_
  rintro e w1 ⟨rfl, p1, hsc, hg, h1, h2, hgo, hgc⟩
  have hx1 : w1.cell? ⟨0, 0, none⟩ = some (.int .i64 mx) := hg.cell (by rw [World.cell?_alloc_lt _ _ _ (show 0 < w.heap.size by omega)]; exact hx) (by simp; omega)
  have htk : Tk w1 w.heap.size := Tk.grown (b := b) ⟨ByteArray.empty, false, heap_alloc_new _ _⟩ hg (by omega)
  have hgw : w.grownBy w1 (some b) := gb_trans (gb_alloc (gb_refl _ _) _) hg
  obtain ⟨tb, htb⟩ : ∃ tb, tb = w.heap.size := ⟨_, rfl⟩
  rw [← htb]
  rw [← htb] at htk hbd
  have HG : Hid (w.grownBy w1 (some b)) := hgw
  have HGO : Hid (GapO Z p p1) := hgo
  have HGC : Hid (p1 = n ∨ GapC Z p p1) := hgc
  have HTB : Hid (tb = w.heap.size) := htb
  clear hg hgw hgo hgc htb
  have c0 := hsc.c0
  have c1 := hsc.c1
  have f1 := hsc.fr 1
  have hne : ¬ b = bs := by have := hsc.lt; omega
  obtain ⟨t0, k0⟩ := htk.c0
  obtain ⟨t1, k1⟩ := htk.c1
  have g0 := htk.fr 0
  have g1 := htk.fr 1
  have hbt : ¬ b = tb := by omega
  have htb2 : ¬ tb = b := by omega
  by_cases hlt : p1 < n
  · have cs := hsc.src p1 hlt
    have hz1 := HZ.out p1
    obtain ⟨c, hc⟩ : ∃ c, c = Z p1 := ⟨_, rfl⟩
    rw [← hc] at cs hz1
    have HC : Hid (c = Z p1) := hc
    clear hc
    by_cases ha : c = 39 ∨ c = 34
    · have hsh : ∀ e, Shape Z n p1 e false := fun e => .inr ⟨rfl, .inl (by rw [← HC.out]; rcases ha with rfl | rfl <;> decide)⟩
      have HSH : Hid (∀ e, Shape Z n p1 e false) := hsh
      clear hsh
      have hnp : ¬ n = p1 := by omega
      rcases ha with rfl | rfl
      · go_wp2
        go_quiet (fail)
        go_wp2
        go_quiet (fail)
        go_wp2_with fail
        refine (skipQuoted_any _ b bs n p1 Z 39 false (hsc.drewN _) hn hlt).mono ?_
        rintro e w2 ⟨rfl, p2, hsc2, hg2, q1, q2⟩
        have hsh := HSH.out p2
        have htk2 : Tk w2 tb := htk.grown (b := b) (gb_trans (gb_drewN (gb_refl _ _) _) hg2) htb2
        have HG2 : Hid (w.grownBy w2 (some b)) := gb_trans (gb_drewN HG.out _) hg2
        clear hg2 c0 c1 f1 k0 k1 g0 g1 cs
        have c0 := hsc2.c0
        have c1 := hsc2.c1
        obtain ⟨t0, k0⟩ := htk2.c0
        obtain ⟨t1, k1⟩ := htk2.c1
        have g0 := htk2.fr 0
        have g1 := htk2.fr 1
        have hcv : ∀ c, (convert 22 9 (.slice (some ⟨bs, p1, none⟩) (p2 - p1) c)).run Try.prog w2.drew = .ok (.string (txt Z p1 p2)) w2.drew := fun c => run_txt hsc2 p1 p2 c 1 q2
        have hpp : p1 ≤ p2 := by omega
        go_wp2
        go_region
        go_wp2
        refine bodyPost_ret (v := .tuple #[.agg #[.string (txt Z p1 p2), .bool false], .int .i64 p1, .bool true]) (by simp [results, Try.results12, go_sem, k0, k1]) rfl ?_
        exact ⟨p2, ((hsc2.other tb 0 _ hbd).other tb 1 _ hbd).drew, gb_drew (gb_new (gb_new HG2.out _ _ _ (by have := HTB.out; omega)) _ _ _ (by have := HTB.out; omega)), .inr ⟨p1, false, rfl, h1, by omega, by omega, HGO.out, HGC.out.resolve_left (by omega), hsh⟩⟩
      · go_wp2
        go_quiet (fail)
        go_wp2
        go_quiet (fail)
        go_wp2_with fail
        refine (skipQuoted_any _ b bs n p1 Z 34 false (hsc.drewN _) hn hlt).mono ?_
        rintro e w2 ⟨rfl, p2, hsc2, hg2, q1, q2⟩
        have hsh := HSH.out p2
        have htk2 : Tk w2 tb := htk.grown (b := b) (gb_trans (gb_drewN (gb_refl _ _) _) hg2) htb2
        have HG2 : Hid (w.grownBy w2 (some b)) := gb_trans (gb_drewN HG.out _) hg2
        clear hg2 c0 c1 f1 k0 k1 g0 g1 cs
        have c0 := hsc2.c0
        have c1 := hsc2.c1
        obtain ⟨t0, k0⟩ := htk2.c0
        obtain ⟨t1, k1⟩ := htk2.c1
        have g0 := htk2.fr 0
        have g1 := htk2.fr 1
        have hcv : ∀ c, (convert 22 9 (.slice (some ⟨bs, p1, none⟩) (p2 - p1) c)).run Try.prog w2.drew = .ok (.string (txt Z p1 p2)) w2.drew := fun c => run_txt hsc2 p1 p2 c 1 q2
        have hpp : p1 ≤ p2 := by omega
        go_wp2
        go_region
        go_wp2
        refine bodyPost_ret (v := .tuple #[.agg #[.string (txt Z p1 p2), .bool false], .int .i64 p1, .bool true]) (by simp [results, Try.results12, go_sem, k0, k1]) rfl ?_
        exact ⟨p2, ((hsc2.other tb 0 _ hbd).other tb 1 _ hbd).drew, gb_drew (gb_new (gb_new HG2.out _ _ _ (by have := HTB.out; omega)) _ _ _ (by have := HTB.out; omega)), .inr ⟨p1, false, rfl, h1, by omega, by omega, HGO.out, HGC.out.resolve_left (by omega), hsh⟩⟩
    · by_cases hb : c = 36
      · have hsh : ∀ e, Shape Z n p1 e false := fun e => .inr ⟨rfl, .inl (by rw [← HC.out, hb]; decide)⟩
        have HSH : Hid (∀ e, Shape Z n p1 e false) := hsh
        clear hsh
        have hnp : ¬ n = p1 := by omega
        subst hb
        go_wp2
        go_quiet (fail)
        go_wp2
        go_quiet (fail)
        go_wp2_with fail
        refine (skipDollar_any _ b bs n p1 Z mx HZ.out (hsc.drewN _) hn hlt (by simpa using hx1)).mono ?_
        rintro e w2 ⟨rfl, p2, hsc2, hg2, q1, q2⟩
        have hsh := HSH.out p2
        have htk2 : Tk w2 tb := htk.grown (b := b) (gb_trans (gb_drewN (gb_refl _ _) _) hg2) htb2
        have HG2 : Hid (w.grownBy w2 (some b)) := gb_trans (gb_drewN HG.out _) hg2
        clear hg2 c0 c1 f1 k0 k1 g0 g1 cs
        have c0 := hsc2.c0
        have c1 := hsc2.c1
        obtain ⟨t0, k0⟩ := htk2.c0
        obtain ⟨t1, k1⟩ := htk2.c1
        have g0 := htk2.fr 0
        have g1 := htk2.fr 1
        have hcv : ∀ c, (convert 22 9 (.slice (some ⟨bs, p1, none⟩) (p2 - p1) c)).run Try.prog w2.drew = .ok (.string (txt Z p1 p2)) w2.drew := fun c => run_txt hsc2 p1 p2 c 1 q2
        have hpp : p1 ≤ p2 := by omega
        go_wp2
        go_region
        go_wp2
        refine bodyPost_ret (v := .tuple #[.agg #[.string (txt Z p1 p2), .bool false], .int .i64 p1, .bool true]) (by simp [results, Try.results12, go_sem, k0, k1]) rfl ?_
        exact ⟨p2, ((hsc2.other tb 0 _ hbd).other tb 1 _ hbd).drew, gb_drew (gb_new (gb_new HG2.out _ _ _ (by have := HTB.out; omega)) _ _ _ (by have := HTB.out; omega)), .inr ⟨p1, false, rfl, h1, by omega, by omega, HGO.out, HGC.out.resolve_left (by omega), hsh⟩⟩
      · cases hd : idStartB c
        · by_cases he : 48 ≤ c ∧ c ≤ 57
          · obtain ⟨he1, he2⟩ := he
            have e1 : (c == 39) = false := by simp; omega
            have e2 : (c == 34) = false := by simp; omega
            have e3 : (c == 36) = false := by simp; omega
            have hnp : ¬ n = p1 := by omega
            have hsh : ∀ e, Shape Z n p1 e false := fun e => .inr ⟨rfl, .inl (by rw [← HC.out]; exact hd)⟩
            have HSH : Hid (∀ e, Shape Z n p1 e false) := hsh
            clear hsh
            go_wp2
            go_quiet (fail)
            go_wp2
            go_quiet (fail)
            go_wp2_with (go_at_call 19; refine (isIdentifierStart_any _ _).mono ?_; rintro e w' ⟨rfl, hw⟩; obtain rfl := hw.symm)
            go_loopg [] (n - p1) (fun g wr => ∃ p2, p1 ≤ p2 ∧ p2 ≤ n ∧ Sc wr b bs n Z p2 ∧ Tk wr tb ∧ Hid (w.grownBy wr (some b)) ∧ g = n - p2)
            case atStart => exact ⟨p1, by omega, by omega, hsc.drewN _, htk, gb_drewN HG.out _, rfl⟩
            case round =>
              obtain ⟨p2, r1, r2, hsc2, htk2, HG2, rfl⟩ := hrel
              clear c0 c1 f1 k0 k1 g0 g1 cs
              have c0 := hsc2.c0
              have c1 := hsc2.c1
              have f1 := hsc2.fr 1
              obtain ⟨t0, k0⟩ := htk2.c0
              obtain ⟨t1, k1⟩ := htk2.c1
              have g0 := htk2.fr 0
              have g1 := htk2.fr 1
              by_cases hlt2 : p2 < n
              · have cs := hsc2.src p2 hlt2
                obtain ⟨d, hdd⟩ : ∃ d, d = Z p2 := ⟨_, rfl⟩
                rw [← hdd] at cs
                have HD : Hid (d = Z p2) := hdd
                clear hdd
                have i1 : (p2 : Int) < (n : Int) := by omega
                by_cases hgo2 : idPartB d = true ∨ d = 46
                · have hgo3 := going hgo2
                  clear hgo2
                  rcases hgo3 with hip | ⟨hip, rfl⟩
                  · go_wp2
                    go_quiet ((go_at_call 20; exact Calls.quiet_of_same (idPart_at _ _ hip _)))
                    go_wp2
                    go_roundg (n - (p2 + 1))
                    case measure => omega
                    case rel => exact ⟨p2 + 1, by omega, by omega, (hsc2.set1i _ (p2 + 1) (by omega)).drewN _, htk2.grown (b := b) (gb_drewN (gb_set (gb_refl _ _) _ _) _) htb2, gb_drewN (gb_set HG2.out _ _) _, rfl⟩
                  · go_wp2
                    go_quiet ((go_at_call 20; exact Calls.quiet_of_same (idPart_at _ _ hip _)))
                    go_wp2
                    go_roundg (n - (p2 + 1))
                    case measure => omega
                    case rel => exact ⟨p2 + 1, by omega, by omega, (hsc2.set1i _ (p2 + 1) (by omega)).drewN _, htk2.grown (b := b) (gb_drewN (gb_set (gb_refl _ _) _ _) _) htb2, gb_drewN (gb_set HG2.out _ _) _, rfl⟩
                · obtain ⟨hip, h46⟩ := not_going hgo2
                  clear hgo2
                  have hne2 : p1 ≠ p2 := digit_part HC.out HD.out he1 he2 hip
                  have hpp : p1 ≤ p2 := by omega
                  have hcv := fun q c => run_txt hsc2 p1 p2 c q r2
                  go_wp2
                  go_quiet ((go_at_call 20; exact Calls.quiet_of_same (idPart_at _ _ hip _)))
                  go_wp2
                  go_region
                  go_wp2
                  refine bodyPost_ret (v := .tuple #[.agg #[.string (txt Z p1 p2), .bool false], .int .i64 p1, .bool true]) (by simp [results, Try.results12, go_sem, k0, k1]) rfl ?_
                  exact ⟨p2, ((hsc2.other tb 0 _ hbd).other tb 1 _ hbd).drewN _, gb_drewN (gb_new (gb_new HG2.out _ _ _ (by have := HTB.out; omega)) _ _ _ (by have := HTB.out; omega)) _, .inr ⟨p1, false, rfl, h1, by omega, by omega, HGO.out, HGC.out.resolve_left (by omega), HSH.out p2⟩⟩
              · have i1 : decide ((p2 : Int) < (n : Int)) = false := by simp; omega
                have hpp : p1 ≤ p2 := by omega
                have hcv := fun q c => run_txt hsc2 p1 p2 c q r2
                go_wp2
                go_quiet (fail)
                go_wp2
                go_region
                go_wp2
                refine bodyPost_ret (v := .tuple #[.agg #[.string (txt Z p1 p2), .bool false], .int .i64 p1, .bool true]) (by simp [results, Try.results12, go_sem, k0, k1]) rfl ?_
                exact ⟨p2, ((hsc2.other tb 0 _ hbd).other tb 1 _ hbd).drewN _, gb_drewN (gb_new (gb_new HG2.out _ _ _ (by have := HTB.out; omega)) _ _ _ (by have := HTB.out; omega)) _, .inr ⟨p1, false, rfl, h1, by omega, by omega, HGO.out, HGC.out.resolve_left (by omega), HSH.out p2⟩⟩
          · have e1 : (c == 39) = false := by simp; omega
            have e2 : (c == 34) = false := by simp; omega
            have e3 : (c == 36) = false := by simp; omega
            have hnp : ¬ n = p1 := by omega
            have hsc2 : Sc (w1.setCell ⟨b, 1, none⟩ (.int .i64 ((p1 : Int) + 1))) b bs n Z (p1 + 1) := hsc.set1i _ (p1 + 1) (by omega)
            have hcv := fun q c => run_txt1 hsc2 p1 c q (by omega)
            have hsh : Shape Z n p1 (p1 + 1) false := .inr ⟨rfl, .inl (by rw [← HC.out]; exact hd)⟩
            rcases (show c < 48 ∨ 57 < c by omega) with e4 | e4
            all_goals
              go_wp2
              go_quiet (fail)
              go_wp2
              go_quiet (fail)
              go_wp2_with (go_at_call 19; refine (isIdentifierStart_any _ _).mono ?_; rintro e w' ⟨rfl, hw⟩; obtain rfl := hw.symm)
              go_region
              go_wp2
              refine bodyPost_ret (v := .tuple #[.agg #[.string (txt Z p1 (p1 + 1)), .bool false], .int .i64 p1, .bool true]) (by simp [results, Try.results12, go_sem, k0, k1]) rfl ?_
              exact ⟨p1 + 1, ((hsc2.other tb 0 _ hbd).other tb 1 _ hbd).drewN _, gb_drewN (gb_new (gb_new (gb_set HG.out _ _) _ _ _ (by have := HTB.out; omega)) _ _ _ (by have := HTB.out; omega)) _, .inr ⟨p1, false, rfl, h1, by omega, by omega, HGO.out, HGC.out.resolve_left (by omega), hsh⟩⟩
        · have e1 : (c == 39) = false := by simp; omega
          have e2 : (c == 34) = false := by simp; omega
          have e3 : (c == 36) = false := by simp; omega
          have hnp : ¬ n = p1 := by omega
          clear ha hb
          go_wp2
          go_quiet (fail)
          go_wp2
          go_quiet (fail)
          go_wp2_with (go_at_call 19; refine (isIdentifierStart_any _ _).mono ?_; rintro e w' ⟨rfl, hw⟩; obtain rfl := hw.symm)
          go_loopg [] (n - (p1 + 1)) (fun g wr => ∃ p2, p1 + 1 ≤ p2 ∧ p2 ≤ n ∧ Hid (∀ i, p1 < i → i < p2 → idPartB (Z i) = true) ∧ Sc wr b bs n Z p2 ∧ Tk wr tb ∧ Hid (w.grownBy wr (some b)) ∧ g = n - p2)
          case atStart => exact ⟨p1 + 1, by omega, by omega, fun i h1 h2 => by omega, (hsc.set1i _ (p1 + 1) (by omega)).drewN _, htk.grown (b := b) (gb_drewN (gb_set (gb_refl _ _) _ _) _) htb2, gb_drewN (gb_set HG.out _ _) _, rfl⟩
          case round =>
            obtain ⟨p2, r1, r2, HP, hsc2, htk2, HG2, rfl⟩ := hrel
            clear c0 c1 f1 k0 k1 g0 g1 cs
            have c0 := hsc2.c0
            have c1 := hsc2.c1
            have f1 := hsc2.fr 1
            obtain ⟨t0, k0⟩ := htk2.c0
            obtain ⟨t1, k1⟩ := htk2.c1
            have g0 := htk2.fr 0
            have g1 := htk2.fr 1
            by_cases hlt2 : p2 < n
            · have cs := hsc2.src p2 hlt2
              have hz2 := HZ.out p2
              obtain ⟨d, hdd⟩ : ∃ d, d = Z p2 := ⟨_, rfl⟩
              rw [← hdd] at cs hz2
              have HD : Hid (d = Z p2) := hdd
              clear hdd
              have i1 : (p2 : Int) < (n : Int) := by omega
              cases hip : idPartB d
              · by_cases hE : p2 = p1 + 1 ∧ (c = 101 ∨ c = 69) ∧ d = 39
                · obtain ⟨hp2, hce, rfl⟩ := hE
                  have hq : ((p2 : Int) - (p1 : Int) == 1) = true := by simp; omega
                  have HP2 : Hid (p2 = p1 + 1) := hp2
                  clear hp2
                  have hor : (bits .or .u8 c 32 == 101) = true := by rw [or32 c hz1]; simpa using hce
                  go_wp2
                  go_quiet ((go_at_call 20; exact Calls.quiet_of_same (idPart_at _ _ hip _)))
                  go_wp2
                  go_quiet (fail)
                  go_wp2_with fail
                  refine (skipQuoted_any _ b bs n p2 Z 39 true (hsc2.drewN _) hn hlt2).mono ?_
                  rintro e w3 ⟨rfl, p3, hsc3, hg3, s1, s2⟩
                  have htk3 : Tk w3 tb := htk2.grown (b := b) (gb_trans (gb_drewN (gb_refl _ _) _) hg3) htb2
                  have HG3 : Hid (w.grownBy w3 (some b)) := gb_trans (gb_drewN HG2.out _) hg3
                  clear hg3 c0 c1 f1 k0 k1 g0 g1 cs
                  have c0 := hsc3.c0
                  have c1 := hsc3.c1
                  obtain ⟨t0, k0⟩ := htk3.c0
                  obtain ⟨t1, k1⟩ := htk3.c1
                  have g0 := htk3.fr 0
                  have g1 := htk3.fr 1
                  have hcv : ∀ c, (convert 22 9 (.slice (some ⟨bs, p1, none⟩) (p3 - p1) c)).run Try.prog w3.drew = .ok (.string (txt Z p1 p3)) w3.drew := fun c => run_txt hsc3 p1 p3 c 1 s2
                  have hpp : p1 ≤ p3 := by omega
                  have hsh : Shape Z n p1 p3 false := .inr ⟨rfl, .inr ⟨by have := HP2.out; omega, by rw [← HC.out]; exact hce, by have h9 := HD.out; rw [HP2.out] at h9; exact h9.symm⟩⟩
                  have HSH : Hid (Shape Z n p1 p3 false) := hsh
                  clear hsh
                  go_wp2
                  go_region
                  go_wp2
                  refine bodyPost_ret (v := .tuple #[.agg #[.string (txt Z p1 p3), .bool false], .int .i64 p1, .bool true]) (by simp [results, Try.results12, go_sem, k0, k1]) rfl ?_
                  exact ⟨p3, ((hsc3.other tb 0 _ hbd).other tb 1 _ hbd).drew, gb_drew (gb_new (gb_new HG3.out _ _ _ (by have := HTB.out; omega)) _ _ _ (by have := HTB.out; omega)), .inr ⟨p1, false, rfl, h1, by omega, by omega, HGO.out, HGC.out.resolve_left (by omega), HSH.out⟩⟩
                · have hsh : Shape Z n p1 p2 true := .inl ⟨rfl, by rw [← HC.out]; exact hd, HP.out, fun _ => by rw [← HD.out]; exact hip, fun a1 _ a3 a4 => hE ⟨a1, by rw [HC.out]; exact a3, by rw [HD.out]; exact a4⟩⟩
                  have HSH : Hid (Shape Z n p1 p2 true) := hsh
                  clear hsh
                  have hcv := fun q c => run_txt hsc2 p1 p2 c q r2
                  have hpp : p1 ≤ p2 := by omega
                  have hways : ((p2 : Int) - (p1 : Int) == 1) = false ∨ (((p2 : Int) - (p1 : Int) == 1) = true ∧ (bits .or .u8 c 32 == 101) = false) ∨ (((p2 : Int) - (p1 : Int) == 1) = true ∧ (bits .or .u8 c 32 == 101) = true ∧ (d == 39) = false) := word_ways hz1 r1 hE
                  clear hE
                  rcases hways with hq | ⟨hq, hor⟩ | ⟨hq, hor, h39⟩
                  all_goals
                    go_wp2
                    go_quiet ((go_at_call 20; exact Calls.quiet_of_same (idPart_at _ _ hip _)))
                    go_wp2
                    go_quiet (fail)
                    go_wp2
                    go_region
                    go_wp2
                    refine bodyPost_ret (v := .tuple #[.agg #[.string (txt Z p1 p2), .bool true], .int .i64 p1, .bool true]) (by simp [results, Try.results12, go_sem, k0, k1]) rfl ?_
                    exact ⟨p2, ((hsc2.other tb 0 _ hbd).other tb 1 _ hbd).drewN _, gb_drewN (gb_new (gb_new HG2.out _ _ _ (by have := HTB.out; omega)) _ _ _ (by have := HTB.out; omega)) _, .inr ⟨p1, true, rfl, h1, by omega, by omega, HGO.out, HGC.out.resolve_left (by omega), HSH.out⟩⟩
              · go_wp2
                go_quiet ((go_at_call 20; exact Calls.quiet_of_same (idPart_at _ _ hip _)))
                go_wp2
                go_roundg (n - (p2 + 1))
                case measure => omega
                case rel => exact ⟨p2 + 1, by omega, by omega, part_snoc HP.out HD.out hip, (hsc2.set1i _ (p2 + 1) (by omega)).drewN _, htk2.grown (b := b) (gb_drewN (gb_set (gb_refl _ _) _ _) _) htb2, gb_drewN (gb_set HG2.out _ _) _, rfl⟩
            · have hE2 : ¬ (p2 = p1 + 1 ∧ (c = 101 ∨ c = 69) ∧ (0 : Int) = 39) := by omega
              have hsh : Shape Z n p1 p2 true := .inl ⟨rfl, by rw [← HC.out]; exact hd, HP.out, fun a => absurd a hlt2, fun _ a2 _ _ => hlt2 a2⟩
              have HSH : Hid (Shape Z n p1 p2 true) := hsh
              clear hsh
              have hcv := fun q c => run_txt hsc2 p1 p2 c q r2
              have hpp : p1 ≤ p2 := by omega
              have i1 : decide ((p2 : Int) < (n : Int)) = false := by simp; omega
              have hways : ((p2 : Int) - (p1 : Int) == 1) = false ∨ (((p2 : Int) - (p1 : Int) == 1) = true ∧ (bits .or .u8 c 32 == 101) = false) ∨ (((p2 : Int) - (p1 : Int) == 1) = true ∧ (bits .or .u8 c 32 == 101) = true ∧ ((0 : Int) == 39) = false) := word_ways hz1 r1 hE2
              clear hE2
              rcases hways with hq | ⟨hq, hor⟩ | ⟨hq, hor, _⟩
              all_goals
                go_wp2
                go_quiet (fail)
                go_wp2
                go_quiet (fail)
                go_wp2
                go_region
                go_wp2
                refine bodyPost_ret (v := .tuple #[.agg #[.string (txt Z p1 p2), .bool true], .int .i64 p1, .bool true]) (by simp [results, Try.results12, go_sem, k0, k1]) rfl ?_
                exact ⟨p2, ((hsc2.other tb 0 _ hbd).other tb 1 _ hbd).drewN _, gb_drewN (gb_new (gb_new HG2.out _ _ _ (by have := HTB.out; omega)) _ _ _ (by have := HTB.out; omega)) _, .inr ⟨p1, true, rfl, h1, by omega, by omega, HGO.out, HGC.out.resolve_left (by omega), HSH.out⟩⟩
  · go_wp2
    go_quiet (fail)
    go_wp2
    refine bodyPost_ret (v := .tuple #[.agg #[.string ByteArray.empty, .bool false], .int .i64 0, .bool false]) (by simp [results, Try.results12, go_sem, k0, k1]; rfl) rfl ?_
    obtain rfl : p1 = n := by omega
    exact ⟨p1, ((hsc.other tb 0 _ hbd).other tb 1 _ hbd).drewN _, gb_drewN (gb_new (gb_new HG.out _ _ _ (by have := HTB.out; omega)) _ _ _ (by have := HTB.out; omega)) _, .inl ⟨rfl, rfl, HGO.out⟩⟩
end Go.Proofs.Qxb6001101a
