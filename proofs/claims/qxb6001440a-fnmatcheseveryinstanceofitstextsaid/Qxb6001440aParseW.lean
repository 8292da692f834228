import Derived.Test.Qxb6001440aParse
namespace Go.Proofs.Qxb6001440a
open Go.RowKit

set_option maxRecDepth 20000 in
set_option maxHeartbeats 4000000 in
theorem zparse_any (T : List UInt8) (hT : T.length ≤ 65536) (w : World) :
    Calls Try.prog 9 #[.string (ofL T)] w fun e w' => ∃ g cap wc, e = .returned (.agg #[.bool (globB T), .string (ofL (body T)), .slice (some ⟨g, 0, none⟩) (segs T).length cap, .bool (decide (0 < plus T)), .int .i64 wc, .int .i64 (plus T : Int)]) ∧
      w.heap.size ≤ g ∧ g < w'.heap.size ∧ (∀ i, i < (segs T).length → w'.cell? ⟨g, i, none⟩ = some (.string (ofL ((segs T).getD i [])))) ∧ Below w.heap.size w w' ∧
      ((0 < plus T ∨ globB T = true) → 0 ≤ wc) ∧ (plus T = 0 → globB T = false → wc = -1) := by
  have hsz : (ofL T).size = T.length := ofL_size T
  obtain ⟨s, hS⟩ : ∃ s, s = ofL T := ⟨_, rfl⟩
  rw [← hS] at hsz ⊢
  have HSD : Hid (s = ofL T) := hS
  have HSZ : Hid (s.size = T.length) := hsz
  have hs1 : s.size ≤ 65536 := by omega
  clear hS hsz hT
  rcases Nat.eq_zero_or_pos s.size with h0 | h0
  · have hT0 : T = [] := List.length_eq_zero_iff.1 (by have := HSZ.out; omega)
    have HGL : Hid (globB T = false) := by show _ = _; rw [hT0]; rfl
    have HBT : Hid (body T = T) := by show body T = T; unfold body; rw [HGL.out]; rfl
    have HBD : Hid (s = ofL (body T)) := by show _ = _; rw [HBT.out]; exact HSD.out
    have HBL : Hid ((body T).length ≤ 65536) := by show _ ≤ _; rw [HBT.out]; have := HSZ.out; omega
    clear hT0
    go_enter Try.func9, Try.ntmps9
    go_wp2_with fail
    refine (zsplit_at (body T) _ HBD.out HBL.out _).mono ?_
    rintro e w1 ⟨g, cap, rfl, hg1, hg2, hcell, hb1⟩
    obtain ⟨N, hN⟩ : ∃ N, N = (splitB (body T)).length := ⟨_, rfl⟩
    rw [← hN] at hcell ⊢
    have hN1 : N ≤ 65537 := by rw [hN]; have := split_count (body T); have := HBL.out; omega
    have HN : Hid (N = (splitB (body T)).length) := hN
    have HCELL : Hid (∀ i, i < N → w1.cell? ⟨g, i, none⟩ = some (.string (ofL ((splitB (body T)).getD i [])))) := hcell
    simp only [World.size_alloc] at hg1
    have hgP : ¬ g = w.heap.size + 1 := by omega
    have hPg : ¬ w.heap.size + 1 = g := by omega
    have HPB : Hid (PB w1 (w.heap.size + 1) false s (.slice none 0 0) false 0 0) := by
      show PB _ _ _ _ _ _ _ _
      unfold PB
      rw [hb1.block (w.heap.size + 1) (by simp)]
      exact heap_at _ _ _ (by simp)
    have HR : Hid (Zero25 w1 w.heap.size) := by
      show Zero25 _ _
      unfold Zero25
      rw [hb1.block w.heap.size (by simp; omega), Below.heap_alloc _ _ _ (by simp)]
      exact heap_alloc_new _ _
    have HB1 : Hid (Below w.heap.size w w1) := (((Below.refl _ _).alloc (Nat.le_refl _) _).alloc (by simp) _).trans (hb1.mono (by simp; omega))
    clear hN hcell hb1
    have c2 := HPB.out.c2
    have c4 := HPB.out.c4
    have f2 := HPB.out.fr 2
    have f4 := HPB.out.fr 4
    go_wp2
    go_loopg [4, 5] N (fun gh o i wr => ∃ (k : Nat) (ov wc : Int), k ≤ N ∧ i = .int .i64 k ∧ o = .int .i64 ov ∧ 0 ≤ ov ∧ ov ≤ 65537 * k ∧ Hid (PB wr (w.heap.size + 1) false s (.slice (some ⟨g, 0, none⟩) N cap) false wc (((segs T).take k).count [43] : Nat)) ∧ Hid (w1.grownBy wr (some (w.heap.size + 1))) ∧ Hid ((((segs T).take k).count [43] = 0 → wc = -1) ∧ (0 < ((segs T).take k).count [43] → 0 ≤ wc)) ∧ gh = N - k)
    case atStart => exact ⟨0, 0, -1, by omega, rfl, rfl, by omega, by omega, (HPB.out.s2 _).s4 _, gb_set (gb_set (gb_refl _ _) _ _) _ _, ⟨fun _ => rfl, fun h => by simp at h⟩, rfl⟩
    case round =>
      obtain ⟨k, ov, wc, hk, rfl, rfl, ho0, ho1, HPB2, HGB, HWC, rfl⟩ := hrel
      clear c2 c4 f2 f4
      have c0 := HPB2.out.c0
      have c1 := HPB2.out.c1
      have c2 := HPB2.out.c2
      have c3 := HPB2.out.c3
      have c4 := HPB2.out.c4
      have c5 := HPB2.out.c5
      have f3 := HPB2.out.fr 3
      have f4 := HPB2.out.fr 4
      have f5 := HPB2.out.fr 5
      obtain ⟨pl, hpl⟩ : ∃ pl : Nat, pl = ((segs T).take k).count [43] := ⟨_, rfl⟩
      have hplk : pl ≤ k := by rw [hpl]; exact Nat.le_trans List.count_le_length (List.length_take_le _ _)
      rw [← hpl] at c5 HPB2 HWC
      have HPL : Hid (pl = ((segs T).take k).count [43]) := hpl
      clear hpl
      by_cases hlt : k < N
      · have hks : k < (segs T).length := by have := HN.out; unfold segs; omega
        have hcnt := count_take_succ (segs T) k hks
        have hSl := getD_len (body T) 65536 k HBL.out
        have cs : wr.cell? ⟨g, k, none⟩ = some (.string (ofL ((splitB (body T)).getD k []))) := HGB.out.cell (HCELL.out k hlt) (by simpa using hgP)
        obtain ⟨x, hx⟩ : ∃ x, x = ofL ((splitB (body T)).getD k []) := ⟨_, rfl⟩
        rw [← hx] at cs
        have hxs : x.size ≤ 65536 := by rw [hx, ofL_size]; exact hSl
        by_cases hS : (segs T).getD k [] = [43]
        · have e43 : (x.toList == [43]) = true := by rw [hx, ofL_toList]; unfold segs at hS; rw [hS]; rfl
          rw [if_pos hS] at hcnt
          have HCNT : Hid (pl + 1 = ((segs T).take (k + 1)).count [43]) := by show _ = _; rw [hcnt, ← HPL.out]
          clear hcnt hS hx hSl
          by_cases hw : wc < 0
          · go_wp2
            go_roundg (N - (k + 1))
            case measure => omega
            case rel => exact ⟨k + 1, _, ov, by omega, by go_num, rfl, by omega, by omega, by rw [← HCNT.out]; exact (HPB2.out.s5 _).s4 _, gb_set (gb_set HGB.out _ _) _ _, ⟨fun h => by have := HCNT.out; omega, fun _ => ho0⟩, rfl⟩
          · go_wp2
            go_roundg (N - (k + 1))
            case measure => omega
            case rel => exact ⟨k + 1, _, wc, by omega, by go_num, rfl, by omega, by omega, by rw [← HCNT.out]; exact HPB2.out.s5 _, gb_set HGB.out _ _, ⟨fun h => by have := HCNT.out; omega, fun _ => by omega⟩, rfl⟩
        · have e43 : (x.toList == [43]) = false := by rw [hx, ofL_toList]; unfold segs at hS; simpa using hS
          rw [if_neg hS] at hcnt
          have HCNT : Hid (pl = ((segs T).take (k + 1)).count [43]) := by show _ = _; rw [hcnt, ← HPL.out]; rfl
          clear hcnt hS hx hSl
          go_wp2
          go_roundg (N - (k + 1))
          case measure => omega
          case rel => exact ⟨k + 1, _, wc, by omega, by go_num, rfl, by omega, by omega, by rw [← HCNT.out]; exact HPB2.out, HGB.out, by rw [← HCNT.out]; exact HWC.out, rfl⟩
      · obtain rfl : k = N := by omega
        have HPT : Hid (pl = plus T) := by show _ = _; rw [HPL.out, List.take_of_length_le (by have := HN.out; unfold segs; omega)]; rfl
        have hR := HR.out.kept HGB.out (by omega)
        obtain ⟨r0, r1, r2, r3, r4, r5⟩ := hR.cells
        have q0 := hR.fr 0
        have q1 := hR.fr 1
        have q2 := hR.fr 2
        have q3 := hR.fr 3
        have q4 := hR.fr 4
        have q5 := hR.fr 5
        clear hR
        have hw1 : w.heap.size ≤ w1.heap.size := HB1.out.size
        have HBR : Hid (Below w.heap.size w wr) := HB1.out.grown HGB.out hw1 (fun k hk => by simp at hk; omega)
        have HCR : Hid (∀ i, i < k → wr.cell? ⟨g, i, none⟩ = some (.string (ofL ((splitB (body T)).getD i [])))) := fun i hi => HGB.out.cell (HCELL.out i hi) (by simpa using hgP)
        have hgr : g < wr.heap.size := Nat.lt_of_lt_of_le hg2 HGB.out.size
        have hgR : ¬ g = w.heap.size := by omega
        rcases Nat.eq_zero_or_pos pl with hp0 | hp0
        · subst hp0
          obtain rfl : wc = -1 := HWC.out.1 rfl
          have hdp : decide (0 < plus T) = false := by have := HPT.out; simp; omega
          have HDP : Hid (decide (0 < plus T) = false) := hdp
          clear hdp
          go_wp2
          refine bodyPost_ret (v := .agg #[.bool false, .string s, .slice (some ⟨g, 0, none⟩) k cap, .bool false, .int .i64 (-1), .int .i64 0]) (by simp [results, Try.results9, go_sem, r0, r1, r2, r3, r4, r5]) rfl ?_
          refine ⟨g, cap, -1, ?_, by omega, by simpa using hgr, fun i hi => ?_, ?_, fun h => ?_, fun _ _ => rfl⟩
          · rw [HDP.out, HGL.out, ← HPT.out, ← HBD.out, show (segs T).length = k from HN.out.symm]; rfl
          · exact World.grownBy.cell (gb_set (gb_set (gb_set (gb_set (gb_set (gb_set (gb_refl _ _) _ _) _ _) _ _) _ _) _ _) _ _) (World.grownBy.cell (gb_set (gb_refl _ _) _ _) (HCR.out i (by rw [HN.out]; exact hi)) (by simpa using hgP)) (by simpa using hgR)
          · exact ((((((HBR.out.setCell (by simp) _).setCell (Nat.le_refl _) _).setCell (Nat.le_refl _) _).setCell (Nat.le_refl _) _).setCell (Nat.le_refl _) _).setCell (Nat.le_refl _) _).setCell (Nat.le_refl _) _
          · rcases h with h | h
            · have := HPT.out; omega
            · rw [HGL.out] at h; simp at h
        · have hwc : 0 ≤ wc := HWC.out.2 hp0
          have hdp : decide (0 < plus T) = true := by have := HPT.out; simp; omega
          have HDP : Hid (decide (0 < plus T) = true) := hdp
          clear hdp
          go_wp2
          refine bodyPost_ret (v := .agg #[.bool false, .string s, .slice (some ⟨g, 0, none⟩) k cap, .bool true, .int .i64 wc, .int .i64 pl]) (by simp [results, Try.results9, go_sem, r0, r1, r2, r3, r4, r5]) rfl ?_
          refine ⟨g, cap, wc, ?_, by omega, by simpa using hgr, fun i hi => ?_, ?_, fun _ => hwc, fun h => by have := HPT.out; omega⟩
          · rw [HDP.out, HGL.out, ← HPT.out, ← HBD.out, show (segs T).length = k from HN.out.symm]
          · exact World.grownBy.cell (gb_set (gb_set (gb_set (gb_set (gb_set (gb_set (gb_refl _ _) _ _) _ _) _ _) _ _) _ _) _ _) (World.grownBy.cell (gb_set (gb_refl _ _) _ _) (HCR.out i (by rw [HN.out]; exact hi)) (by simpa using hgP)) (by simpa using hgR)
          · exact ((((((HBR.out.setCell (by simp) _).setCell (Nat.le_refl _) _).setCell (Nat.le_refl _) _).setCell (Nat.le_refl _) _).setCell (Nat.le_refl _) _).setCell (Nat.le_refl _) _).setCell (Nat.le_refl _) _
  · have i2 : ((s.size : Int) - 1).toNat = s.size - 1 := by omega
    have i1 : (0 : Int) ≤ (s.size : Int) - 1 := by omega
    have hgl := glob_of HSD.out h0
    by_cases h42 : (s[s.size - 1].toNat : Int) = 42
    · have HGL : Hid (globB T = true) := by show _ = _; rw [hgl, h42]; rfl
      have HBT : Hid (body T = T.dropLast) := by show body T = _; unfold body; rw [HGL.out]; rfl
      have hex := body_of HSD.out
      rw [← HBT.out] at hex
      obtain ⟨bs, hbs⟩ : ∃ bs, bs = ofL (body T) := ⟨_, rfl⟩
      rw [← hbs] at hex
      have HBD : Hid (bs = ofL (body T)) := hbs
      have HBL : Hid ((body T).length ≤ 65536) := by show _ ≤ _; rw [HBT.out]; have := HSZ.out; simp; omega
      clear hgl hbs
      go_enter Try.func9, Try.ntmps9
      go_wp2_with fail
      refine (zsplit_at (body T) _ HBD.out HBL.out _).mono ?_
      rintro e w1 ⟨g, cap, rfl, hg1, hg2, hcell, hb1⟩
      obtain ⟨N, hN⟩ : ∃ N, N = (splitB (body T)).length := ⟨_, rfl⟩
      rw [← hN] at hcell ⊢
      have hN1 : N ≤ 65537 := by rw [hN]; have := split_count (body T); have := HBL.out; omega
      have HN : Hid (N = (splitB (body T)).length) := hN
      have HCELL : Hid (∀ i, i < N → w1.cell? ⟨g, i, none⟩ = some (.string (ofL ((splitB (body T)).getD i [])))) := hcell
      simp only [World.size_alloc] at hg1
      have hgP : ¬ g = w.heap.size + 1 := by omega
      have hPg : ¬ w.heap.size + 1 = g := by omega
      have HPB : Hid (PB w1 (w.heap.size + 1) true bs (.slice none 0 0) false 0 0) := by
        show PB _ _ _ _ _ _ _ _
        unfold PB
        rw [hb1.block (w.heap.size + 1) (by simp)]
        exact heap_at _ _ _ (by simp)
      have HR : Hid (Zero25 w1 w.heap.size) := by
        show Zero25 _ _
        unfold Zero25
        rw [hb1.block w.heap.size (by simp; omega), Below.heap_alloc _ _ _ (by simp)]
        exact heap_alloc_new _ _
      have HB1 : Hid (Below w.heap.size w w1) := (((Below.refl _ _).alloc (Nat.le_refl _) _).alloc (by simp) _).trans (hb1.mono (by simp; omega))
      clear hN hcell hb1
      have c2 := HPB.out.c2
      have c4 := HPB.out.c4
      have f2 := HPB.out.fr 2
      have f4 := HPB.out.fr 4
      go_wp2
      go_loopg [4, 5] N (fun gh o i wr => ∃ (k : Nat) (ov wc : Int), k ≤ N ∧ i = .int .i64 k ∧ o = .int .i64 ov ∧ 0 ≤ ov ∧ ov ≤ 65537 * k ∧ Hid (PB wr (w.heap.size + 1) true bs (.slice (some ⟨g, 0, none⟩) N cap) false wc (((segs T).take k).count [43] : Nat)) ∧ Hid (w1.grownBy wr (some (w.heap.size + 1))) ∧ Hid ((((segs T).take k).count [43] = 0 → wc = -1) ∧ (0 < ((segs T).take k).count [43] → 0 ≤ wc)) ∧ gh = N - k)
      case atStart => exact ⟨0, 0, -1, by omega, rfl, rfl, by omega, by omega, (HPB.out.s2 _).s4 _, gb_set (gb_set (gb_refl _ _) _ _) _ _, ⟨fun _ => rfl, fun h => by simp at h⟩, rfl⟩
      case round =>
        obtain ⟨k, ov, wc, hk, rfl, rfl, ho0, ho1, HPB2, HGB, HWC, rfl⟩ := hrel
        clear c2 c4 f2 f4
        have c0 := HPB2.out.c0
        have c1 := HPB2.out.c1
        have c2 := HPB2.out.c2
        have c3 := HPB2.out.c3
        have c4 := HPB2.out.c4
        have c5 := HPB2.out.c5
        have f3 := HPB2.out.fr 3
        have f4 := HPB2.out.fr 4
        have f5 := HPB2.out.fr 5
        obtain ⟨pl, hpl⟩ : ∃ pl : Nat, pl = ((segs T).take k).count [43] := ⟨_, rfl⟩
        have hplk : pl ≤ k := by rw [hpl]; exact Nat.le_trans List.count_le_length (List.length_take_le _ _)
        rw [← hpl] at c5 HPB2 HWC
        have HPL : Hid (pl = ((segs T).take k).count [43]) := hpl
        clear hpl
        by_cases hlt : k < N
        · have hks : k < (segs T).length := by have := HN.out; unfold segs; omega
          have hcnt := count_take_succ (segs T) k hks
          have hSl := getD_len (body T) 65536 k HBL.out
          have cs : wr.cell? ⟨g, k, none⟩ = some (.string (ofL ((splitB (body T)).getD k []))) := HGB.out.cell (HCELL.out k hlt) (by simpa using hgP)
          obtain ⟨x, hx⟩ : ∃ x, x = ofL ((splitB (body T)).getD k []) := ⟨_, rfl⟩
          rw [← hx] at cs
          have hxs : x.size ≤ 65536 := by rw [hx, ofL_size]; exact hSl
          by_cases hS : (segs T).getD k [] = [43]
          · have e43 : (x.toList == [43]) = true := by rw [hx, ofL_toList]; unfold segs at hS; rw [hS]; rfl
            rw [if_pos hS] at hcnt
            have HCNT : Hid (pl + 1 = ((segs T).take (k + 1)).count [43]) := by show _ = _; rw [hcnt, ← HPL.out]
            clear hcnt hS hx hSl
            by_cases hw : wc < 0
            · go_wp2
              go_roundg (N - (k + 1))
              case measure => omega
              case rel => exact ⟨k + 1, _, ov, by omega, by go_num, rfl, by omega, by omega, by rw [← HCNT.out]; exact (HPB2.out.s5 _).s4 _, gb_set (gb_set HGB.out _ _) _ _, ⟨fun h => by have := HCNT.out; omega, fun _ => ho0⟩, rfl⟩
            · go_wp2
              go_roundg (N - (k + 1))
              case measure => omega
              case rel => exact ⟨k + 1, _, wc, by omega, by go_num, rfl, by omega, by omega, by rw [← HCNT.out]; exact HPB2.out.s5 _, gb_set HGB.out _ _, ⟨fun h => by have := HCNT.out; omega, fun _ => by omega⟩, rfl⟩
          · have e43 : (x.toList == [43]) = false := by rw [hx, ofL_toList]; unfold segs at hS; simpa using hS
            rw [if_neg hS] at hcnt
            have HCNT : Hid (pl = ((segs T).take (k + 1)).count [43]) := by show _ = _; rw [hcnt, ← HPL.out]; rfl
            clear hcnt hS hx hSl
            go_wp2
            go_roundg (N - (k + 1))
            case measure => omega
            case rel => exact ⟨k + 1, _, wc, by omega, by go_num, rfl, by omega, by omega, by rw [← HCNT.out]; exact HPB2.out, HGB.out, by rw [← HCNT.out]; exact HWC.out, rfl⟩
        · obtain rfl : k = N := by omega
          have HPT : Hid (pl = plus T) := by show _ = _; rw [HPL.out, List.take_of_length_le (by have := HN.out; unfold segs; omega)]; rfl
          have hR := HR.out.kept HGB.out (by omega)
          obtain ⟨r0, r1, r2, r3, r4, r5⟩ := hR.cells
          have q0 := hR.fr 0
          have q1 := hR.fr 1
          have q2 := hR.fr 2
          have q3 := hR.fr 3
          have q4 := hR.fr 4
          have q5 := hR.fr 5
          clear hR
          have hw1 : w.heap.size ≤ w1.heap.size := HB1.out.size
          have HBR : Hid (Below w.heap.size w wr) := HB1.out.grown HGB.out hw1 (fun k hk => by simp at hk; omega)
          have HCR : Hid (∀ i, i < k → wr.cell? ⟨g, i, none⟩ = some (.string (ofL ((splitB (body T)).getD i [])))) := fun i hi => HGB.out.cell (HCELL.out i hi) (by simpa using hgP)
          have hgr : g < wr.heap.size := Nat.lt_of_lt_of_le hg2 HGB.out.size
          have hgR : ¬ g = w.heap.size := by omega
          rcases Nat.eq_zero_or_pos pl with hp0 | hp0
          · subst hp0
            obtain rfl : wc = -1 := HWC.out.1 rfl
            have hdp : decide (0 < plus T) = false := by have := HPT.out; simp; omega
            have HDP : Hid (decide (0 < plus T) = false) := hdp
            clear hdp
            go_wp2
            refine bodyPost_ret (v := .agg #[.bool true, .string bs, .slice (some ⟨g, 0, none⟩) k cap, .bool false, .int .i64 ((s.size : Int) - 1), .int .i64 0]) (by simp [results, Try.results9, go_sem, r0, r1, r2, r3, r4, r5]) rfl ?_
            refine ⟨g, cap, (s.size : Int) - 1, ?_, by omega, by simpa using hgr, fun i hi => ?_, ?_, fun h => by omega, fun _ h => ?_⟩
            · rw [HDP.out, HGL.out, ← HPT.out, ← HBD.out, show (segs T).length = k from HN.out.symm]; rfl
            · exact World.grownBy.cell (gb_set (gb_set (gb_set (gb_set (gb_set (gb_set (gb_refl _ _) _ _) _ _) _ _) _ _) _ _) _ _) (World.grownBy.cell (gb_set (gb_set (gb_refl _ _) _ _) _ _) (HCR.out i (by rw [HN.out]; exact hi)) (by simpa using hgP)) (by simpa using hgR)
            · exact (((((((HBR.out.setCell (by simp) _).setCell (by simp) _).setCell (Nat.le_refl _) _).setCell (Nat.le_refl _) _).setCell (Nat.le_refl _) _).setCell (Nat.le_refl _) _).setCell (Nat.le_refl _) _).setCell (Nat.le_refl _) _
            · rw [HGL.out] at h; simp at h
          · have hwc : 0 ≤ wc := HWC.out.2 hp0
            have hdp : decide (0 < plus T) = true := by have := HPT.out; simp; omega
            have HDP : Hid (decide (0 < plus T) = true) := hdp
            clear hdp
            go_wp2
            refine bodyPost_ret (v := .agg #[.bool true, .string bs, .slice (some ⟨g, 0, none⟩) k cap, .bool true, .int .i64 wc, .int .i64 pl]) (by simp [results, Try.results9, go_sem, r0, r1, r2, r3, r4, r5]) rfl ?_
            refine ⟨g, cap, wc, ?_, by omega, by simpa using hgr, fun i hi => ?_, ?_, fun _ => hwc, fun h => by have := HPT.out; omega⟩
            · rw [HDP.out, HGL.out, ← HPT.out, ← HBD.out, show (segs T).length = k from HN.out.symm]
            · exact World.grownBy.cell (gb_set (gb_set (gb_set (gb_set (gb_set (gb_set (gb_refl _ _) _ _) _ _) _ _) _ _) _ _) _ _) (World.grownBy.cell (gb_set (gb_refl _ _) _ _) (HCR.out i (by rw [HN.out]; exact hi)) (by simpa using hgP)) (by simpa using hgR)
            · exact ((((((HBR.out.setCell (by simp) _).setCell (Nat.le_refl _) _).setCell (Nat.le_refl _) _).setCell (Nat.le_refl _) _).setCell (Nat.le_refl _) _).setCell (Nat.le_refl _) _).setCell (Nat.le_refl _) _
    · have e42 : ((s[s.size - 1].toNat : Int) == 42) = false := by simpa using h42
      have HGL : Hid (globB T = false) := by show _ = _; rw [hgl]; simpa using h42
      have HBT : Hid (body T = T) := by show body T = T; unfold body; rw [HGL.out]; rfl
      have HBD : Hid (s = ofL (body T)) := by show _ = _; rw [HBT.out]; exact HSD.out
      have HBL : Hid ((body T).length ≤ 65536) := by show _ ≤ _; rw [HBT.out]; have := HSZ.out; omega
      clear hgl
      go_enter Try.func9, Try.ntmps9
      go_wp2_with fail
      refine (zsplit_at (body T) _ HBD.out HBL.out _).mono ?_
      rintro e w1 ⟨g, cap, rfl, hg1, hg2, hcell, hb1⟩
      obtain ⟨N, hN⟩ : ∃ N, N = (splitB (body T)).length := ⟨_, rfl⟩
      rw [← hN] at hcell ⊢
      have hN1 : N ≤ 65537 := by rw [hN]; have := split_count (body T); have := HBL.out; omega
      have HN : Hid (N = (splitB (body T)).length) := hN
      have HCELL : Hid (∀ i, i < N → w1.cell? ⟨g, i, none⟩ = some (.string (ofL ((splitB (body T)).getD i [])))) := hcell
      simp only [World.size_alloc] at hg1
      have hgP : ¬ g = w.heap.size + 1 := by omega
      have hPg : ¬ w.heap.size + 1 = g := by omega
      have HPB : Hid (PB w1 (w.heap.size + 1) false s (.slice none 0 0) false 0 0) := by
        show PB _ _ _ _ _ _ _ _
        unfold PB
        rw [hb1.block (w.heap.size + 1) (by simp)]
        exact heap_at _ _ _ (by simp)
      have HR : Hid (Zero25 w1 w.heap.size) := by
        show Zero25 _ _
        unfold Zero25
        rw [hb1.block w.heap.size (by simp; omega), Below.heap_alloc _ _ _ (by simp)]
        exact heap_alloc_new _ _
      have HB1 : Hid (Below w.heap.size w w1) := (((Below.refl _ _).alloc (Nat.le_refl _) _).alloc (by simp) _).trans (hb1.mono (by simp; omega))
      clear hN hcell hb1
      have c2 := HPB.out.c2
      have c4 := HPB.out.c4
      have f2 := HPB.out.fr 2
      have f4 := HPB.out.fr 4
      go_wp2
      go_loopg [4, 5] N (fun gh o i wr => ∃ (k : Nat) (ov wc : Int), k ≤ N ∧ i = .int .i64 k ∧ o = .int .i64 ov ∧ 0 ≤ ov ∧ ov ≤ 65537 * k ∧ Hid (PB wr (w.heap.size + 1) false s (.slice (some ⟨g, 0, none⟩) N cap) false wc (((segs T).take k).count [43] : Nat)) ∧ Hid (w1.grownBy wr (some (w.heap.size + 1))) ∧ Hid ((((segs T).take k).count [43] = 0 → wc = -1) ∧ (0 < ((segs T).take k).count [43] → 0 ≤ wc)) ∧ gh = N - k)
      case atStart => exact ⟨0, 0, -1, by omega, rfl, rfl, by omega, by omega, (HPB.out.s2 _).s4 _, gb_set (gb_set (gb_refl _ _) _ _) _ _, ⟨fun _ => rfl, fun h => by simp at h⟩, rfl⟩
      case round =>
        obtain ⟨k, ov, wc, hk, rfl, rfl, ho0, ho1, HPB2, HGB, HWC, rfl⟩ := hrel
        clear c2 c4 f2 f4
        have c0 := HPB2.out.c0
        have c1 := HPB2.out.c1
        have c2 := HPB2.out.c2
        have c3 := HPB2.out.c3
        have c4 := HPB2.out.c4
        have c5 := HPB2.out.c5
        have f3 := HPB2.out.fr 3
        have f4 := HPB2.out.fr 4
        have f5 := HPB2.out.fr 5
        obtain ⟨pl, hpl⟩ : ∃ pl : Nat, pl = ((segs T).take k).count [43] := ⟨_, rfl⟩
        have hplk : pl ≤ k := by rw [hpl]; exact Nat.le_trans List.count_le_length (List.length_take_le _ _)
        rw [← hpl] at c5 HPB2 HWC
        have HPL : Hid (pl = ((segs T).take k).count [43]) := hpl
        clear hpl
        by_cases hlt : k < N
        · have hks : k < (segs T).length := by have := HN.out; unfold segs; omega
          have hcnt := count_take_succ (segs T) k hks
          have hSl := getD_len (body T) 65536 k HBL.out
          have cs : wr.cell? ⟨g, k, none⟩ = some (.string (ofL ((splitB (body T)).getD k []))) := HGB.out.cell (HCELL.out k hlt) (by simpa using hgP)
          obtain ⟨x, hx⟩ : ∃ x, x = ofL ((splitB (body T)).getD k []) := ⟨_, rfl⟩
          rw [← hx] at cs
          have hxs : x.size ≤ 65536 := by rw [hx, ofL_size]; exact hSl
          by_cases hS : (segs T).getD k [] = [43]
          · have e43 : (x.toList == [43]) = true := by rw [hx, ofL_toList]; unfold segs at hS; rw [hS]; rfl
            rw [if_pos hS] at hcnt
            have HCNT : Hid (pl + 1 = ((segs T).take (k + 1)).count [43]) := by show _ = _; rw [hcnt, ← HPL.out]
            clear hcnt hS hx hSl
            by_cases hw : wc < 0
            · go_wp2
              go_roundg (N - (k + 1))
              case measure => omega
              case rel => exact ⟨k + 1, _, ov, by omega, by go_num, rfl, by omega, by omega, by rw [← HCNT.out]; exact (HPB2.out.s5 _).s4 _, gb_set (gb_set HGB.out _ _) _ _, ⟨fun h => by have := HCNT.out; omega, fun _ => ho0⟩, rfl⟩
            · go_wp2
              go_roundg (N - (k + 1))
              case measure => omega
              case rel => exact ⟨k + 1, _, wc, by omega, by go_num, rfl, by omega, by omega, by rw [← HCNT.out]; exact HPB2.out.s5 _, gb_set HGB.out _ _, ⟨fun h => by have := HCNT.out; omega, fun _ => by omega⟩, rfl⟩
          · have e43 : (x.toList == [43]) = false := by rw [hx, ofL_toList]; unfold segs at hS; simpa using hS
            rw [if_neg hS] at hcnt
            have HCNT : Hid (pl = ((segs T).take (k + 1)).count [43]) := by show _ = _; rw [hcnt, ← HPL.out]; rfl
            clear hcnt hS hx hSl
            go_wp2
            go_roundg (N - (k + 1))
            case measure => omega
            case rel => exact ⟨k + 1, _, wc, by omega, by go_num, rfl, by omega, by omega, by rw [← HCNT.out]; exact HPB2.out, HGB.out, by rw [← HCNT.out]; exact HWC.out, rfl⟩
        · obtain rfl : k = N := by omega
          have HPT : Hid (pl = plus T) := by show _ = _; rw [HPL.out, List.take_of_length_le (by have := HN.out; unfold segs; omega)]; rfl
          have hR := HR.out.kept HGB.out (by omega)
          obtain ⟨r0, r1, r2, r3, r4, r5⟩ := hR.cells
          have q0 := hR.fr 0
          have q1 := hR.fr 1
          have q2 := hR.fr 2
          have q3 := hR.fr 3
          have q4 := hR.fr 4
          have q5 := hR.fr 5
          clear hR
          have hw1 : w.heap.size ≤ w1.heap.size := HB1.out.size
          have HBR : Hid (Below w.heap.size w wr) := HB1.out.grown HGB.out hw1 (fun k hk => by simp at hk; omega)
          have HCR : Hid (∀ i, i < k → wr.cell? ⟨g, i, none⟩ = some (.string (ofL ((splitB (body T)).getD i [])))) := fun i hi => HGB.out.cell (HCELL.out i hi) (by simpa using hgP)
          have hgr : g < wr.heap.size := Nat.lt_of_lt_of_le hg2 HGB.out.size
          have hgR : ¬ g = w.heap.size := by omega
          rcases Nat.eq_zero_or_pos pl with hp0 | hp0
          · subst hp0
            obtain rfl : wc = -1 := HWC.out.1 rfl
            have hdp : decide (0 < plus T) = false := by have := HPT.out; simp; omega
            have HDP : Hid (decide (0 < plus T) = false) := hdp
            clear hdp
            go_wp2
            refine bodyPost_ret (v := .agg #[.bool false, .string s, .slice (some ⟨g, 0, none⟩) k cap, .bool false, .int .i64 (-1), .int .i64 0]) (by simp [results, Try.results9, go_sem, r0, r1, r2, r3, r4, r5]) rfl ?_
            refine ⟨g, cap, -1, ?_, by omega, by simpa using hgr, fun i hi => ?_, ?_, fun h => ?_, fun _ _ => rfl⟩
            · rw [HDP.out, HGL.out, ← HPT.out, ← HBD.out, show (segs T).length = k from HN.out.symm]; rfl
            · exact World.grownBy.cell (gb_set (gb_set (gb_set (gb_set (gb_set (gb_set (gb_refl _ _) _ _) _ _) _ _) _ _) _ _) _ _) (World.grownBy.cell (gb_set (gb_refl _ _) _ _) (HCR.out i (by rw [HN.out]; exact hi)) (by simpa using hgP)) (by simpa using hgR)
            · exact ((((((HBR.out.setCell (by simp) _).setCell (Nat.le_refl _) _).setCell (Nat.le_refl _) _).setCell (Nat.le_refl _) _).setCell (Nat.le_refl _) _).setCell (Nat.le_refl _) _).setCell (Nat.le_refl _) _
            · rcases h with h | h
              · have := HPT.out; omega
              · rw [HGL.out] at h; simp at h
          · have hwc : 0 ≤ wc := HWC.out.2 hp0
            have hdp : decide (0 < plus T) = true := by have := HPT.out; simp; omega
            have HDP : Hid (decide (0 < plus T) = true) := hdp
            clear hdp
            go_wp2
            refine bodyPost_ret (v := .agg #[.bool false, .string s, .slice (some ⟨g, 0, none⟩) k cap, .bool true, .int .i64 wc, .int .i64 pl]) (by simp [results, Try.results9, go_sem, r0, r1, r2, r3, r4, r5]) rfl ?_
            refine ⟨g, cap, wc, ?_, by omega, by simpa using hgr, fun i hi => ?_, ?_, fun _ => hwc, fun h => by have := HPT.out; omega⟩
            · rw [HDP.out, HGL.out, ← HPT.out, ← HBD.out, show (segs T).length = k from HN.out.symm]
            · exact World.grownBy.cell (gb_set (gb_set (gb_set (gb_set (gb_set (gb_set (gb_refl _ _) _ _) _ _) _ _) _ _) _ _) _ _) (World.grownBy.cell (gb_set (gb_refl _ _) _ _) (HCR.out i (by rw [HN.out]; exact hi)) (by simpa using hgP)) (by simpa using hgR)
            · exact ((((((HBR.out.setCell (by simp) _).setCell (Nat.le_refl _) _).setCell (Nat.le_refl _) _).setCell (Nat.le_refl _) _).setCell (Nat.le_refl _) _).setCell (Nat.le_refl _) _).setCell (Nat.le_refl _) _
end Go.Proofs.Qxb6001440a
