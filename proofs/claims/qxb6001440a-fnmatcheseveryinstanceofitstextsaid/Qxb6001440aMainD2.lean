import Derived.Test.Qxb6001440aMainM
namespace Go.Proofs.Qxb6001440a
open Go.RowKit

set_option maxRecDepth 20000 in
set_option maxHeartbeats 8000000 in
theorem mainM_tp0e (T F U : List UInt8) (hT : T.length ≤ 65536) (hF : F.length ≤ 65536) (hU : U.length ≤ 65536) (hG : globB T = true) (hP : 0 < plus T) (hU0 : U = []) (hF0 : F = []) (w : World) :
    Calls Try.prog 4 #[.string (ofL T), .string (ofL F), .string (ofL U)] w fun e w' => e = .returned (.bool true) ∧ Below w.heap.size w w' := by
  have HG0 : Hid (globB T = true) := hG
  have HPP : Hid (0 < plus T) := hP
  clear hG hP
  have HU0 : Hid (U = []) := hU0
  clear hU0
  have HFE : Hid (F = []) := hF0
  clear hF0
  obtain ⟨i0, hi, hz0, hz1, hz2⟩ := info_parts info5
  have sT := ofL_size T
  have sF := ofL_size F
  have sU := ofL_size U
  have tF := ofL_toList F
  have tU := ofL_toList U
  obtain ⟨t, ht⟩ : ∃ t, t = ofL T := ⟨_, rfl⟩
  obtain ⟨f, hf⟩ : ∃ f, f = ofL F := ⟨_, rfl⟩
  obtain ⟨u, hu⟩ : ∃ u, u = ofL U := ⟨_, rfl⟩
  rw [← ht, ← hf, ← hu]
  rw [← ht] at sT
  rw [← hf] at sF tF
  rw [HFE.out] at tF
  rw [← hu] at sU tU
  rw [HU0.out] at tU
  have bT : t.size ≤ 65536 := by omega
  have bF : f.size ≤ 65536 := by omega
  have bU : u.size ≤ 65536 := by omega
  have HT : Hid (t = ofL T) := ht
  have HF : Hid (f = ofL F) := hf
  have HU : Hid (u = ofL U) := hu
  have HSF : Hid (f.size = F.length) := sF
  have HSU : Hid (u.size = U.length) := sU
  have HTL : Hid (T.length ≤ 65536) := hT
  clear ht hf hu sT sF sU hT hF hU
  go_enter Try.func4, Try.ntmps4
  go_wp2_with fail
  refine (zzBytesM _ _ _ (by omega) (by omega) (by omega) _).mono ?_
  rintro e w' ⟨v, rfl, hw⟩
  obtain rfl := hw.symm
  cases v
  · go_wp2
    go_ret
    exact ⟨rfl, Below.refl _ _⟩
  go_wp2_with fail
  go_loopg [7] f.size (fun gh i wr => ∃ k : Nat, k ≤ f.size ∧ i = .int .i64 k ∧ Hid (∀ i, i < k → F[i]? ≠ some 47) ∧ w = wr ∧ gh = f.size - k)
  case atStart => exact ⟨0, by omega, rfl, fun i hi => by omega, rfl, rfl⟩
  case round =>
    obtain ⟨k, hk, rfl, HK, rfl, rfl⟩ := hrel
    by_cases hlt : k < f.size
    · have hget : F[k]? = some f[k] := by
        have h1 : f[k] = (ofL F)[k]'(by rw [← HF.out]; exact hlt) := by congr 1 <;> simp [HF.out]
        rw [h1]
        exact get_ofL F k _
      by_cases h47 : (f[k].toNat : Int) = 47
      · go_wp2
        go_ret
        exact ⟨rfl, Below.refl _ _⟩
      · have e47 : ((f[k].toNat : Int) == 47) = false := by simpa using h47
        have HK2 : Hid (∀ i, i < k + 1 → F[i]? ≠ some 47) := fun i hi => by
          by_cases e : i = k
          · subst e; rw [hget]; intro e2; apply h47; rw [Option.some.inj e2]; rfl
          · exact HK.out i (by omega)
        clear hget
        go_wp2
        go_roundg (f.size - (k + 1))
        case measure => omega
        case rel => exact ⟨k + 1, by omega, by go_num, HK2.out, rfl, rfl⟩
    · obtain rfl : k = f.size := by omega
      have HNS : Hid ((47 : UInt8) ∉ F) := fun hm => by
        obtain ⟨i, hi⟩ := List.mem_iff_getElem?.1 hm
        have hlt2 := (List.getElem?_eq_some_iff.1 hi).1
        exact HK.out i (by have := HSF.out; omega) hi
      clear HK
      go_wp2_with fail
      rw [HT.out]
      refine (zparse_any T HTL.out _).mono ?_
      rintro e w1 ⟨g, cap, wc, rfl, hg1, hg2, hcell, hb1, _, _⟩
      rw [← HT.out]
      obtain ⟨N, hN⟩ : ∃ N, N = (segs T).length := ⟨_, rfl⟩
      rw [← hN] at hcell ⊢
      have hN1 : N ≤ 65537 := by
        have h1 := split_count (body T)
        have h2 : (body T).length ≤ T.length := by unfold body; split <;> simp
        have h3 := HTL.out
        rw [hN]
        unfold segs
        omega
      have HN : Hid (N = (segs T).length) := hN
      have HC : Hid (∀ i, i < N → w1.cell? ⟨g, i, none⟩ = some (.string (ofL ((segs T).getD i [])))) := hcell
      have HB : Hid (Below w.heap.size w w1) := hb1
      have hw1 := hb1.size
      clear hN hcell hb1
      obtain ⟨pl, hpl⟩ : ∃ pl, pl = plus T := ⟨_, rfl⟩
      rw [← hpl]
      have hpl1 : pl ≤ N := by rw [hpl]; unfold plus; rw [HN.out]; exact List.count_le_length
      have HPL : Hid (pl = plus T) := hpl
      obtain ⟨gl, hgl⟩ : ∃ gl, gl = globB T := ⟨_, rfl⟩
      rw [← hgl]
      have HGL : Hid (gl = globB T) := hgl
      clear hpl hgl
      obtain ⟨bd, hbd⟩ : ∃ bd, bd = ofL (body T) := ⟨_, rfl⟩
      rw [← hbd]
      clear hbd
      obtain rfl : gl = true := by rw [HGL.out]; exact HG0.out
      have h0 : 0 < pl := by rw [HPL.out]; exact HPP.out
      have hd : decide (0 < pl) = true := by simp; omega
      have HUE : Hid (globB T = true → U = []) := fun _ => HU0.out
      by_cases hq : (f.size : Int) ≤ 1048576 / (pl : Int)
      · go_wp2_with fail
        go_loopg [9, 10] N (fun gh v i wr => ∃ k : Nat, k ≤ N ∧ i = .int .i64 k ∧ Hid (wr.ownsRow (w1.heap.size + 1) 5 1 v (built T F k).length (byteC (built T F k))) ∧ (built T F k).length ≤ 65537 * k ∧ Hid (Below (w1.heap.size + 1) (w1.alloc (.cells #[.bool true, .string bd, .slice (some ⟨g, 0, none⟩) N cap, .bool true, .int .i64 wc, .int .i64 pl] 25)) wr) ∧ gh = N - k)
        case atStart => exact ⟨0, by omega, rfl, World.ownsRow_nil _ _ _ _, by simp [built_zero], Below.refl _ _, rfl⟩
        case round =>
          obtain ⟨k, hk, rfl, HO, hlen, HBY, rfl⟩ := hrel
          have hysz : w1.heap.size + 1 ≤ wr.heap.size := by have := HBY.out.size; simpa using this
          have p0 : wr.cell? ⟨w1.heap.size, 0, none⟩ = some (.bool true) := (HBY.out.cell (p := ⟨w1.heap.size, 0, none⟩) (by simp)).trans (by simp)
          have p2 : wr.cell? ⟨w1.heap.size, 2, none⟩ = some (.slice (some ⟨g, 0, none⟩) N cap) := (HBY.out.cell (p := ⟨w1.heap.size, 2, none⟩) (by simp)).trans (by simp)
          have p3 : wr.cell? ⟨w1.heap.size, 3, none⟩ = some (.bool true) := (HBY.out.cell (p := ⟨w1.heap.size, 3, none⟩) (by simp)).trans (by simp)
          by_cases hlt : k < N
          · have hks : k < (segs T).length := by have := HN.out; omega
            have cs : wr.cell? ⟨g, k, none⟩ = some (.string (ofL ((segs T).getD k []))) := (HBY.out.cell (p := ⟨g, k, none⟩) (by simp; omega)).trans ((World.cell?_alloc_lt _ _ _ hg2).trans (HC.out k hlt))
            obtain ⟨x, hx⟩ : ∃ x, x = ofL ((segs T).getD k []) := ⟨_, rfl⟩
            rw [← hx] at cs
            have hxs : x.size ≤ 65536 := by
              rw [hx, ofL_size]
              refine getD_len (body T) 65536 k ?_
              have h2 : (body T).length ≤ T.length := by unfold body; split <;> simp
              have := HTL.out
              omega
            obtain ⟨L, hL⟩ : ∃ L, L = (built T F k).length := ⟨_, rfl⟩
            obtain ⟨D, hD⟩ : ∃ D, D = byteC (built T F k) := ⟨_, rfl⟩
            rw [← hL, ← hD] at HO
            rw [← hL] at hlen
            by_cases hk0 : k = 0
            · subst hk0
              have hL0 : L = 0 := by rw [hL]; rfl
              have hD0 : D = [] := by rw [hD]; rfl
              subst hL0
              subst hD0
              by_cases hS : (segs T).getD 0 [] = [43]
              · have e43 : (x.toList == [43]) = true := by rw [hx, ofL_toList, hS]; rfl
                have HE : Hid (Lib.strCells f = byteC (built T F 1) ∧ f.size = (built T F 1).length) := put_first T F f hks (by rw [hS, HF.out]; rfl)
                clear hx hS hL hD
                go_wp2_with (at_builtin; refine Lib.wpList_append_own_string _ rfl _ _ 30 9 rfl (w1.heap.size + 1) 5 i0 Try.underlying30 Try.underlying9 hi hz0 hz1 hz2 _ _ _ rfl HO.out f rfl ?a1 ?a2 ?a3 ?_)
                case a1 => unfold maxLen; omega
                case a2 => omega
                case a3 => exact hysz
                intro v' w2 hown hgrow _
                rw [HE.out.1, HE.out.2] at hown
                have HO2 : Hid (w2.ownsRow (w1.heap.size + 1) 5 1 v' (built T F 1).length (byteC (built T F 1))) := hown
                have HB2 : Hid (Below (w1.heap.size + 1) (w1.alloc (.cells #[.bool true, .string bd, .slice (some ⟨g, 0, none⟩) N cap, .bool true, .int .i64 wc, .int .i64 pl] 25)) w2) := HBY.out.grown hgrow hysz (fun b hb => (HO.out.lt b hb).1)
                clear hown hgrow
                go_wp2
                go_roundg (N - 1)
                case measure => omega
                case rel => exact ⟨1, by omega, rfl, HO2.out, by have := HE.out.2; omega, HB2.out, rfl⟩
              · have e43 : (x.toList == [43]) = false := by rw [hx, ofL_toList]; simpa using hS
                have HE : Hid (Lib.strCells x = byteC (built T F 1) ∧ x.size = (built T F 1).length) := put_first T F x hks (by rw [hx]; unfold sub; rw [if_neg hS])
                clear hx hS hL hD
                go_wp2_with (at_builtin; refine Lib.wpList_append_own_string _ rfl _ _ 30 9 rfl (w1.heap.size + 1) 5 i0 Try.underlying30 Try.underlying9 hi hz0 hz1 hz2 _ _ _ rfl HO.out x rfl ?b1 ?b2 ?b3 ?_)
                case b1 => unfold maxLen; omega
                case b2 => omega
                case b3 => exact hysz
                intro v' w2 hown hgrow _
                rw [HE.out.1, HE.out.2] at hown
                have HO2 : Hid (w2.ownsRow (w1.heap.size + 1) 5 1 v' (built T F 1).length (byteC (built T F 1))) := hown
                have HB2 : Hid (Below (w1.heap.size + 1) (w1.alloc (.cells #[.bool true, .string bd, .slice (some ⟨g, 0, none⟩) N cap, .bool true, .int .i64 wc, .int .i64 pl] 25)) w2) := HBY.out.grown hgrow hysz (fun b hb => (HO.out.lt b hb).1)
                clear hown hgrow
                go_wp2
                go_roundg (N - 1)
                case measure => omega
                case rel => exact ⟨1, by omega, rfl, HO2.out, by have := HE.out.2; omega, HB2.out, rfl⟩
            · have HXX : Hid (x = ofL ((segs T).getD k [])) := hx
              have hk1 : (0 : Int) < (k : Int) := by omega
              by_cases hS : (segs T).getD k [] = [43]
              · have e43 : (x.toList == [43]) = true := by rw [hx, ofL_toList, hS]; rfl
                have HE : Hid (D ++ Value.int .u8 47 :: Lib.strCells f = byteC (built T F (k + 1)) ∧ L + 1 + f.size = (built T F (k + 1)).length) := by rw [hL, hD]; exact put_next T F k f hks (by omega) (by rw [hS, HF.out]; rfl)
                clear hx hS hL hD
                go_wp2_with (at_builtin; refine wpList_append_own _ rfl _ _ 30 rfl (w1.heap.size + 1) 5 i0 (.int .u8 0) 1 1 Try.underlying30 hi hz0 hz1 hz2 rfl (by decide) _ _ _ rfl (HO.out.alloc _) ⟨wr.heap.size, 0, none⟩ 1 1 [.int .u8 47] rfl rfl ?c1 ?c2 ?c3 ?c4 ?c5 ?_)
                case c1 => exact cell_one_new _ _ _
                case c2 => intro u hu; simp at hu; subst hu; rfl
                case c3 => unfold maxLen; omega
                case c4 => omega
                case c5 => simp; omega
                intro v1 w2 hown hgrow _
                have HO1 : Hid (w2.ownsRow (w1.heap.size + 1) 5 1 v1 (L + 1) (D ++ [.int .u8 47])) := hown
                have HB1 : Hid (Below (w1.heap.size + 1) (w1.alloc (.cells #[.bool true, .string bd, .slice (some ⟨g, 0, none⟩) N cap, .bool true, .int .i64 wc, .int .i64 pl] 25)) w2) := (HBY.out.alloc hysz _).grown hgrow (by simp; omega) (fun b hb => (HO.out.lt b hb).1)
                have hysz2 : w1.heap.size + 1 ≤ w2.heap.size := by have := HB1.out.size; simpa using this
                clear hown hgrow p2 cs
                have p2 : w2.cell? ⟨w1.heap.size, 2, none⟩ = some (.slice (some ⟨g, 0, none⟩) N cap) := (HB1.out.cell (p := ⟨w1.heap.size, 2, none⟩) (by simp)).trans (by simp)
                have cs : w2.cell? ⟨g, k, none⟩ = some (.string x) := (HB1.out.cell (p := ⟨g, k, none⟩) (by simp; omega)).trans ((World.cell?_alloc_lt _ _ _ hg2).trans ((HC.out k hlt).trans (by rw [HXX.out])))
                go_wp2_with (at_builtin; refine Lib.wpList_append_own_string _ rfl _ _ 30 9 rfl (w1.heap.size + 1) 5 i0 Try.underlying30 Try.underlying9 hi hz0 hz1 hz2 _ _ _ rfl HO1.out f rfl ?c6 ?c7 ?c8 ?_)
                case c6 => unfold maxLen; omega
                case c7 => omega
                case c8 => exact hysz2
                intro v' w3 hown hgrow _
                rw [HE.out.1, HE.out.2] at hown
                have HO2 : Hid (w3.ownsRow (w1.heap.size + 1) 5 1 v' (built T F (k + 1)).length (byteC (built T F (k + 1)))) := hown
                have HB2 : Hid (Below (w1.heap.size + 1) (w1.alloc (.cells #[.bool true, .string bd, .slice (some ⟨g, 0, none⟩) N cap, .bool true, .int .i64 wc, .int .i64 pl] 25)) w3) := HB1.out.grown hgrow hysz2 (fun b hb => (HO1.out.lt b hb).1)
                clear hown hgrow
                go_wp2
                go_roundg (N - (k + 1))
                case measure => omega
                case rel => exact ⟨k + 1, by omega, by go_num, HO2.out, by have := HE.out.2; omega, HB2.out, rfl⟩
              · have e43 : (x.toList == [43]) = false := by rw [hx, ofL_toList]; simpa using hS
                have HE : Hid (D ++ Value.int .u8 47 :: Lib.strCells x = byteC (built T F (k + 1)) ∧ L + 1 + x.size = (built T F (k + 1)).length) := by rw [hL, hD]; exact put_next T F k x hks (by omega) (by rw [hx]; unfold sub; rw [if_neg hS])
                clear hx hS hL hD
                go_wp2_with (at_builtin; refine wpList_append_own _ rfl _ _ 30 rfl (w1.heap.size + 1) 5 i0 (.int .u8 0) 1 1 Try.underlying30 hi hz0 hz1 hz2 rfl (by decide) _ _ _ rfl (HO.out.alloc _) ⟨wr.heap.size, 0, none⟩ 1 1 [.int .u8 47] rfl rfl ?d1 ?d2 ?d3 ?d4 ?d5 ?_)
                case d1 => exact cell_one_new _ _ _
                case d2 => intro u hu; simp at hu; subst hu; rfl
                case d3 => unfold maxLen; omega
                case d4 => omega
                case d5 => simp; omega
                intro v1 w2 hown hgrow _
                have HO1 : Hid (w2.ownsRow (w1.heap.size + 1) 5 1 v1 (L + 1) (D ++ [.int .u8 47])) := hown
                have HB1 : Hid (Below (w1.heap.size + 1) (w1.alloc (.cells #[.bool true, .string bd, .slice (some ⟨g, 0, none⟩) N cap, .bool true, .int .i64 wc, .int .i64 pl] 25)) w2) := (HBY.out.alloc hysz _).grown hgrow (by simp; omega) (fun b hb => (HO.out.lt b hb).1)
                have hysz2 : w1.heap.size + 1 ≤ w2.heap.size := by have := HB1.out.size; simpa using this
                clear hown hgrow p2 cs
                have p2 : w2.cell? ⟨w1.heap.size, 2, none⟩ = some (.slice (some ⟨g, 0, none⟩) N cap) := (HB1.out.cell (p := ⟨w1.heap.size, 2, none⟩) (by simp)).trans (by simp)
                have cs : w2.cell? ⟨g, k, none⟩ = some (.string x) := (HB1.out.cell (p := ⟨g, k, none⟩) (by simp; omega)).trans ((World.cell?_alloc_lt _ _ _ hg2).trans ((HC.out k hlt).trans (by rw [HXX.out])))
                go_wp2_with (at_builtin; refine Lib.wpList_append_own_string _ rfl _ _ 30 9 rfl (w1.heap.size + 1) 5 i0 Try.underlying30 Try.underlying9 hi hz0 hz1 hz2 _ _ _ rfl HO1.out x rfl ?d6 ?d7 ?d8 ?_)
                case d6 => unfold maxLen; omega
                case d7 => omega
                case d8 => exact hysz2
                intro v' w3 hown hgrow _
                rw [HE.out.1, HE.out.2] at hown
                have HO2 : Hid (w3.ownsRow (w1.heap.size + 1) 5 1 v' (built T F (k + 1)).length (byteC (built T F (k + 1)))) := hown
                have HB2 : Hid (Below (w1.heap.size + 1) (w1.alloc (.cells #[.bool true, .string bd, .slice (some ⟨g, 0, none⟩) N cap, .bool true, .int .i64 wc, .int .i64 pl] 25)) w3) := HB1.out.grown hgrow hysz2 (fun b hb => (HO1.out.lt b hb).1)
                clear hown hgrow
                go_wp2
                go_roundg (N - (k + 1))
                case measure => omega
                case rel => exact ⟨k + 1, by omega, by go_num, HO2.out, by have := HE.out.2; omega, HB2.out, rfl⟩
          · obtain rfl : k = N := by omega
            have hfin : built T F k = joinB ((segs T).map (sub F)) := by rw [HN.out]; exact built_all T F
            have HPU : Hid (byteC (built T F k) ++ Lib.strCells u = byteC (pathOf T F U) ∧ (built T F k).length + u.size = (pathOf T F U).length) := by
              show _ ∧ _
              rw [hfin]
              unfold pathOf
              rw [← HGL.out, HU.out, strCells_ofL, ofL_size, if_pos rfl, byteC_append, List.length_append]
              exact ⟨rfl, rfl⟩
            have HOB := HO
            have hlenB := hlen
            obtain ⟨L, hL⟩ : ∃ L, L = (built T F k).length := ⟨_, rfl⟩
            obtain ⟨D, hD⟩ : ∃ D, D = byteC (built T F k) := ⟨_, rfl⟩
            rw [← hL, ← hD] at HOB HPU
            rw [← hL] at hlenB
            clear hfin hL hD HO hlen
            go_wp2_with (at_builtin; refine Lib.wpList_append_own_string _ rfl _ _ 30 9 rfl (w1.heap.size + 1) 5 i0 Try.underlying30 Try.underlying9 hi hz0 hz1 hz2 _ _ _ rfl HOB.out u rfl ?e1 ?e2 ?e3 ?_)
            case e1 => unfold maxLen; omega
            case e2 => omega
            case e3 => exact hysz
            intro v' w4 hown hgrow _
            rw [HPU.out.1, HPU.out.2] at hown
            have HO : Hid (w4.ownsRow (w1.heap.size + 1) 5 1 v' (pathOf T F U).length (byteC (pathOf T F U))) := hown
            have HB4 : Hid (Below (w1.heap.size + 1) (w1.alloc (.cells #[.bool true, .string bd, .slice (some ⟨g, 0, none⟩) k cap, .bool true, .int .i64 wc, .int .i64 pl] 25)) w4) := HBY.out.grown hgrow hysz (fun b hb => (HOB.out.lt b hb).1)
            clear hown hgrow p0 p2 p3
            have p0 : w4.cell? ⟨w1.heap.size, 0, none⟩ = some (.bool true) := (HB4.out.cell (p := ⟨w1.heap.size, 0, none⟩) (by simp)).trans (by simp)
            have p3 : w4.cell? ⟨w1.heap.size, 3, none⟩ = some (.bool true) := (HB4.out.cell (p := ⟨w1.heap.size, 3, none⟩) (by simp)).trans (by simp)
            have HBW : Hid (Below w.heap.size w w4) := (HB.out.alloc hw1 _).trans (HB4.out.mono (by omega))
            obtain ⟨ps, hps⟩ : ∃ ps, ps = ofL (pathOf T F U) := ⟨_, rfl⟩
            have HPS : Hid (ps = ofL (pathOf T F U)) := hps
            have HLEN : Hid ((pathOf T F U).length ≤ 1099511627776) := by show _ ≤ _; have := HPU.out.2; omega
            have hcv : (convert 30 9 v').run Try.prog w4.drew = .ok (.string ps) w4.drew := conv_own (W := w4.drew) HPS.out HO.out
            clear hps hlenB
            have HZB : Hid (Calls Try.prog 10 #[.string t] w4.drew fun e w' => ∃ pb, e = .returned (.pointer (some ⟨pb, 0, none⟩)) ∧ Hid (Pat w' pb T) ∧ w'.cell? ⟨w1.heap.size, 0, none⟩ = some (.bool true) ∧ w'.cell? ⟨w1.heap.size, 3, none⟩ = some (.bool true) ∧ (convert 30 9 v').run Try.prog w' = .ok (.string ps) w' ∧ Hid (Below w.heap.size w w')) := by
              refine (zbuild_at T t HT.out HTL.out w4.drew).mono ?_
              rintro e w2 ⟨pb, rfl, hpb, hpat, hbel⟩
              exact ⟨pb, rfl, hpat, cell_kept (W := w4.drew) p0 hbel, cell_kept (W := w4.drew) p3 hbel, conv_own HPS.out (own_kept (W := w4.drew) HO.out hbel), HBW.out.drew.trans (hbel.mono HBW.out.size)⟩
            have HMR : Hid (matchB T (pathOf T F U) = false) := by
              have h1 := inst_no T U HPP.out HUE.out
              rw [← HFE.out] at h1
              exact h1
            go_wp2
            go_region_with (first
              | (go_at_call 10; refine HZB.out.mono ?_; rintro e w2 ⟨pb, rfl, hpat, p0', p3', hcv', HBE⟩)
              | (go_at_call 11; refine (matches_at T (pathOf T F U) _ HPS.out false HMR.out HTL.out HLEN.out _ _ hpat.out).mono ?_; rintro e w3 ⟨rfl, q3, rfl⟩))
            all_goals
              go_wp2
              all_goals
                go_ret
                exact ⟨rfl, below_drewN HBE.out _⟩
      · go_wp2
        go_ret
        exact ⟨rfl, (HB.out.alloc hw1 _)⟩
end Go.Proofs.Qxb6001440a
