import Derived.Test.Qxb6001440aMainM
namespace Go.Proofs.Qxb6001440a
open Go.RowKit

set_option maxRecDepth 20000 in
set_option maxHeartbeats 8000000 in
theorem mainM_tpne (T F U : List UInt8) (hT : T.length ≤ 65536) (hF : F.length ≤ 65536) (hU : U.length ≤ 65536) (hG : globB T = true) (hP : 0 < plus T) (hU0 : U ≠ []) (hF0 : F = []) (w : World) :
    Calls Try.prog 4 #[.string (ofL T), .string (ofL F), .string (ofL U)] w fun e w' => e = .returned (.bool true) ∧ Below w.heap.size w w' := by
  have HG0 : Hid (globB T = true) := hG
  have HPP : Hid (0 < plus T) := hP
  clear hG hP
  have HUN : Hid (U ≠ []) := hU0
  clear hU0
  have HFE : Hid (F = []) := hF0
  clear hF0
  obtain ⟨i0, hi, hz0, hz1, hz2⟩ := info_parts info5
  have sT := ofL_size T
  have sF := ofL_size F
  have sU := ofL_size U
  have tF := ofL_toList F
  have tU := ofL_toList U
  obtain ⟨t, ht⟩ : ∃ t, t = ofL T := ⟨_, rfl⟩
  obtain ⟨f, hf⟩ : ∃ f, f = ofL F := ⟨_, rfl⟩
  obtain ⟨u, hu⟩ : ∃ u, u = ofL U := ⟨_, rfl⟩
  rw [← ht, ← hf, ← hu]
  rw [← ht] at sT
  rw [← hf] at sF tF
  rw [HFE.out] at tF
  rw [← hu] at sU tU
  have bT : t.size ≤ 65536 := by omega
  have bF : f.size ≤ 65536 := by omega
  have bU : u.size ≤ 65536 := by omega
  have HT : Hid (t = ofL T) := ht
  have HF : Hid (f = ofL F) := hf
  have HU : Hid (u = ofL U) := hu
  have HSF : Hid (f.size = F.length) := sF
  have HSU : Hid (u.size = U.length) := sU
  have HTL : Hid (T.length ≤ 65536) := hT
  clear ht hf hu sT sF sU hT hF hU
  go_enter Try.func4, Try.ntmps4
  go_wp2_with fail
  refine (zzBytesM _ _ _ (by omega) (by omega) (by omega) _).mono ?_
  rintro e w' ⟨v, rfl, hw⟩
  obtain rfl := hw.symm
  cases v
  · go_wp2
    go_ret
    exact ⟨rfl, Below.refl _ _⟩
  go_wp2_with fail
  go_loopg [7] f.size (fun gh i wr => ∃ k : Nat, k ≤ f.size ∧ i = .int .i64 k ∧ Hid (∀ i, i < k → F[i]? ≠ some 47) ∧ w = wr ∧ gh = f.size - k)
  case atStart => exact ⟨0, by omega, rfl, fun i hi => by omega, rfl, rfl⟩
  case round =>
    obtain ⟨k, hk, rfl, HK, rfl, rfl⟩ := hrel
    by_cases hlt : k < f.size
    · have hget : F[k]? = some f[k] := by
        have h1 : f[k] = (ofL F)[k]'(by rw [← HF.out]; exact hlt) := by congr 1 <;> simp [HF.out]
        rw [h1]
        exact get_ofL F k _
      by_cases h47 : (f[k].toNat : Int) = 47
      · go_wp2
        go_ret
        exact ⟨rfl, Below.refl _ _⟩
      · have e47 : ((f[k].toNat : Int) == 47) = false := by simpa using h47
        have HK2 : Hid (∀ i, i < k + 1 → F[i]? ≠ some 47) := fun i hi => by
          by_cases e : i = k
          · subst e; rw [hget]; intro e2; apply h47; rw [Option.some.inj e2]; rfl
          · exact HK.out i (by omega)
        clear hget
        go_wp2
        go_roundg (f.size - (k + 1))
        case measure => omega
        case rel => exact ⟨k + 1, by omega, by go_num, HK2.out, rfl, rfl⟩
    · obtain rfl : k = f.size := by omega
      have HNS : Hid ((47 : UInt8) ∉ F) := fun hm => by
        obtain ⟨i, hi⟩ := List.mem_iff_getElem?.1 hm
        have hlt2 := (List.getElem?_eq_some_iff.1 hi).1
        exact HK.out i (by have := HSF.out; omega) hi
      clear HK
      go_wp2_with fail
      rw [HT.out]
      refine (zparse_any T HTL.out _).mono ?_
      rintro e w1 ⟨g, cap, wc, rfl, hg1, hg2, hcell, hb1, _, _⟩
      rw [← HT.out]
      obtain ⟨N, hN⟩ : ∃ N, N = (segs T).length := ⟨_, rfl⟩
      rw [← hN] at hcell ⊢
      have hN1 : N ≤ 65537 := by
        have h1 := split_count (body T)
        have h2 : (body T).length ≤ T.length := by unfold body; split <;> simp
        have h3 := HTL.out
        rw [hN]
        unfold segs
        omega
      have HN : Hid (N = (segs T).length) := hN
      have HC : Hid (∀ i, i < N → w1.cell? ⟨g, i, none⟩ = some (.string (ofL ((segs T).getD i [])))) := hcell
      have HB : Hid (Below w.heap.size w w1) := hb1
      have hw1 := hb1.size
      clear hN hcell hb1
      obtain ⟨pl, hpl⟩ : ∃ pl, pl = plus T := ⟨_, rfl⟩
      rw [← hpl]
      have hpl1 : pl ≤ N := by rw [hpl]; unfold plus; rw [HN.out]; exact List.count_le_length
      have HPL : Hid (pl = plus T) := hpl
      obtain ⟨gl, hgl⟩ : ∃ gl, gl = globB T := ⟨_, rfl⟩
      rw [← hgl]
      have HGL : Hid (gl = globB T) := hgl
      clear hpl hgl
      obtain ⟨bd, hbd⟩ : ∃ bd, bd = ofL (body T) := ⟨_, rfl⟩
      rw [← hbd]
      clear hbd
      obtain rfl : gl = true := by rw [HGL.out]; exact HG0.out
      have h0 : 0 < pl := by rw [HPL.out]; exact HPP.out
      have hd : decide (0 < pl) = true := by simp; omega
      have hU1 : ¬ U = [] := HUN.out
      have hU2 : U.isEmpty = false := by simpa using hU1
      by_cases hq : (f.size : Int) ≤ 1048576 / (pl : Int)
      · go_wp2
        go_ret
        exact ⟨rfl, (HB.out.alloc hw1 _)⟩
      · go_wp2
        go_ret
        exact ⟨rfl, (HB.out.alloc hw1 _)⟩
end Go.Proofs.Qxb6001440a
