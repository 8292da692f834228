import Derived.Test.Qxb6001440aLeaf
import Derived.OneCell
namespace Go.Proofs.Qxb6001440a
open Go.RowKit

theorem info9 : (Try.prog.info? 9).map (fun i => (i.zero, i.size, i.bytes)) = some (some (.string ⟨#[]⟩), 1, 16) := by kernel_rfl

/-- The pieces as cells. -/
def strs (xs : List (List UInt8)) : List Value := xs.map fun x => Value.string (ofL x)
theorem strs_snoc (xs : List (List UInt8)) (x : List UInt8) : strs (xs ++ [x]) = strs xs ++ [.string (ofL x)] := by simp [strs]

/-- Where the scan stands: 'done' are the pieces found, the rest begins at st, no slash from st to k. -/
structure Scan (L : List UInt8) (done : List (List UInt8)) (st k : Nat) : Prop where
  all : splitB L = done ++ splitB (L.drop st)
  le : done.length ≤ st
  stk : st ≤ k
  none : ∀ i, st ≤ i → i < k → L[i]? ≠ some 47

theorem Scan.hit {L : List UInt8} {done : List (List UInt8)} {st k : Nat} (h : Scan L done st k) (hk : L[k]? = some 47) : Scan L (done ++ [(L.drop st).take (k - st)]) (k + 1) (k + 1) := by
  have hst := h.stk
  refine ⟨?_, by have := h.le; simp; omega, Nat.le_refl _, fun i h1 h2 => by omega⟩
  have e := splitB_hit (L.drop st) (k - st) (fun i hi => by rw [List.getElem?_drop]; exact h.none (st + i) (by omega) (by omega)) (by rw [List.getElem?_drop, show st + (k - st) = k by omega]; exact hk)
  rw [h.all, e, List.drop_drop, show st + (k - st + 1) = k + 1 by omega]
  simp

theorem Scan.miss {L : List UInt8} {done : List (List UInt8)} {st k : Nat} (h : Scan L done st k) (hk : L[k]? ≠ some 47) : Scan L done st (k + 1) :=
  ⟨h.all, h.le, by have := h.stk; omega, fun i h1 h2 => by
    by_cases e : i = k
    · subst e; exact hk
    · exact h.none i h1 (by omega)⟩

theorem Scan.fin {L : List UInt8} {done : List (List UInt8)} {st k : Nat} (h : Scan L done st k) (hk : k = L.length) : splitB L = done ++ [L.drop st] := by
  rw [h.all, splitB_none (L.drop st) (fun i hi => ?_)]
  rw [List.getElem?_drop]
  rw [List.length_drop] at hi
  exact h.none (st + i) (by omega) (by omega)

set_option maxRecDepth 20000 in
set_option maxHeartbeats 1000000 in
theorem zsplit_any (L : List UInt8) (hs : L.length ≤ 65536) (w : World) :
    Calls Try.prog 17 #[.string (ofL L)] w fun e w' => ∃ g cap, e = .returned (.slice (some ⟨g, 0, none⟩) (splitB L).length cap) ∧ w.heap.size ≤ g ∧ g < w'.heap.size ∧
      (∀ i, i < (splitB L).length → w'.cell? ⟨g, i, none⟩ = some (.string (ofL ((splitB L).getD i [])))) ∧ Below w.heap.size w w' := by
  obtain ⟨i0, hi, hz0, hz1, hz2⟩ := info_parts info9
  have hsz : (ofL L).size = L.length := ofL_size L
  obtain ⟨n, hn⟩ : ∃ n, n = L.length := ⟨_, rfl⟩
  rw [← hn] at hsz hs
  have HN : Hid (n = L.length) := hn
  clear hn
  obtain ⟨s, hS⟩ : ∃ s, s = ofL L := ⟨_, rfl⟩
  rw [← hS] at hsz ⊢
  have HSD : Hid (s = ofL L) := hS
  clear hS
  have hs1 : s.size ≤ 65536 := by omega
  have HSZ : Hid (s.size = n) := hsz
  clear hsz
  go_enter Try.func17, Try.ntmps17
  go_wp2
  go_loopg [3, 4, 5] s.size (fun gh v a i wr => ∃ (k st : Nat) (done : List (List UInt8)), k ≤ s.size ∧ st ≤ k ∧ i = .int .i64 k ∧ a = .int .i64 st ∧ Hid (Scan L done st k) ∧
    Hid (wr.ownsRow w.heap.size 9 1 v done.length (strs done)) ∧ Hid (Below w.heap.size w wr) ∧ gh = s.size - k)
  case atStart => exact ⟨0, 0, [], by omega, by omega, rfl, rfl, ⟨rfl, Nat.le_refl _, Nat.le_refl _, fun i h1 h2 => by omega⟩, World.ownsRow_nil _ _ _ _, Below.refl _ _, rfl⟩
  case round =>
    obtain ⟨k, st, done, hk, hst, rfl, rfl, HS, HO, HB, rfl⟩ := hrel
    have hle := HS.out.le
    have hbsz := HB.out.size
    by_cases hlt : k < s.size
    · have hkL : k < L.length := by have := HSZ.out; have := HN.out; omega
      have hget : L[k]? = some s[k] := by
        have h1 : s[k] = (ofL L)[k]'(by rw [ofL_size]; exact hkL) := by congr 1 <;> simp [HSD.out]
        rw [h1, List.getElem?_eq_getElem hkL]
        rfl
      by_cases h47 : (s[k].toNat : Int) = 47
      · have hb : L[k]? = some 47 := by rw [hget]; congr 1; exact UInt8.toNat_inj.1 (by have : (47 : UInt8).toNat = 47 := rfl; omega)
        have HS2 : Hid (Scan L (done ++ [(L.drop st).take (k - st)]) (k + 1) (k + 1)) := HS.out.hit hb
        obtain ⟨X, hX⟩ : ∃ X, X = (L.drop st).take (k - st) := ⟨_, rfl⟩
        rw [← hX] at HS2
        have hex : s.extract st k = ofL X := eq_ofL (by rw [Lib.extract_data, HSD.out, ofL_data, hX])
        clear hget hb hX
        have hlen : (done ++ [X]).length = done.length + 1 := by simp
        have HLEN : Hid ((done ++ [X]).length = done.length + 1) := hlen
        clear hlen
        go_wp2_with (at_builtin; refine wpList_append_own _ rfl _ _ 23 rfl w.heap.size 9 i0 (.string ⟨#[]⟩) 1 16 Try.underlying23 hi hz0 hz1 hz2 rfl (by decide) _ _ _ rfl (HO.out.alloc _) ⟨wr.heap.size, 0, none⟩ 1 1 [.string (ofL X)] rfl rfl ?c1 ?c2 ?c3 ?c4 ?c5 ?_)
        case c1 => exact cell_one_new _ _ _
        case c2 => intro u hu; simp at hu; subst hu; rfl
        case c3 => unfold maxLen; omega
        case c4 => omega
        case c5 => simp; omega
        intro v' w1 hown hgrow _
        rw [← strs_snoc, ← HLEN.out] at hown
        have HO2 : Hid (w1.ownsRow w.heap.size 9 1 v' (done ++ [X]).length (strs (done ++ [X]))) := hown
        have HB2 : Hid (Below w.heap.size w w1) := (HB.out.alloc hbsz _).grown hgrow (by simp; omega) (fun g hg => (HO.out.lt g hg).1)
        clear hown hgrow
        go_wp2
        go_roundg (s.size - (k + 1))
        case measure => omega
        case rel => exact ⟨k + 1, k + 1, done ++ [X], by omega, by omega, by go_num, by go_num, HS2.out, HO2.out, HB2.out, rfl⟩
      · have e47 : ((s[k].toNat : Int) == 47) = false := by simpa using h47
        have HS2 : Hid (Scan L done st (k + 1)) := HS.out.miss (by rw [hget]; intro e; apply h47; have := Option.some.inj e; rw [this]; rfl)
        clear hget
        go_wp2
        go_roundg (s.size - (k + 1))
        case measure => omega
        case rel => exact ⟨k + 1, st, done, by omega, by omega, by go_num, rfl, HS2.out, HO.out, HB.out, rfl⟩
    · obtain rfl : k = s.size := by omega
      have hfin := HS.out.fin (by have := HSZ.out; have := HN.out; omega)
      obtain ⟨X, hX⟩ : ∃ X, X = L.drop st := ⟨_, rfl⟩
      rw [← hX] at hfin
      have hex : s.extract st s.size = ofL X := eq_ofL (by rw [Lib.extract_to_end, HSD.out, ofL_data, hX])
      have HF : Hid (splitB L = done ++ [X]) := hfin
      clear hfin hX
      go_wp2_with (at_builtin; refine wpList_append_own _ rfl _ _ 23 rfl w.heap.size 9 i0 (.string ⟨#[]⟩) 1 16 Try.underlying23 hi hz0 hz1 hz2 rfl (by decide) _ _ _ rfl (HO.out.alloc _) ⟨wr.heap.size, 0, none⟩ 1 1 [.string (ofL X)] rfl rfl ?d1 ?d2 ?d3 ?d4 ?d5 ?_)
      case d1 => exact cell_one_new _ _ _
      case d2 => intro u hu; simp at hu; subst hu; rfl
      case d3 => unfold maxLen; omega
      case d4 => omega
      case d5 => simp; omega
      intro v' w1 hown hgrow _
      have HB2 : Hid (Below w.heap.size w w1) := (HB.out.alloc hbsz _).grown hgrow (by simp; omega) (fun g hg => (HO.out.lt g hg).1)
      rw [← strs_snoc, ← HF.out] at hown
      have hlen : done.length + 1 = (splitB L).length := by rw [HF.out]; simp
      rw [hlen] at hown
      obtain ⟨g, cap, rfl, hg1, hg2, hcell⟩ : ∃ g cap, v' = .slice (some ⟨g, 0, none⟩) (splitB L).length cap ∧ w.heap.size ≤ g ∧ g < w1.heap.size ∧ ∀ i, i < (splitB L).length → w1.cell? ⟨g, i, none⟩ = some (.string (ofL ((splitB L).getD i []))) := by
        rcases hown.2 with ⟨_, h0⟩ | ⟨g, cap, cur, hv, hb, hh, _⟩
        · have := splitB_pos L; omega
        · subst hv
          refine ⟨g, cap, rfl, hb, lt_of_block hh, fun i hi => ?_⟩
          have := hown.cells (g := g) rfl i (.string (ofL ((splitB L).getD i []))) (by simp [strs, hi])
          rwa [Go.WideShapes.add_plain, Nat.zero_add] at this
      clear hown hgrow
      have HCELL : Hid (∀ i, i < (splitB L).length → w1.cell? ⟨g, i, none⟩ = some (.string (ofL ((splitB L).getD i [])))) := hcell
      clear hcell hlen
      go_wp2
      go_ret
      exact ⟨g, cap, rfl, hg1, hg2, HCELL.out, HB2.out⟩
end Go.Proofs.Qxb6001440a
