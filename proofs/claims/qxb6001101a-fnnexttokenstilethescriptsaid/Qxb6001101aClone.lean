import Derived.Test.Qxb6001101aScan
import Derived.Laws.CopyOwn
namespace Go.Proofs.Qxb6001101a
open Go.RowKit

theorem info5 : (Try.prog.info? 5).map (fun i => (i.zero, i.size, i.bytes)) = some (some (.int .u8 0), 1, 1) := by kernel_rfl

set_option maxRecDepth 20000 in
set_option maxHeartbeats 400000 in
theorem clone_nil (w : World) :
    Calls Try.prog 6 #[.slice none 0 0] w fun e w' => e = .returned (.slice none 0 0) ∧ w' = w := by
  have q22 : ∀ (w : World) (a : Option Addr) (n c n' c' : Nat), (binOp .eql 22 (.slice a n c) (.slice none n' c')).run Try.prog w = .ok (.bool a.isNone) w := fun w a n c n' c' => Lib.run_eql_slice_nil w _ _ a n c n' c' Try.underlying22
  go_enter Try.func6, Try.ntmps6
  go_wp2
  go_ret
  exact ⟨rfl, rfl⟩

set_option maxRecDepth 20000 in
set_option maxHeartbeats 400000 in
theorem clone_any (w : World) (x : Addr) (n c : Nat) (Z : Nat → Int) (hn : n ≤ 65536) (hs : ∀ i, i < n → w.cell? (x.add i) = some (.int .u8 (Z i))) :
    Calls Try.prog 6 #[.slice (some x) n c] w fun e w' => ∃ g, e = .returned (.slice (some ⟨g, 0, none⟩) n n) ∧ g < w'.heap.size ∧
      (∀ i, i < n → w'.cell? ⟨g, i, none⟩ = some (.int .u8 (Z i))) ∧ Below w.heap.size w w' := by
  have q22 : ∀ (w : World) (a : Option Addr) (n c n' c' : Nat), (binOp .eql 22 (.slice a n c) (.slice none n' c')).run Try.prog w = .ok (.bool a.isNone) w := fun w a n c n' c' => Lib.run_eql_slice_nil w _ _ a n c n' c' Try.underlying22
  obtain ⟨i0, hi, hz0, hz1, hz2⟩ := info_parts info5
  have HS : Hid (∀ i, i < n → w.cell? (x.add i) = some (.int .u8 (Z i))) := hs
  clear hs
  go_enter Try.func6, Try.ntmps6
  go_wp2_with (at_make; refine wpList_make_full _ rfl _ _ 22 rfl w.heap.size 5 i0 (.int .u8 0) 1 Try.underlying22 hi hz0 hz1 _ _ _ _ n rfl rfl rfl rfl ?c1 ?c2 ?c3 ?_)
  case c1 => rw [hz2]; omega
  case c2 => unfold maxLen; omega
  case c3 => omega
  intro w1 hown hgrow
  obtain ⟨cur, hcur, hsz⟩ : ∃ cur : Array Value, w1.heap[w.heap.size]? = some (.cells cur 5 (0, 0)) ∧ cur.size = n := by
    rcases hown.2 with ⟨hv, _⟩ | ⟨g, cap, cur, hv, _, hg, _, _, hsz, _⟩
    · simp at hv
    · simp only [Value.slice.injEq, Option.some.injEq, Addr.mk.injEq] at hv
      obtain ⟨⟨rfl, _⟩, _, rfl⟩ := hv
      exact ⟨cur, hg, by omega⟩
  obtain ⟨cur', rfl⟩ : ∃ cur' : List Value, cur = cur'.toArray := ⟨cur.toList, by simp⟩
  have hb1 : Below w.heap.size w w1 := (Below.refl _ _).grown hgrow (Nat.le_refl _) (fun k hk => by cases hk)
  have hsrc : ∀ j v, ((List.range n).map fun i => Value.int .u8 (Z i))[j]? = some v → w1.cell? (x.add j) = some v := by
    intro j v hj
    rw [List.getElem?_map] at hj
    rcases Nat.lt_or_ge j n with h | h
    · rw [List.getElem?_range h] at hj
      simp at hj
      subst hj
      exact hgrow.cell (HS.out j h) (by simp)
    · rw [List.getElem?_eq_none (by simpa using h)] at hj
      simp at hj
  obtain ⟨cs, hcs⟩ : ∃ cs, cs = (List.range n).map fun i => Value.int .u8 (Z i) := ⟨_, rfl⟩
  rw [← hcs] at hsrc
  have hlen : cs.length = n := by rw [hcs]; simp
  have h1 : ∀ v ∈ cs, v.oneCell' = true := by
    intro v hv
    rw [hcs] at hv
    simp at hv
    obtain ⟨a, _, rfl⟩ := hv
    rfl
  have HCS : Hid (cs = (List.range n).map fun i => Value.int .u8 (Z i)) := hcs
  have hsz' : cur'.length = n := by simpa using hsz
  have HSZ : Hid (cur'.length = n) := hsz'
  have HLEN : Hid (cs.length = n) := hlen
  have HSRC : Hid (∀ j v, cs[j]? = some v → w1.cell? (x.add j) = some v) := hsrc
  have H1 : Hid (∀ v ∈ cs, v.oneCell' = true) := h1
  have HC : Hid (w1.heap[w.heap.size]? = some (.cells cur'.toArray 5 (0, 0))) := hcur
  clear hcs hsz hsz' hlen hsrc h1 hcur hown hgrow
  go_wp2_with (refine wpList_copy_splice rfl _ _ 22 22 rfl 5 Try.underlying22 (by rw [hi]; simp [hz1]) _ _ _ _ _ _ rfl rfl w.heap.size 0 cur' 5 HC.out cs ?d1 ?d2 ?d3 H1.out w.heap.size w hb1 (Nat.le_refl _) ?_)
  case d1 => rw [HLEN.out]; simp
  case d2 => first | (intro _; exact ⟨rfl, x, rfl, HSRC.out⟩) | (intro _; exact HSRC.out) | exact fun _ => HSRC.out
  case d3 => rw [HLEN.out, HSZ.out]; omega
  intro w2 hblk hb2
  go_wp2
  go_ret
  have e1 := HLEN.out
  have e2 := HSZ.out
  have e3 : splice cur' 0 cs = cs := by
    unfold splice
    rw [List.drop_of_length_le (by omega)]
    simp
  have hblk' := hblk.out
  rw [e3] at hblk'
  refine ⟨w.heap.size, rfl, lt_of_block hblk', fun i hi => ?_, hb2⟩
  simp only [World.cell?, hblk', HCS.out]
  simp [hi]
end Go.Proofs.Qxb6001101a
