import Derived.Test.Qxb6001409aLeaf
import Derived.Deep.LoopGhost
import Derived.OneCell
namespace Go.Proofs.Qxb6001409a
open Go.RowKit

theorem info5 : (Try.prog.info? 5).map (fun i => (i.zero, i.size, i.bytes)) = some (some (.int .u8 0), 1, 1) := by kernel_rfl

/-- Block g is a row of n bytes, the first k of which are Z's. -/
def Row (w : World) (g n : Nat) (Z : Nat → Int) (k : Nat) : Prop :=
  ∃ cur : Array Value, w.heap[g]? = some (.cells cur 5 (0, 0)) ∧ cur.size = n ∧ ∀ i, i < k → cur[i]? = some (.int .u8 (Z i))

theorem Row.old {w : World} {g n k : Nat} {Z : Nat → Int} (h : Row w g n Z k) (i : Nat) (hi : i < n) : ∃ v, w.cell? ⟨g, i, none⟩ = some v := by
  obtain ⟨cur, hb, hs, _⟩ := h
  exact ⟨cur[i], by simp [World.cell?, hb, show i < cur.size by omega]⟩
theorem Row.fr {w : World} {g n k : Nat} {Z : Nat → Int} (h : Row w g n Z k) (i : Nat) : w.frozen? ⟨g, i, none⟩ = false := by
  obtain ⟨cur, hb, hs, _⟩ := h
  simp [World.frozen?, hb]
theorem Row.cell {w : World} {g n k : Nat} {Z : Nat → Int} (h : Row w g n Z k) (i : Nat) (hi : i < k) : w.cell? ⟨g, i, none⟩ = some (.int .u8 (Z i)) := by
  obtain ⟨cur, hb, hs, hc⟩ := h
  simp [World.cell?, hb, hc i hi]
theorem setCell_block {w : World} {b i : Nat} {C : Array Value} {t : TypeId} {v : Value} (h : w.heap[b]? = some (.cells C t (0, 0))) :
    (w.setCell ⟨b, i, none⟩ v).heap[b]? = some (.cells (C.setIfInBounds i v) t (0, 0)) := by
  have hlt := lt_of_block h
  have h' : w.heap[b] = .cells C t (0, 0) := by simpa [Array.getElem?_eq_getElem hlt] using h
  show (w.heap.modify b _)[b]? = _
  rw [Array.getElem?_eq_getElem (by simpa using hlt), Array.getElem_modify_self, h']
  rfl
theorem Row.step {w : World} {g n k : Nat} {Z : Nat → Int} (h : Row w g n Z k) (hk : k < n) : Row (w.setCell ⟨g, k, none⟩ (.int .u8 (Z k))) g n Z (k + 1) := by
  obtain ⟨cur, hb, hs, hc⟩ := h
  refine ⟨_, setCell_block hb, by simpa using hs, fun i hi => ?_⟩
  rw [Array.getElem?_setIfInBounds]
  by_cases e : k = i
  · subst e; simp [show k < cur.size by omega]
  · rw [if_neg e]; exact hc i (by omega)

set_option maxRecDepth 20000 in
set_option maxHeartbeats 400000 in
theorem clone_nil (w : World) :
    Calls Try.prog 18 #[.slice none 0 0] w fun e w' => e = .returned (.slice none 0 0) ∧ w' = w := by
  have q33 : ∀ (w : World) (a : Option Addr) (n c n' c' : Nat), (binOp .eql 33 (.slice a n c) (.slice none n' c')).run Try.prog w = .ok (.bool a.isNone) w := fun w a n c n' c' => Lib.run_eql_slice_nil w _ _ a n c n' c' Try.underlying33
  go_enter Try.func18, Try.ntmps18
  go_wp2
  go_ret
  exact ⟨rfl, rfl⟩

set_option maxRecDepth 20000 in
set_option maxHeartbeats 400000 in
theorem clone_any (w : World) (x : Addr) (n c : Nat) (Z : Nat → Int) (hn : n ≤ 1048576) (hs : ∀ i, i < n → w.cell? (x.add i) = some (.int .u8 (Z i))) :
    Calls Try.prog 18 #[.slice (some x) n c] w fun e w' => ∃ g, e = .returned (.slice (some ⟨g, 0, none⟩) n n) ∧ g < w'.heap.size ∧
      (∀ i, i < n → w'.cell? ⟨g, i, none⟩ = some (.int .u8 (Z i))) ∧ Below w.heap.size w w' := by
  have q33 : ∀ (w : World) (a : Option Addr) (n c n' c' : Nat), (binOp .eql 33 (.slice a n c) (.slice none n' c')).run Try.prog w = .ok (.bool a.isNone) w := fun w a n c n' c' => Lib.run_eql_slice_nil w _ _ a n c n' c' Try.underlying33
  obtain ⟨i0, hi, hz0, hz1, hz2⟩ := info_parts info5
  have hpos : 0 < n → ∃ b off, x = ⟨b, off, none⟩ ∧ b < w.heap.size ∧ ∀ i, i < n → w.cell? ⟨b, off + i, none⟩ = some (.int .u8 (Z i)) := by
    intro hp
    obtain ⟨b, off, spot⟩ := x
    have hspot : spot = none := by simpa [Addr.add] using World.cell?_spot (hs 0 hp)
    subst hspot
    refine ⟨b, off, rfl, World.block_lt_of_cell? w _ (by simpa [Addr.add] using hs 0 hp), fun j hj => ?_⟩
    rw [← Go.WideShapes.add_plain]
    exact hs j hj
  have HP : Hid (0 < n → ∃ b off, x = ⟨b, off, none⟩ ∧ b < w.heap.size ∧ ∀ i, i < n → w.cell? ⟨b, off + i, none⟩ = some (.int .u8 (Z i))) := hpos
  clear hs hpos
  go_enter Try.func18, Try.ntmps18
  go_wp2_with (at_make; refine wpList_make_full _ rfl _ _ 33 rfl w.heap.size 5 i0 (.int .u8 0) 1 Try.underlying33 hi hz0 hz1 _ _ _ _ n rfl rfl rfl rfl ?c1 ?c2 ?c3 ?_)
  case c1 => rw [hz2]; omega
  case c2 => unfold maxLen; omega
  case c3 => omega
  intro w1 hown hgrow
  have hrow : Row w1 w.heap.size n Z 0 := by
    rcases hown.2 with ⟨hv, _⟩ | ⟨g, cap, cur, hv, _, hg, _, _, hsz, _⟩
    · simp at hv
    · simp only [Value.slice.injEq, Option.some.injEq, Addr.mk.injEq] at hv
      obtain ⟨⟨rfl, _⟩, _, rfl⟩ := hv
      exact ⟨cur, hg, by omega, fun i hi => absurd hi (Nat.not_lt_zero _)⟩
  have hb1 : Below w.heap.size w w1 := (Below.refl _ _).grown hgrow (Nat.le_refl _) (fun k hk => by cases hk)
  have HR : Hid (Row w1 w.heap.size n Z 0) := hrow
  have HB : Hid (Below w.heap.size w w1) := hb1
  clear hown hgrow hrow hb1
  go_wp2_with fail
  go_loopg [4] n (fun g i wr => ∃ k : Nat, k ≤ n ∧ i = .int .i64 k ∧ Hid (Row wr w.heap.size n Z k) ∧ Hid (Below w.heap.size w wr) ∧ g = n - k)
  case atStart => exact ⟨0, by omega, rfl, HR.out, HB.out, rfl⟩
  case round =>
    obtain ⟨k, hk, rfl, HR2, HB2, rfl⟩ := hrel
    by_cases hlt : k < n
    · obtain ⟨b, off, rfl, hbs, hc⟩ := HP.out (by omega)
      have cs : wr.cell? ⟨b, off + k, none⟩ = some (.int .u8 (Z k)) := (HB2.out.cell (p := ⟨b, off + k, none⟩) hbs).trans (hc k hlt)
      obtain ⟨v, hv⟩ := HR2.out.old k hlt
      have fr := HR2.out.fr k
      clear hc
      go_wp2
      go_roundg (n - (k + 1))
      case measure => omega
      case rel => exact ⟨k + 1, by omega, by go_num, HR2.out.step hlt, HB2.out.setCell (Nat.le_refl _) _, rfl⟩
    · obtain rfl : k = n := by omega
      go_wp2
      go_ret
      exact ⟨w.heap.size, rfl, by obtain ⟨cur, h, _⟩ := HR2.out; exact lt_of_block h, fun i hi => HR2.out.cell i hi, HB2.out⟩
end Go.Proofs.Qxb6001409a
