import Derived.Test.Qxb6001101aLeaf
import Derived.Deep.Draws
import Derived.OneCell
namespace Go.Proofs.Qxb6001101a
open Go.RowKit

/-- The scanner lies in block b: its source is block bs (n bytes, the numbers Z), it stands at p. -/
structure Sc (w : World) (b bs n : Nat) (Z : Nat → Int) (p : Nat) : Prop where
  blk : ∃ op : Bool, w.heap[b]? = some (.cells #[.slice (some ⟨bs, 0, none⟩) n n, .int .i64 (p : Int), .bool op, .int .i64 1, .int .i64 0] 31 (0, 0))
  lt : bs < b
  src : ∀ i, i < n → w.cell? ⟨bs, i, none⟩ = some (.int .u8 (Z i))

section
variable {w : World} {b bs n p : Nat} {Z : Nat → Int}

theorem Sc.c0 (h : Sc w b bs n Z p) : w.cell? ⟨b, 0, none⟩ = some (.slice (some ⟨bs, 0, none⟩) n n) := by
  obtain ⟨op, hb⟩ := h.blk
  simp [World.cell?, hb]
theorem Sc.c1 (h : Sc w b bs n Z p) : w.cell? ⟨b, 1, none⟩ = some (.int .i64 (p : Int)) := by
  obtain ⟨op, hb⟩ := h.blk
  simp [World.cell?, hb]
theorem Sc.c2 (h : Sc w b bs n Z p) : ∃ op : Bool, w.cell? ⟨b, 2, none⟩ = some (.bool op) := by
  obtain ⟨op, hb⟩ := h.blk
  exact ⟨op, by simp [World.cell?, hb]⟩
theorem Sc.fr (h : Sc w b bs n Z p) (i : Nat) : w.frozen? ⟨b, i, none⟩ = false := by
  obtain ⟨op, hb⟩ := h.blk
  simp [World.frozen?, hb]
theorem Sc.bound (h : Sc w b bs n Z p) : b < w.heap.size := by
  obtain ⟨op, hb⟩ := h.blk
  exact lt_of_block hb

theorem setCell_block {w : World} {b i : Nat} {C : Array Value} {t : TypeId} {v : Value} (h : w.heap[b]? = some (.cells C t (0, 0))) :
    (w.setCell ⟨b, i, none⟩ v).heap[b]? = some (.cells (C.setIfInBounds i v) t (0, 0)) := by
  have hlt := lt_of_block h
  have h' : w.heap[b] = .cells C t (0, 0) := by simpa [Array.getElem?_eq_getElem hlt] using h
  show (w.heap.modify b _)[b]? = _
  rw [Array.getElem?_eq_getElem (by simpa using hlt), Array.getElem_modify_self, h']
  rfl

theorem Sc.set1 (h : Sc w b bs n Z p) (q : Nat) : Sc (w.setCell ⟨b, 1, none⟩ (.int .i64 (q : Int))) b bs n Z q := by
  obtain ⟨⟨op, hb⟩, hlt, hs⟩ := h
  refine ⟨⟨op, ?_⟩, hlt, fun i hi => ?_⟩
  · rw [setCell_block hb]; rfl
  · rw [World.cell?_of_block (w := w) (a := ⟨bs, i, none⟩) (Below.heap_setCell _ _ _ _ (show bs ≠ b by omega))]
    exact hs i hi

theorem Sc.set1i (h : Sc w b bs n Z p) (z : Int) (q : Nat) (e : z = (q : Int)) : Sc (w.setCell ⟨b, 1, none⟩ (.int .i64 z)) b bs n Z q := by
  subst e
  exact h.set1 q

theorem Sc.set2 (h : Sc w b bs n Z p) (o : Bool) : Sc (w.setCell ⟨b, 2, none⟩ (.bool o)) b bs n Z p := by
  obtain ⟨⟨op, hb⟩, hlt, hs⟩ := h
  refine ⟨⟨o, ?_⟩, hlt, fun i hi => ?_⟩
  · rw [setCell_block hb]; rfl
  · rw [World.cell?_of_block (w := w) (a := ⟨bs, i, none⟩) (Below.heap_setCell _ _ _ _ (show bs ≠ b by omega))]
    exact hs i hi

theorem Sc.drewN (h : Sc w b bs n Z p) (k : Nat) : Sc (w.drewN k) b bs n Z p := ⟨h.blk, h.lt, h.src⟩
theorem Sc.drew (h : Sc w b bs n Z p) : Sc w.drew b bs n Z p := ⟨h.blk, h.lt, h.src⟩
theorem Sc.alloc (h : Sc w b bs n Z p) (o : Obj) : Sc (w.alloc o) b bs n Z p := by
  have hlt := h.bound
  obtain ⟨⟨op, hb⟩, hl, hs⟩ := h
  refine ⟨⟨op, ?_⟩, hl, fun i hi => ?_⟩
  · rw [Below.heap_alloc _ _ _ hlt]; exact hb
  · rw [World.cell?_alloc_lt _ _ _ (show bs < w.heap.size by omega)]; exact hs i hi

end

section
variable {w w' w2 : World} {b : Nat}
theorem gb_refl (w : World) (b : Nat) : w.grownBy w (some b) := ⟨rfl, rfl, rfl, Nat.le_refl _, fun _ _ _ => rfl⟩
theorem gb_trans (h : w.grownBy w' (some b)) (k : w'.grownBy w2 (some b)) : w.grownBy w2 (some b) :=
  ⟨k.os.trans h.os, k.tape.trans h.tape, k.output.trans h.output, Nat.le_trans h.size k.size, fun i hi hne => (k.block i (Nat.lt_of_lt_of_le hi h.size) hne).trans (h.block i hi hne)⟩
theorem gb_set (h : w.grownBy w' (some b)) (i : Nat) (v : Value) : w.grownBy (w'.setCell ⟨b, i, none⟩ v) (some b) :=
  gb_trans h ⟨rfl, rfl, rfl, by simp [World.setCell], fun k _ hne => Below.heap_setCell _ _ _ _ (fun e => hne (by rw [e]))⟩
theorem gb_drewN (h : w.grownBy w' (some b)) (k : Nat) : w.grownBy (w'.drewN k) (some b) := ⟨h.os, h.tape, h.output, h.size, h.block⟩
theorem gb_drew (h : w.grownBy w' (some b)) : w.grownBy w'.drew (some b) := ⟨h.os, h.tape, h.output, h.size, h.block⟩
theorem gb_alloc (h : w.grownBy w' (some b)) (o : Obj) : w.grownBy (w'.alloc o) (some b) :=
  gb_trans h (World.grownBy_alloc _ _ _)
end

end Go.Proofs.Qxb6001101a
