import Derived.Test.Qxb6001440aParse
namespace Go.Proofs.Qxb6001440a
open Go.RowKit

/-- The pattern of the text T in block pb. -/
structure Pat (w : World) (pb : Nat) (T : List UInt8) : Prop where
  lt : pb < w.heap.size
  c0 : w.cell? ⟨pb, 0, none⟩ = some (.string (ofL T))
  c1 : w.cell? ⟨pb, 1, none⟩ = some (.bool (globB T))
  c2 : (plus T = 0 ∧ w.cell? ⟨pb, 2, none⟩ = some (.slice none 0 0)) ∨
    (0 < plus T ∧ ∃ g cap, g < w.heap.size ∧ w.cell? ⟨pb, 2, none⟩ = some (.slice (some ⟨g, 0, none⟩) (segs T).length cap) ∧ ∀ i, i < (segs T).length → w.cell? ⟨g, i, none⟩ = some (.string (ofL ((segs T).getD i []))))
  c3 : ∃ wc, w.cell? ⟨pb, 3, none⟩ = some (.int .i64 wc) ∧ ((0 < plus T ∨ globB T = true) → 0 ≤ wc) ∧ (plus T = 0 → globB T = false → wc = -1)
  c4 : w.cell? ⟨pb, 4, none⟩ = some (.int .i64 (plus T : Int))

theorem Pat.kept {w w' : World} {pb : Nat} {T : List UInt8} (h : Pat w pb T) (hb : Below w.heap.size w w') : Pat w' pb T := by
  have c : ∀ {p : Addr} {v : Value}, w.cell? p = some v → w'.cell? p = some v := fun {p} {v} hc => (hb.cell (World.block_lt_of_cell? w p hc)).trans hc
  obtain ⟨wc, h3, h3'⟩ := h.c3
  refine ⟨Nat.lt_of_lt_of_le h.lt hb.size, c h.c0, c h.c1, ?_, ⟨wc, c h3, h3'⟩, c h.c4⟩
  rcases h.c2 with ⟨a, b⟩ | ⟨a, g, cap, d, e, f⟩
  · exact .inl ⟨a, c b⟩
  · exact .inr ⟨a, g, cap, Nat.lt_of_lt_of_le d hb.size, c e, fun i hi => c (f i hi)⟩

set_option maxRecDepth 20000 in
theorem newPattern_any (t : ByteArray) (gl : Bool) (a : Option Addr) (n c : Nat) (wc pl : Int) (w : World) :
    Calls Try.prog 18 #[.string t, .bool gl, .slice a n c, .int .i64 wc, .int .i64 pl] w fun e w' => e = .returned (.pointer (some ⟨w.heap.size, 0, none⟩)) ∧ w' = w.alloc (.cells #[.string t, .bool gl, .slice a n c, .int .i64 wc, .int .i64 pl] 38) := by
  go_enter Try.func18, Try.ntmps18
  go_wp2
  go_ret
  exact ⟨rfl, rfl⟩
end Go.Proofs.Qxb6001440a
