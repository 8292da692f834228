import Derived.Test.Qxb6001101aSpace
import Derived.Test.Qxb6001101aQuoted
import Derived.Test.Qxb6001101aDollar
import Derived.Laws.BytesArg
namespace Go.Proofs.Qxb6001101a
open Go.RowKit

/-- The token that 'next' hands back lies in block tb. -/
def Tk (w : World) (tb : Nat) : Prop := ∃ (s : ByteArray) (o : Bool), w.heap[tb]? = some (.cells #[.string s, .bool o] 33 (0, 0))

section
variable {w w' : World} {b tb : Nat}
theorem Tk.c0 (h : Tk w tb) : ∃ s : ByteArray, w.cell? ⟨tb, 0, none⟩ = some (.string s) := by
  obtain ⟨s, o, hb⟩ := h
  exact ⟨s, by simp [World.cell?, hb]⟩
theorem Tk.c1 (h : Tk w tb) : ∃ o : Bool, w.cell? ⟨tb, 1, none⟩ = some (.bool o) := by
  obtain ⟨s, o, hb⟩ := h
  exact ⟨o, by simp [World.cell?, hb]⟩
theorem Tk.fr (h : Tk w tb) (i : Nat) : w.frozen? ⟨tb, i, none⟩ = false := by
  obtain ⟨s, o, hb⟩ := h
  simp [World.frozen?, hb]
theorem Tk.grown (h : Tk w tb) (hg : w.grownBy w' (some b)) (hne : tb ≠ b) : Tk w' tb := by
  obtain ⟨s, o, hb⟩ := h
  exact ⟨s, o, by rw [hg.block tb (lt_of_block hb) (by simpa using hne)]; exact hb⟩
end

/-- The scanner stands as it stood where a cell of another block is written. -/
theorem Sc.other {w : World} {b bs n p : Nat} {Z : Nat → Int} (h : Sc w b bs n Z p) (tb i : Nat) (v : Value) (hb : b < tb) : Sc (w.setCell ⟨tb, i, none⟩ v) b bs n Z p := by
  obtain ⟨⟨op, hb⟩, hlt, hs⟩ := h
  refine ⟨⟨op, ?_⟩, hlt, fun i hi => ?_⟩
  · rw [Below.heap_setCell _ _ _ _ (show b ≠ tb by omega)]; exact hb
  · rw [World.cell?_of_block (w := w) (a := ⟨bs, i, none⟩) (Below.heap_setCell _ _ _ _ (show bs ≠ tb by omega))]
    exact hs i hi
theorem gb_new {w w' : World} {b : Nat} (h : w.grownBy w' (some b)) (tb i : Nat) (v : Value) (htb : w.heap.size ≤ tb) : w.grownBy (w'.setCell ⟨tb, i, none⟩ v) (some b) :=
  ⟨h.os, h.tape, h.output, by have := h.size; simpa [World.setCell] using this, fun k hk hne => by rw [Below.heap_setCell _ _ _ _ (show k ≠ tb by omega)]; exact h.block k hk hne⟩

/-- The text [s, e). -/
def txt (Z : Nat → Int) (s e : Nat) : ByteArray := strOfNums (seg Z s (e - s))

theorem run_txt {w : World} {b bs n p : Nat} {Z : Nat → Int} (h : Sc w b bs n Z p) (s e c q : Nat) (he : e ≤ n) :
    (convert 22 9 (.slice (some ⟨bs, s, none⟩) (e - s) c)).run Try.prog (w.drewN q) = .ok (.string (txt Z s e)) (w.drewN q) :=
  run_convert_bytes_arg (P := Try.prog) (w.drewN q) 22 5 Try.underlying22 Try.underlying5 bs s (e - s) c (seg Z s (e - s)) (seg_length _ _ _)
    (fun i hi => by rw [seg_getD _ _ _ _ hi]; exact h.src (s + i) (by omega)) 9 Try.underlying9

theorem run_txt1 {w : World} {b bs n p : Nat} {Z : Nat → Int} (h : Sc w b bs n Z p) (s c q : Nat) (he : s + 1 ≤ n) :
    (convert 22 9 (.slice (some ⟨bs, s, none⟩) 1 c)).run Try.prog (w.drewN q) = .ok (.string (txt Z s (s + 1))) (w.drewN q) := by
  have := run_txt h s (s + 1) c q he
  rwa [show s + 1 - s = 1 by omega] at this

/-- What the shape test of the law wants of a token [s, e). -/
def Shape (Z : Nat → Int) (n s e : Nat) (wd : Bool) : Prop :=
  (wd = true ∧ idStartB (Z s) = true ∧ (∀ i, s < i → i < e → idPartB (Z i) = true) ∧ (e < n → idPartB (Z e) = false) ∧ (e = s + 1 → e < n → (Z s = 101 ∨ Z s = 69) → Z e = 39 → False)) ∨
  (wd = false ∧ (idStartB (Z s) = false ∨ (s + 2 ≤ e ∧ (Z s = 101 ∨ Z s = 69) ∧ Z (s + 1) = 39)))

theorem not_going {d : Int} (h : ¬ (idPartB d = true ∨ d = 46)) : idPartB d = false ∧ (d == 46) = false := by
  constructor
  · cases h1 : idPartB d
    · rfl
    · exact absurd (.inl h1) h
  · simp
    exact fun h2 => h (.inr h2)
theorem going {d : Int} (h : idPartB d = true ∨ d = 46) : idPartB d = true ∨ (idPartB d = false ∧ d = 46) := by
  cases h1 : idPartB d
  · exact .inr ⟨rfl, h.resolve_left (by simp [h1])⟩
  · exact .inl rfl
theorem digit_part {c d : Int} {Z : Nat → Int} {p1 p2 : Nat} (hc : c = Z p1) (hd : d = Z p2) (h1 : 48 ≤ c) (h2 : c ≤ 57) (h : idPartB d = false) : p1 ≠ p2 := by
  rintro rfl
  have hcd : c = d := hc.trans hd.symm
  subst hcd
  unfold idPartB at h
  rw [decide_eq_false_iff_not] at h
  omega

theorem or32 (c : Int) (h : IsByte c) : (bits .or .u8 c 32 == 101) = decide (c = 101 ∨ c = 69) := by
  obtain ⟨h1, h2⟩ := h
  rw [u8_or c 32 h1 h2 (by omega) (by omega)]
  have key : ∀ n : Nat, n < 256 → ((((n ||| (32 : Int).toNat) : Nat) : Int) == 101) = decide ((n : Int) = 101 ∨ (n : Int) = 69) := by decide +kernel
  have := key c.toNat (by omega)
  rwa [show ((c.toNat : Nat) : Int) = c by omega] at this

theorem part_snoc {Z : Nat → Int} {p1 p2 : Nat} {d : Int} (h : ∀ i, p1 < i → i < p2 → idPartB (Z i) = true) (hd : d = Z p2) (hp : idPartB d = true) : ∀ i, p1 < i → i < p2 + 1 → idPartB (Z i) = true := by
  intro i h1 h2
  by_cases e : i = p2
  · subst e; rw [← hd]; exact hp
  · exact h i h1 (by omega)

theorem word_ways {c d : Int} {p1 p2 : Nat} (hc : IsByte c) (_h1 : p1 + 1 ≤ p2) (hE : ¬ (p2 = p1 + 1 ∧ (c = 101 ∨ c = 69) ∧ d = 39)) :
    ((p2 : Int) - (p1 : Int) == 1) = false ∨ (((p2 : Int) - (p1 : Int) == 1) = true ∧ (bits .or .u8 c 32 == 101) = false) ∨ (((p2 : Int) - (p1 : Int) == 1) = true ∧ (bits .or .u8 c 32 == 101) = true ∧ (d == 39) = false) := by
  by_cases a : p2 = p1 + 1
  · right
    have hq : ((p2 : Int) - (p1 : Int) == 1) = true := by simp; omega
    by_cases b : c = 101 ∨ c = 69
    · exact .inr ⟨hq, by rw [or32 c hc]; simpa using b, by simp; exact fun e => hE ⟨a, b, e⟩⟩
    · exact .inl ⟨hq, by rw [or32 c hc]; simpa using b⟩
  · left
    simp
    omega

theorem idPart_at (c : Int) (v : Bool) (h : idPartB c = v) (w : World) : Calls Try.prog 20 #[.int .u8 c] w fun e w' => e = .returned (.bool v) ∧ w' = w := by
  rw [← h]
  exact isIdentifierPart_any c w

end Go.Proofs.Qxb6001101a
