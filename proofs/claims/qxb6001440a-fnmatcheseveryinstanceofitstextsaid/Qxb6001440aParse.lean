import Derived.Test.Qxb6001440aSplit
namespace Go.Proofs.Qxb6001440a
open Go.RowKit

/-- Does the text end in a star? -/
def globB (T : List UInt8) : Bool := decide (T.getLast? = some 42)
/-- The text without its closing star. -/
def body (T : List UInt8) : List UInt8 := if globB T then T.dropLast else T
def segs (T : List UInt8) : List (List UInt8) := splitB (body T)
def plus (T : List UInt8) : Nat := (segs T).count [43]

section
variable {w w' w2 : World} {b : Nat}
theorem gb_refl (w : World) (b : Nat) : w.grownBy w (some b) := ⟨rfl, rfl, rfl, Nat.le_refl _, fun _ _ _ => rfl⟩
theorem gb_trans (h : w.grownBy w' (some b)) (k : w'.grownBy w2 (some b)) : w.grownBy w2 (some b) :=
  ⟨k.os.trans h.os, k.tape.trans h.tape, k.output.trans h.output, Nat.le_trans h.size k.size, fun i hi hne => (k.block i (Nat.lt_of_lt_of_le hi h.size) hne).trans (h.block i hi hne)⟩
theorem gb_set (h : w.grownBy w' (some b)) (i : Nat) (v : Value) : w.grownBy (w'.setCell ⟨b, i, none⟩ v) (some b) :=
  gb_trans h ⟨rfl, rfl, rfl, by simp [World.setCell], fun k _ hne => Below.heap_setCell _ _ _ _ (fun e => hne (by rw [e]))⟩
theorem setCell_block {w : World} {b i : Nat} {C : Array Value} {t : TypeId} {v : Value} (h : w.heap[b]? = some (.cells C t (0, 0))) :
    (w.setCell ⟨b, i, none⟩ v).heap[b]? = some (.cells (C.setIfInBounds i v) t (0, 0)) := by
  have hlt := lt_of_block h
  have h' : w.heap[b] = .cells C t (0, 0) := by simpa [Array.getElem?_eq_getElem hlt] using h
  show (w.heap.modify b _)[b]? = _
  rw [Array.getElem?_eq_getElem (by simpa using hlt), Array.getElem_modify_self, h']
  rfl
end

theorem heap_at (w : World) (o : Obj) (n : Nat) (hn : n = w.heap.size) : (w.alloc o).heap[n]? = some o := by
  subst hn
  exact heap_alloc_new w o

/-- The parsed pattern in block P. -/
def PB (w : World) (P : Nat) (gl : Bool) (bd : ByteArray) (v : Value) (hp : Bool) (wc pl : Int) : Prop :=
  w.heap[P]? = some (.cells #[.bool gl, .string bd, v, .bool hp, .int .i64 wc, .int .i64 pl] 25 (0, 0))

section
variable {w : World} {P : Nat} {gl hp : Bool} {bd : ByteArray} {v : Value} {wc pl : Int}
theorem PB.c0 (h : PB w P gl bd v hp wc pl) : w.cell? ⟨P, 0, none⟩ = some (.bool gl) := by unfold PB at h; simp [World.cell?, h]
theorem PB.c1 (h : PB w P gl bd v hp wc pl) : w.cell? ⟨P, 1, none⟩ = some (.string bd) := by unfold PB at h; simp [World.cell?, h]
theorem PB.c2 (h : PB w P gl bd v hp wc pl) : w.cell? ⟨P, 2, none⟩ = some v := by unfold PB at h; simp [World.cell?, h]
theorem PB.c3 (h : PB w P gl bd v hp wc pl) : w.cell? ⟨P, 3, none⟩ = some (.bool hp) := by unfold PB at h; simp [World.cell?, h]
theorem PB.c4 (h : PB w P gl bd v hp wc pl) : w.cell? ⟨P, 4, none⟩ = some (.int .i64 wc) := by unfold PB at h; simp [World.cell?, h]
theorem PB.c5 (h : PB w P gl bd v hp wc pl) : w.cell? ⟨P, 5, none⟩ = some (.int .i64 pl) := by unfold PB at h; simp [World.cell?, h]
theorem PB.fr (h : PB w P gl bd v hp wc pl) (i : Nat) : w.frozen? ⟨P, i, none⟩ = false := by unfold PB at h; simp [World.frozen?, h]
theorem PB.s2 (h : PB w P gl bd v hp wc pl) (v' : Value) : PB (w.setCell ⟨P, 2, none⟩ v') P gl bd v' hp wc pl := by unfold PB at h ⊢; rw [setCell_block h]; rfl
theorem PB.s3 (h : PB w P gl bd v hp wc pl) (x : Bool) : PB (w.setCell ⟨P, 3, none⟩ (.bool x)) P gl bd v x wc pl := by unfold PB at h ⊢; rw [setCell_block h]; rfl
theorem PB.s4 (h : PB w P gl bd v hp wc pl) (x : Int) : PB (w.setCell ⟨P, 4, none⟩ (.int .i64 x)) P gl bd v hp x pl := by unfold PB at h ⊢; rw [setCell_block h]; rfl
theorem PB.s5 (h : PB w P gl bd v hp wc pl) (x : Int) : PB (w.setCell ⟨P, 5, none⟩ (.int .i64 x)) P gl bd v hp wc x := by unfold PB at h ⊢; rw [setCell_block h]; rfl
end

theorem PB.kept {w w' : World} {P Q : Nat} {gl hp : Bool} {bd : ByteArray} {v : Value} {wc pl : Int} (h : PB w P gl bd v hp wc pl) (hg : w.grownBy w' (some Q)) (hne : P ≠ Q) : PB w' P gl bd v hp wc pl := by
  unfold PB at h ⊢
  rw [hg.block P (lt_of_block h) (by simpa using hne)]
  exact h

theorem zsplit_at (L : List UInt8) (s : ByteArray) (hL : s = ofL L) (hs : L.length ≤ 65536) (w : World) :
    Calls Try.prog 17 #[.string s] w fun e w' => ∃ g cap, e = .returned (.slice (some ⟨g, 0, none⟩) (splitB L).length cap) ∧ w.heap.size ≤ g ∧ g < w'.heap.size ∧
      (∀ i, i < (splitB L).length → w'.cell? ⟨g, i, none⟩ = some (.string (ofL ((splitB L).getD i [])))) ∧ Below w.heap.size w w' := by
  subst hL
  exact zsplit_any L hs w

/-- The six zero cells. -/
def Zero25 (w : World) (R : Nat) : Prop := w.heap[R]? = some (.cells #[.bool false, .string ⟨#[]⟩, .slice none 0 0, .bool false, .int .i64 0, .int .i64 0] 25 (0, 0))

theorem Zero25.kept {w w' : World} {R Q : Nat} (h : Zero25 w R) (hg : w.grownBy w' (some Q)) (hne : R ≠ Q) : Zero25 w' R := by
  unfold Zero25 at h ⊢
  rw [hg.block R (lt_of_block h) (by simpa using hne)]
  exact h
theorem Zero25.fr {w : World} {R : Nat} (h : Zero25 w R) (i : Nat) : w.frozen? ⟨R, i, none⟩ = false := by unfold Zero25 at h; simp [World.frozen?, h]
theorem Zero25.cells {w : World} {R : Nat} (h : Zero25 w R) : w.cell? ⟨R, 0, none⟩ = some (.bool false) ∧ w.cell? ⟨R, 1, none⟩ = some (.string ⟨#[]⟩) ∧ w.cell? ⟨R, 2, none⟩ = some (.slice none 0 0) ∧ w.cell? ⟨R, 3, none⟩ = some (.bool false) ∧
    w.cell? ⟨R, 4, none⟩ = some (.int .i64 0) ∧ w.cell? ⟨R, 5, none⟩ = some (.int .i64 0) := by
  unfold Zero25 at h
  simp [World.cell?, h]

theorem get_ofL (T : List UInt8) (i : Nat) (h : i < (ofL T).size) : T[i]? = some (ofL T)[i] := by
  rw [List.getElem?_eq_getElem (by rwa [ofL_size] at h)]
  rfl
theorem last_of {T : List UInt8} {s : ByteArray} (hs : s = ofL T) (h : 0 < s.size) : T.getLast? = some s[s.size - 1] := by
  subst hs
  rw [List.getLast?_eq_getElem?, show T.length - 1 = (ofL T).size - 1 by rw [ofL_size]]
  exact get_ofL T _ (by omega)
theorem body_of {T : List UInt8} {s : ByteArray} (hs : s = ofL T) : s.extract 0 (s.size - 1) = ofL T.dropLast := by
  subst hs
  refine eq_ofL ?_
  rw [Lib.extract_data, ofL_data, ofL_size, List.dropLast_eq_take]
  simp
theorem glob_of {T : List UInt8} {s : ByteArray} (hs : s = ofL T) (h : 0 < s.size) : globB T = decide ((s[s.size - 1].toNat : Int) = 42) := by
  unfold globB
  rw [last_of hs h, decide_eq_decide]
  constructor
  · intro e
    rw [Option.some.inj e]
    rfl
  · intro e
    congr 1
    apply UInt8.toNat_inj.1
    have : (42 : UInt8).toNat = 42 := rfl
    omega

theorem split_len (l : List UInt8) : ∀ s ∈ splitB l, s.length ≤ l.length := by
  induction l with
  | nil => simp [splitB]
  | cons c l ih =>
    unfold splitB
    by_cases hc : c = 47
    · rw [if_pos hc]
      intro s hs
      rcases List.mem_cons.1 hs with rfl | hs
      · simp
      · have := ih s hs; simp; omega
    · rw [if_neg hc]
      cases hs : splitB l with
      | nil => intro s h; simp at h; subst h; simp
      | cons h r =>
        rw [hs] at ih
        intro s hm
        rcases List.mem_cons.1 hm with rfl | hm
        · have := ih h (by simp); simp; omega
        · have := ih s (by simp [hm]); simp; omega
theorem split_count (l : List UInt8) : (splitB l).length ≤ l.length + 1 := by
  induction l with
  | nil => simp [splitB]
  | cons c l ih =>
    unfold splitB
    split
    · simp; omega
    · split
      · simp
      · rename_i h; rw [h] at ih; simp at ih ⊢; omega

theorem count_take_succ (xs : List (List UInt8)) (k : Nat) (h : k < xs.length) : (xs.take (k + 1)).count [43] = (xs.take k).count [43] + (if xs.getD k [] = [43] then 1 else 0) := by
  rw [List.take_succ_eq_append_getElem h, List.count_append, List.getD_eq_getElem?_getD, List.getElem?_eq_getElem h]
  simp [List.count_singleton]

theorem getD_len (l : List UInt8) (n k : Nat) (hl : l.length ≤ n) : ((splitB l).getD k []).length ≤ n := by
  rw [List.getD_eq_getElem?_getD]
  rcases Nat.lt_or_ge k (splitB l).length with h | h
  · rw [List.getElem?_eq_getElem h]
    have := split_len l _ (List.getElem_mem h)
    exact Nat.le_trans this hl
  · rw [List.getElem?_eq_none h]; simp

end Go.Proofs.Qxb6001440a
