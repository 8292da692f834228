import Derived.Test.Qxb6001440aMatch
import Derived.Lib.AppendStr
namespace Go.Proofs.Qxb6001440a

theorem no_plus {T : List UInt8} (h : plus T = 0) : [43] ∉ segs T := by
  unfold plus at h
  exact List.count_eq_zero.1 h
theorem some_plus {T : List UInt8} (h : 0 < plus T) : [43] ∈ segs T := List.count_pos_iff.1 h

/-- The path that the law makes. -/
def pathOf (T F U : List UInt8) : List UInt8 := joinB ((segs T).map (sub F)) ++ (if globB T then U else [])

theorem inst_plain (T F U : List UInt8) (h : plus T = 0) : matchB T (pathOf T F U) = true := by
  unfold matchB pathOf
  rw [if_pos h, sub_same F _ (no_plus h)]
  have e : joinB (segs T) = body T := join_split (body T)
  rw [e]
  cases hg : globB T
  · rw [if_neg (by simp), if_neg (by simp), List.append_nil]
    have : body T = T := by unfold body; rw [hg]; rfl
    simp [this]
  · rw [if_pos rfl, if_pos rfl]
    exact hasPrefix_append _ _

theorem inst_yes (T F U : List UInt8) (h : 0 < plus T) (hF : (47 : UInt8) ∉ F) (hne : F ≠ []) : matchB T (pathOf T F U) = true := by
  unfold matchB pathOf
  rw [if_neg (by omega)]
  exact mt_yes (globB T) F _ hF hne (fun hg => by rw [hg]; rfl) (segs T) (splitB_ne _) (split_no_slash _)

theorem inst_no (T U : List UInt8) (h : 0 < plus T) (hU : globB T = true → U = []) : matchB T (pathOf T [] U) = false := by
  unfold matchB pathOf
  rw [if_neg (by omega)]
  have e : (if globB T = true then U else []) = [] := by
    cases hg : globB T
    · rfl
    · rw [hU hg]; rfl
  rw [e, List.append_nil]
  exact mt_no (globB T) (segs T) (some_plus h) (split_no_slash _)

theorem join_snoc (xs : List (List UInt8)) (x : List UInt8) (h : xs ≠ []) : joinB (xs ++ [x]) = joinB xs ++ 47 :: x := by
  induction xs with
  | nil => exact absurd rfl h
  | cons a r ih =>
    cases r with
    | nil => simp [joinB]
    | cons b r =>
      have := ih (by simp)
      simp only [List.cons_append] at this ⊢
      simp [joinB, this]

/-- What the loop has built behind k pieces. -/
def built (T F : List UInt8) (k : Nat) : List UInt8 := joinB (((segs T).take k).map (sub F))
theorem built_zero (T F : List UInt8) : built T F 0 = [] := rfl
theorem built_one (T F : List UInt8) (h : 0 < (segs T).length) : built T F 1 = sub F ((segs T).getD 0 []) := by
  unfold built
  cases hs : segs T with
  | nil => rw [hs] at h; simp at h
  | cons a r => simp [joinB]
theorem built_succ (T F : List UInt8) (k : Nat) (hk : k < (segs T).length) (h0 : 0 < k) : built T F (k + 1) = built T F k ++ 47 :: sub F ((segs T).getD k []) := by
  unfold built
  rw [List.take_succ_eq_append_getElem hk, List.map_append, List.map_cons, List.map_nil, join_snoc _ _ (by
    intro e
    have := congrArg List.length e
    rw [List.length_map, List.length_take, List.length_nil] at this
    omega), List.getD_eq_getElem?_getD, List.getElem?_eq_getElem hk]
  rfl
theorem built_all (T F : List UInt8) : built T F (segs T).length = joinB ((segs T).map (sub F)) := by unfold built; rw [List.take_length]

/-- Bytes as cells. -/
def byteC (l : List UInt8) : List Value := l.map fun b => Value.int .u8 (b.toNat : Int)
theorem byteC_append (a b : List UInt8) : byteC (a ++ b) = byteC a ++ byteC b := by simp [byteC]
theorem byteC_length (a : List UInt8) : (byteC a).length = a.length := by simp [byteC]
theorem strCells_ofL (l : List UInt8) : Lib.strCells (ofL l) = byteC l := rfl

/-- The first piece goes in. -/
theorem put_first (T F : List UInt8) (x : ByteArray) (h : 0 < (segs T).length) (hx : x = ofL (sub F ((segs T).getD 0 []))) :
    Lib.strCells x = byteC (built T F 1) ∧ x.size = (built T F 1).length := by
  rw [built_one T F h, hx, strCells_ofL, ofL_size]
  exact ⟨rfl, rfl⟩
/-- A slash and the next piece go in. -/
theorem put_next (T F : List UInt8) (k : Nat) (x : ByteArray) (hk : k < (segs T).length) (h0 : 0 < k) (hx : x = ofL (sub F ((segs T).getD k []))) :
    byteC (built T F k) ++ Value.int .u8 47 :: Lib.strCells x = byteC (built T F (k + 1)) ∧ (built T F k).length + 1 + x.size = (built T F (k + 1)).length := by
  rw [built_succ T F k hk h0, hx, strCells_ofL, ofL_size]
  constructor
  · rw [byteC_append]
    rfl
  · simp
    omega

end Go.Proofs.Qxb6001440a
