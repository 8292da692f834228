import Derived.Test.Qxb6001409aLeaf
import Derived.Lib.Builder
namespace Go.Proofs.Qxb6001409a

/-- The byte of a hexadecimal digit. -/
def hexd (n : Nat) : UInt8 := UInt8.ofNat (if n < 10 then 48 + n else 55 + n)
/-- One byte, escaped. -/
def esc (c : UInt8) : List UInt8 := if unresB (c.toNat : Int) then [c] else [37, hexd (c.toNat / 16), hexd (c.toNat % 16)]
def escAll (l : List UInt8) : List UInt8 := l.flatMap esc

theorem hexd_val (n : Nat) (h : n < 16) : ((hexd n).toNat : Int) = hexI (n : Int) := by
  unfold hexd hexI
  by_cases h1 : n < 10
  · rw [if_pos h1, if_pos (by omega)]
    simp only [UInt8.toNat_ofNat']
    omega
  · rw [if_neg h1, if_neg (by omega)]
    simp only [UInt8.toNat_ofNat']
    omega

theorem esc_len (c : UInt8) : (esc c).length ≤ 3 := by unfold esc; split <;> simp
theorem esc_pos (c : UInt8) : 1 ≤ (esc c).length := by unfold esc; split <;> simp
theorem escAll_nil : escAll [] = [] := rfl
theorem escAll_append (a b : List UInt8) : escAll (a ++ b) = escAll a ++ escAll b := by simp [escAll]
theorem escAll_one (c : UInt8) : escAll [c] = esc c := by simp [escAll]
theorem take_snoc (l : List UInt8) (k : Nat) (h : k < l.length) : l.take (k + 1) = l.take k ++ [l.getD k 0] := by
  rw [List.take_succ_eq_append_getElem h, List.getD_eq_getElem?_getD, List.getElem?_eq_getElem h]
  rfl
theorem escAll_take (l : List UInt8) (k : Nat) (h : k < l.length) : escAll (l.take (k + 1)) = escAll (l.take k) ++ esc (l.getD k 0) := by
  rw [take_snoc l k h, escAll_append, escAll_one]
theorem escAll_le (l : List UInt8) : (escAll l).length ≤ 3 * l.length := by
  induction l with
  | nil => simp [escAll]
  | cons c l ih =>
    have := esc_len c
    show (esc c ++ escAll l).length ≤ _
    rw [List.length_append, List.length_cons]
    omega
theorem escAll_split (l : List UInt8) (k : Nat) (h : k < l.length) : escAll l = escAll (l.take k) ++ (esc (l.getD k 0) ++ escAll (l.drop (k + 1))) := by
  conv => lhs; rw [← List.take_append_drop (k + 1) l]
  rw [escAll_append, escAll_take l k h, List.append_assoc]

theorem byteCells_append (a b : List UInt8) : Lib.byteCells (a ++ b) = Lib.byteCells a ++ Lib.byteCells b := by simp [Lib.byteCells]
theorem byteCells_length (a : List UInt8) : (Lib.byteCells a).length = a.length := by simp [Lib.byteCells]

end Go.Proofs.Qxb6001409a
