import Derived.Test.Qxb6001440aPlain
import Derived.Test.Qxb6001440aShelfA
import Derived.WalkKit
import Derived.WalkSpells
import Derived.WalkLawsBesides
import Derived.Deep.LoopGhost
import Derived.Deep.QuietTactic
import Derived.BigQuiet
import Derived.Deep.Draws
namespace Go.Proofs.Qxb6001440a
open Go.RowKit

/-- A list of bytes as a string. -/
def ofL (l : List UInt8) : ByteArray := ⟨l.toArray⟩
theorem ofL_data (l : List UInt8) : (ofL l).data.toList = l := rfl
theorem ofL_toList (l : List UInt8) : (ofL l).toList = l := by rw [Lib.toList_data]; rfl
theorem ofL_size (l : List UInt8) : (ofL l).size = l.length := by rw [Lib.size_eq]; rfl
theorem ofL_of (s : ByteArray) : ofL s.data.toList = s := rfl
theorem eq_ofL {s : ByteArray} {l : List UInt8} (h : s.data.toList = l) : s = ofL l := by rw [← h]; rfl

theorem cut_index_none {l : List UInt8} (h : Lib.indexByte l 47 = -1) : cutB l = (l, [], false) := by
  refine cut_none l fun hm => ?_
  obtain ⟨i, hi⟩ := List.mem_iff_getElem?.1 hm
  exact Lib.indexByte_none h i hi

theorem cut_index_some {l : List UInt8} {o : Nat} (h : Lib.indexByte l 47 = o) : o < l.length ∧ cutB l = (l.take o, l.drop (o + 1), true) := by
  obtain ⟨h1, h2⟩ := Lib.indexByte_some h
  have ho : o < l.length := (List.getElem?_eq_some_iff.1 h1).1
  refine ⟨ho, ?_⟩
  have e : l = l.take o ++ 47 :: l.drop (o + 1) := by
    have := (List.getElem?_eq_some_iff.1 h1).2
    rw [← this]
    simp
  have hn : (47 : UInt8) ∉ l.take o := fun hm => by
    obtain ⟨i, hi⟩ := List.mem_iff_getElem?.1 hm
    rw [List.getElem?_take] at hi
    split at hi
    · exact h2 i ‹_› hi
    · simp at hi
  conv => lhs; rw [e]
  exact cut_append _ _ hn

set_option maxRecDepth 20000 in
set_option maxHeartbeats 400000 in
theorem lcut_any (l : List UInt8) (hl : l.length ≤ 9223372036854775806) (w : World) :
    Calls Try.prog 24 #[.string (ofL l), .string ⟨#[47]⟩] w fun e w' => e = .returned (.tuple #[.string (ofL (cutB l).1), .string (ofL (cutB l).2.1), .bool (cutB l).2.2]) ∧ ∃ q, w' = w.drewN q := by
  have hsz := ofL_size l
  by_cases h : Lib.indexByte l 47 = -1
  · rw [cut_index_none h]
    have hd : (ofL l).data.toList = l := rfl
    have HC : Hid (Calls Try.prog 25 #[.string (ofL l), .string ⟨#[47]⟩] w fun e w' => e = .returned (.int .i64 (-1)) ∧ w' = w) := by
      have := Try.stringslite_Index_one (ofL l) 47 w
      rw [hd, h] at this
      exact this
    clear hd h hsz
    go_enter Try.func24, Try.ntmps24
    go_wp2_with fail
    refine HC.out.mono ?_
    rintro e w' ⟨rfl, hw⟩
    obtain rfl := hw.symm
    go_wp2
    go_ret3
    exact ⟨rfl, 0, rfl⟩
  · obtain ⟨o, ho⟩ : ∃ o : Nat, Lib.indexByte l 47 = o := ⟨(Lib.indexByte l 47).toNat, by have := Lib.indexByte_ge l 47; omega⟩
    obtain ⟨hlt, hc⟩ := cut_index_some ho
    rw [hc]
    have hd : (ofL l).data.toList = l := rfl
    have HC : Hid (Calls Try.prog 25 #[.string (ofL l), .string ⟨#[47]⟩] w fun e w' => e = .returned (.int .i64 (o : Int)) ∧ w' = w) := by
      have := Try.stringslite_Index_one (ofL l) 47 w
      rw [hd, ho] at this
      exact this
    have E1 : (ofL l).extract 0 o = ofL (l.take o) := eq_ofL (by rw [Lib.extract_data, hd]; simp)
    have E2 : (ofL l).extract (o + 1) l.length = ofL (l.drop (o + 1)) := eq_ofL (by rw [Lib.extract_data, hd, List.take_of_length_le (by simp)])
    obtain ⟨A, hA⟩ : ∃ A, A = ofL (l.take o) := ⟨_, rfl⟩
    obtain ⟨B, hB⟩ : ∃ B, B = ofL (l.drop (o + 1)) := ⟨_, rfl⟩
    rw [← hA] at E1
    rw [← hB] at E2
    have e3 : (o : Int) + 1 ≤ (l.length : Int) := by omega
    have e4 : ((o : Int) + 1).toNat = o + 1 := by omega
    have e5 : (0 : Int) ≤ (o : Int) + 1 := by omega
    show Calls _ _ _ _ fun e w' => e = .returned (.tuple #[.string (ofL (l.take o)), .string (ofL (l.drop (o + 1))), .bool true]) ∧ ∃ q, w' = w.drewN q
    rw [← hA, ← hB]
    clear hd h ho hc hA hB
    go_enter Try.func24, Try.ntmps24
    go_wp2_with fail
    refine HC.out.mono ?_
    rintro e w' ⟨rfl, hw⟩
    obtain rfl := hw.symm
    go_wp2
    go_quiet (fail)
    go_wp2
    go_ret3
    exact ⟨rfl, _, rfl⟩

theorem cut_any (l : List UInt8) (hl : l.length ≤ 9223372036854775806) (w : World) :
    Calls Try.prog 22 #[.string (ofL l), .string ⟨#[47]⟩] w fun e w' => e = .returned (.tuple #[.string (ofL (cutB l).1), .string (ofL (cutB l).2.1), .bool (cutB l).2.2]) ∧ ∃ q, w' = w.drewN q := by
  go_enter Try.func22, Try.ntmps22
  go_wp2_with fail
  refine (lcut_any l hl _).mono ?_
  rintro e w' ⟨rfl, q, rfl⟩
  go_wp2
  go_ret3
  exact ⟨rfl, _, rfl⟩
end Go.Proofs.Qxb6001440a
