import Derived.Test.Qxb6001101aNextParts
import Derived.Test.Qxb6001101aShape
namespace Go.Proofs.Qxb6001101a
open Go.RowKit

theorem txt_size (Z : Nat → Int) (s e : Nat) : (txt Z s e).size = e - s := by
  unfold txt
  rw [strOfNums_size, seg_length]

theorem txt_get (Z : Nat → Int) (hZ : ∀ i, IsByte (Z i)) (s e i : Nat) (h : i < (txt Z s e).size) : (((txt Z s e)[i]).toNat : Int) = Z (s + i) := by
  have hi : i < e - s := by rw [txt_size] at h; exact h
  have e1 : (txt Z s e)[i] = UInt8.ofNat (Z (s + i)).toNat := by
    show (txt Z s e).data[i]'(by simpa using h) = _
    have : (txt Z s e).data.toList[i]? = some (UInt8.ofNat (Z (s + i)).toNat) := by
      unfold txt
      rw [strOfNums_data, List.getElem?_map, seg_get?, if_pos hi]
      rfl
    rw [← Array.getElem_toList]
    exact (List.getElem?_eq_some_iff.1 this).2
  rw [e1]
  obtain ⟨h1, h2⟩ := hZ (s + i)
  simp only [UInt8.toNat_ofNat']
  omega

theorem shape_any (w : World) (bs n s e : Nat) (Z : Nat → Int) (hZ : ∀ i, IsByte (Z i)) (hs : ∀ i, i < n → w.cell? ⟨bs, i, none⟩ = some (.int .u8 (Z i))) (hn : n ≤ 65536) (h1 : s < e) (h2 : e ≤ n) (wd : Bool) (h : Shape Z n s e wd) :
    Calls Try.prog 10 #[.slice (some ⟨bs, 0, none⟩) n n, .string (txt Z s e), .bool wd, .int .i64 e] w fun e w' => e = .returned (.bool true) ∧ w' = w := by
  have hsz := txt_size Z s e
  have h0 : 0 < (txt Z s e).size := by omega
  have g0 := txt_get Z hZ s e 0 h0
  rcases h with ⟨rfl, a1, a2, a3, a4⟩ | ⟨rfl, a⟩
  · refine shape_word w bs n e Z (txt Z s e) hs hn h0 (by omega) ?_ ?_ a3 ?_
    · rw [g0]; exact a1
    · intro i hi hi0
      rw [txt_get Z hZ s e i hi]
      exact a2 _ (by omega) (by omega)
    · intro b1 b2 b3 b4
      rw [g0] at b3
      exact a4 (by omega) b2 b3 b4
  · refine shape_other w _ e (txt Z s e) h0 (by omega) ?_
    rcases a with a | ⟨a1, a2, a3⟩
    · exact .inl (by rw [g0]; exact a)
    · refine .inr ⟨by omega, ?_, ?_⟩
      · rw [g0]; exact a2
      · rw [txt_get Z hZ s e 1 (by omega)]; exact a3
end Go.Proofs.Qxb6001101a
