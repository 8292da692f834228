import Derived.Test.Qxb6001409aPlain
import Derived.Test.Qxb6001409aShelfA
import Derived.Test.Qxb6001409aShelfB
import Derived.Deep.LoopGhost
import Derived.Deep.Draws
namespace Go.Proofs.Qxb6001409a
open Go.RowKit

theorem index_plain (c : Int) (h0 : 0 ≤ c) (h1 : c < 256) : 0 ≤ Lib.indexByte [45, 46, 95, 126] c.toNat.toUInt8 ↔ (c = 45 ∨ c = 46 ∨ c = 95 ∨ c = 126) := by
  have key : ∀ n : Nat, n < 256 → decide (0 ≤ Lib.indexByte [45, 46, 95, 126] n.toUInt8) = decide ((n : Int) = 45 ∨ (n : Int) = 46 ∨ (n : Int) = 95 ∨ (n : Int) = 126) := by decide +kernel
  have := key c.toNat (by omega)
  have e : ((c.toNat : Nat) : Int) = c := by omega
  rw [e] at this
  rwa [decide_eq_decide] at this

theorem index_special (c : Int) (h0 : 0 ≤ c) (h1 : c < 256) (w : World) :
    Calls Try.prog 28 #[.string ⟨#[45, 46, 95, 126]⟩, .int .u8 c] w fun e w' => ∃ r : Int, e = .returned (.int .i64 r) ∧ (0 ≤ r ↔ (c = 45 ∨ c = 46 ∨ c = 95 ∨ c = 126)) ∧ w' = w := by
  refine (Try.strings_IndexByte _ c w).mono ?_
  rintro e w' ⟨rfl, rfl⟩
  exact ⟨_, rfl, index_plain c h0 h1, rfl⟩

theorem hexget (n : Nat) (h : n < (⟨#[48, 49, 50, 51, 52, 53, 54, 55, 56, 57, 65, 66, 67, 68, 69, 70]⟩ : ByteArray).size) : (⟨#[48, 49, 50, 51, 52, 53, 54, 55, 56, 57, 65, 66, 67, 68, 69, 70]⟩ : ByteArray)[n] = hexd n := by
  have h' : n < 16 := h
  have key : ∀ n : Fin 16, (⟨#[48, 49, 50, 51, 52, 53, 54, 55, 56, 57, 65, 66, 67, 68, 69, 70]⟩ : ByteArray)[n.1]'n.2 = hexd n.1 := by decide
  exact key ⟨n, h'⟩

theorem esc_cells (l : List UInt8) (k : Nat) (h : k < l.length) (ch : UInt8) (hch : ch = l.getD k 0) (c : Int) (hc : c = (ch.toNat : Int)) (hun : unresB c = false) :
    Lib.byteCells (escAll (l.take k)) ++ [Value.int .u8 37] ++ [Value.int .u8 ((hexd (c / 16).toNat).toNat : Int)] ++ [Value.int .u8 ((hexd (c % 16).toNat).toNat : Int)] = Lib.byteCells (escAll (l.take (k + 1))) := by
  rw [escAll_take l k h, byteCells_append, ← hch]
  subst hc
  have e1 : ((ch.toNat : Int) / 16).toNat = ch.toNat / 16 := by omega
  have e2 : ((ch.toNat : Int) % 16).toNat = ch.toNat % 16 := by omega
  rw [e1, e2]
  simp [esc, hun, Lib.byteCells]

theorem unres_ways {c : Int} (h : unresB c = true) : ((97 ≤ c ∧ c ≤ 122) ∨ (65 ≤ c ∧ c ≤ 90) ∨ (48 ≤ c ∧ c ≤ 57)) ∨ (c = 45 ∨ c = 46 ∨ c = 95 ∨ c = 126) := by
  simp [unresB] at h
  omega
theorem res_ways {c : Int} (h : unresB c = false) : (c ≤ 44 ∨ (47 ≤ c ∧ c ≤ 47) ∨ (58 ≤ c ∧ c ≤ 64) ∨ (91 ≤ c ∧ c ≤ 94) ∨ (96 ≤ c ∧ c ≤ 96) ∨ (123 ≤ c ∧ c ≤ 125) ∨ 127 ≤ c) := by
  simp [unresB] at h
  omega

set_option maxRecDepth 20000 in
set_option maxHeartbeats 1000000 in
theorem escape_any (w : World) (g n c : Nat) (l : List UInt8) (hl : l.length = n) (hn : n ≤ 1048576) (hg : g < w.heap.size) (hs : ∀ i, i < n → w.cell? ⟨g, i, none⟩ = some (.int .u8 ((l.getD i 0).toNat : Int))) :
    Calls Try.prog 24 #[.slice (some ⟨g, 0, none⟩) n c] w fun e w' => e = .returned (.string ⟨(escAll l).toArray⟩) ∧ Below w.heap.size w w' := by
  have HS : Hid (∀ i, i < n → w.cell? ⟨g, i, none⟩ = some (.int .u8 ((l.getD i 0).toNat : Int))) := hs
  have HL : Hid (l.length = n) := hl
  clear hs hl
  go_enter Try.func24, Try.ntmps24
  go_wp2
  go_loopg [5, 8] n (fun gh _ i wr => ∃ k : Nat, k ≤ n ∧ i = .int .i64 k ∧ Hid (Lib.IsBuilder 50 5 w.heap.size w.heap.size (Lib.byteCells (escAll (l.take k))) wr) ∧ Hid (Below w.heap.size w wr) ∧ gh = n - k)
  case atStart => exact ⟨0, by omega, rfl, Lib.fresh_isBuilder 50 5 w, (Below.refl _ _).alloc (Nat.le_refl _) _, rfl⟩
  case round =>
    obtain ⟨k, hk, rfl, HI, HB, rfl⟩ := hrel
    by_cases hlt : k < n
    · have cs : wr.cell? ⟨g, k, none⟩ = some (.int .u8 ((l.getD k 0).toNat : Int)) := (HB.out.cell (p := ⟨g, k, none⟩) hg).trans (HS.out k hlt)
      obtain ⟨ch, hch⟩ : ∃ ch : UInt8, ch = l.getD k 0 := ⟨_, rfl⟩
      obtain ⟨c, hc⟩ : ∃ c : Int, c = (ch.toNat : Int) := ⟨_, rfl⟩
      rw [← hch, ← hc] at cs
      have c0 : 0 ≤ c := by omega
      have c1 : c < 256 := by have := ch.toNat_lt; omega
      have hlen := escAll_le (l.take k)
      rw [List.length_take] at hlen
      have HLEN : Hid ((escAll (l.take k)).length ≤ 3 * min k l.length) := hlen
      have HC : Hid (c = (ch.toNat : Int)) := hc
      have HCH : Hid (ch = l.getD k 0) := hch
      clear hlen hc hch
      have hsz := HB.out.size
      cases hun : unresB c
      · have hway := res_ways hun
        rcases hway with a1 | ⟨a1, a2⟩ | ⟨a1, a2⟩ | ⟨a1, a2⟩ | ⟨a1, a2⟩ | ⟨a1, a2⟩ | a1
        all_goals
          go_wp2_with fail
          refine (index_special _ (by omega) (by omega) _).mono ?_
          rintro e w' ⟨r, rfl, hr, hw⟩
          obtain rfl := hw.symm
          have hr' : ¬ 0 ≤ r := fun h => by have := hr.1 h; omega
          clear hr
          go_wp2_with fail
          refine (Try.Builder_WriteByte w.heap.size w.heap.size _ _ _ HI.out (by rw [byteCells_length]; have := HLEN.out; omega) hsz).mono ?_
          rintro e w2 ⟨rfl, hat, hbel⟩
          have hsz2 : w.heap.size ≤ w2.heap.size := Nat.le_trans hsz hbel.size
          have HB2 : Hid (Below w.heap.size w w2) := HB.out.trans hbel
          clear hbel
          go_wp2_with fail
          refine (Try.Builder_WriteByte w.heap.size w.heap.size _ _ _ (.inr hat) (by rw [List.length_append, byteCells_length]; have := HLEN.out; simp; omega) hsz2).mono ?_
          rintro e w3 ⟨rfl, hat3, hbel⟩
          have hsz3 : w.heap.size ≤ w3.heap.size := Nat.le_trans hsz2 hbel.size
          have HB3 : Hid (Below w.heap.size w w3) := HB2.out.trans hbel
          clear hbel hat
          go_wp2_with fail
          refine (Try.Builder_WriteByte w.heap.size w.heap.size _ _ _ (.inr hat3) (by rw [List.length_append, List.length_append, byteCells_length]; have := HLEN.out; simp; omega) hsz3).mono ?_
          rintro e w4 ⟨rfl, hat4, hbel⟩
          have HB4 : Hid (Below w.heap.size w w4) := HB3.out.trans hbel
          clear hbel hat3
          have HI4 : Hid (Lib.IsBuilder 50 5 w.heap.size w.heap.size (Lib.byteCells (escAll (l.take (k + 1)))) w4) := by
            simp only [hexget] at hat4
            rw [esc_cells l k (by have := HL.out; omega) ch HCH.out _ HC.out hun] at hat4
            exact Or.inr hat4
          clear hat4
          go_wp2
          go_roundg (n - (k + 1))
          case measure => omega
          case rel => exact ⟨k + 1, by omega, by go_num, HI4.out, HB4.out, rfl⟩
      · have hst : Hid (Lib.byteCells (escAll (l.take k)) ++ [Value.int .u8 c] = Lib.byteCells (escAll (l.take (k + 1)))) := by
          show _ = _
          rw [escAll_take l k (by have := HL.out; omega), byteCells_append, ← HCH.out]
          have hun' := hun
          rw [HC.out] at hun'
          simp only [esc, hun', if_true]
          simp [Lib.byteCells, HC.out]
        have hway := unres_ways hun
        clear hun
        rcases hway with hw3 | hw4
        · rcases hw3 with ⟨a1, a2⟩ | ⟨a1, a2⟩ | ⟨a1, a2⟩
          all_goals
            go_wp2_with fail
            refine (Try.Builder_WriteByte w.heap.size w.heap.size _ _ _ HI.out (by rw [byteCells_length]; have := HLEN.out; omega) hsz).mono ?_
            rintro e w2 ⟨rfl, hat, hbel⟩
            rw [hst.out] at hat
            have HI2 : Hid (Lib.IsBuilder 50 5 w.heap.size w.heap.size (Lib.byteCells (escAll (l.take (k + 1)))) w2) := Or.inr hat
            have HB2 : Hid (Below w.heap.size w w2) := HB.out.trans hbel
            clear hat hbel
            go_wp2
            go_roundg (n - (k + 1))
            case measure => omega
            case rel => exact ⟨k + 1, by omega, by go_num, HI2.out, HB2.out, rfl⟩
        · rcases hw4 with rfl | rfl | rfl | rfl
          all_goals
            go_wp2_with fail
            refine (index_special _ (by omega) (by omega) _).mono ?_
            rintro e w' ⟨r, rfl, hr, hw⟩
            obtain rfl := hw.symm
            have hr' : 0 ≤ r := hr.2 (by omega)
            clear hr
            go_wp2_with fail
            refine (Try.Builder_WriteByte w.heap.size w.heap.size _ _ _ HI.out (by rw [byteCells_length]; have := HLEN.out; omega) hsz).mono ?_
            rintro e w2 ⟨rfl, hat, hbel⟩
            rw [hst.out] at hat
            have HI2 : Hid (Lib.IsBuilder 50 5 w.heap.size w.heap.size (Lib.byteCells (escAll (l.take (k + 1)))) w2) := Or.inr hat
            have HB2 : Hid (Below w.heap.size w w2) := HB.out.trans hbel
            clear hat hbel
            go_wp2
            go_roundg (n - (k + 1))
            case measure => omega
            case rel => exact ⟨k + 1, by omega, by go_num, HI2.out, HB2.out, rfl⟩
    · obtain rfl : k = n := by omega
      have hfin : l.take k = l := List.take_of_length_le (by have := HL.out; omega)
      have HI' := HI.out
      rw [hfin] at HI'
      have HI2 : Hid (Lib.IsBuilder 50 5 w.heap.size w.heap.size (Lib.byteCells (escAll l)) wr) := HI'
      clear HI' hfin
      have hsz := HB.out.size
      go_wp2_with fail
      refine (Try.Builder_String_any _ _ _ _ HI2.out hsz).mono ?_
      rintro e w2 ⟨rfl, hbel⟩
      go_wp2
      go_ret
      exact ⟨rfl, HB.out.trans hbel⟩

set_option maxRecDepth 20000 in
theorem escape_nil (w : World) :
    Calls Try.prog 24 #[.slice none 0 0] w fun e w' => e = .returned (.string ⟨(escAll []).toArray⟩) ∧ Below w.heap.size w w' := by
  go_enter Try.func24, Try.ntmps24
  go_wp2
  go_loopg [5, 8] 0 (fun _ _ i wr => i = .int .i64 0 ∧ wr = w.alloc (.cells #[.pointer none, .slice none 0 0] 50))
  case atStart => exact ⟨rfl, rfl⟩
  case round =>
    obtain ⟨rfl, rfl⟩ := hrel
    have HI2 : Hid (Lib.IsBuilder 50 5 w.heap.size w.heap.size (Lib.byteCells (escAll [])) (w.alloc (.cells #[.pointer none, .slice none 0 0] 50))) := Lib.fresh_isBuilder 50 5 w
    go_wp2_with fail
    refine (Try.Builder_String_any _ _ _ _ HI2.out (by simp)).mono ?_
    rintro e w2 ⟨rfl, hbel⟩
    go_wp2
    go_ret
    exact ⟨rfl, ((Below.refl _ _).alloc (Nat.le_refl _) _).trans hbel⟩

theorem zzescape_any (w : World) (g n c : Nat) (l : List UInt8) (hl : l.length = n) (hn : n ≤ 1048576) (hg : g < w.heap.size) (hs : ∀ i, i < n → w.cell? ⟨g, i, none⟩ = some (.int .u8 ((l.getD i 0).toNat : Int))) :
    Calls Try.prog 19 #[.slice (some ⟨g, 0, none⟩) n c] w fun e w' => e = .returned (.string ⟨(escAll l).toArray⟩) ∧ Below w.heap.size w w' := by
  have H := escape_any w g n c l hl hn hg hs
  have HH : Hid (Calls Try.prog 24 #[.slice (some ⟨g, 0, none⟩) n c] w fun e w' => e = .returned (.string ⟨(escAll l).toArray⟩) ∧ Below w.heap.size w w') := H
  clear H hs hl
  go_enter Try.func19, Try.ntmps19
  go_wp2_with fail
  refine HH.out.mono ?_
  rintro e w2 ⟨rfl, hbel⟩
  go_wp2
  go_ret
  exact ⟨rfl, hbel⟩

theorem zzescape_nil (w : World) :
    Calls Try.prog 19 #[.slice none 0 0] w fun e w' => e = .returned (.string ⟨(escAll []).toArray⟩) ∧ Below w.heap.size w w' := by
  go_enter Try.func19, Try.ntmps19
  go_wp2_with fail
  refine (escape_nil _).mono ?_
  rintro e w2 ⟨rfl, hbel⟩
  go_wp2
  go_ret
  exact ⟨rfl, hbel⟩
end Go.Proofs.Qxb6001409a
