import Derived.Test.Qxb6001409aPlain
import Derived.Test.Qxb6001409aClone
import Derived.Deep.LoopGhost
namespace Go.Proofs.Qxb6001409a
open Go.RowKit

/-- A byte of the text at the place where element j's escape begins. -/
theorem text_at {t : ByteArray} {l : List UInt8} (ht : t.data.toList = escAll l) {j : Nat} (hj : j < l.length) {p i : Nat} (hp : p = (escAll (l.take j)).length) (hi : i < (esc (l.getD j 0)).length) :
    ∃ h : p + i < t.size, (esc (l.getD j 0))[i]? = some t[p + i] := by
  have e := escAll_split l j hj
  have hl : t.data.toList[p + i]? = some (esc (l.getD j 0))[i] := by
    rw [ht, e, hp, List.getElem?_append_right (by omega), Nat.add_sub_cancel_left, List.getElem?_append_left hi, List.getElem?_eq_getElem hi]
  have hlt : p + i < t.size := by
    have := (List.getElem?_eq_some_iff.1 hl).1
    simpa using this
  refine ⟨hlt, ?_⟩
  have e2 : t[p + i] = (esc (l.getD j 0))[i] := by
    show t.data[p + i]'(by simpa using hlt) = _
    rw [← Array.getElem_toList]
    exact (List.getElem?_eq_some_iff.1 hl).2
  rw [e2, List.getElem?_eq_getElem hi]

theorem escAll_ge (l : List UInt8) : l.length ≤ (escAll l).length := by
  induction l with
  | nil => simp [escAll]
  | cons c l ih =>
    have := esc_pos c
    show _ ≤ (esc c ++ escAll l).length
    rw [List.length_append, List.length_cons]
    omega

theorem or_join (c : Int) (h0 : 0 ≤ c) (h1 : c < 256) : bits .or .u8 (c / 16 * 16) (c % 16) = c := by
  rw [u8_or _ _ (by omega) (by omega) (by omega) (by omega)]
  have key : ∀ n : Nat, n < 256 → ((n / 16 * 16) ||| (n % 16)) = n := by decide +kernel
  have := key c.toNat (by omega)
  rw [show (c / 16 * 16).toNat = c.toNat / 16 * 16 by omega, show (c % 16).toNat = c.toNat % 16 by omega, this]
  omega

theorem unres_37 {c : Int} (h : unresB c = true) : (c == 37) = false := by
  simp [unresB] at h
  simp
  omega

/-- An unreserved byte stands as itself. -/
theorem at_unres {t : ByteArray} {l : List UInt8} (ht : t.data.toList = escAll l) {j : Nat} (hj : j < l.length) {p : Nat} (hp : p = (escAll (l.take j)).length) {c : Int} (hc : c = ((l.getD j 0).toNat : Int)) (hu : unresB c = true) :
    j ≤ p ∧ p + 1 = (escAll (l.take (j + 1))).length ∧ ∃ h : p < t.size, (t[p].toNat : Int) = c := by
  have hge := escAll_ge (l.take j)
  rw [List.length_take] at hge
  have he : esc (l.getD j 0) = [l.getD j 0] := by unfold esc; rw [← hc, hu]; rfl
  obtain ⟨h, e⟩ := text_at ht hj hp (i := 0) (by rw [he]; simp)
  refine ⟨by omega, by rw [escAll_take l j hj, he, List.length_append, ← hp]; rfl, h, ?_⟩
  have e2 : t[p] = l.getD j 0 := by
    rw [he] at e
    exact (Option.some.inj e).symm
  rw [e2, hc]

/-- Any other byte stands as three. -/
theorem at_res {t : ByteArray} {l : List UInt8} (ht : t.data.toList = escAll l) {j : Nat} (hj : j < l.length) {p : Nat} (hp : p = (escAll (l.take j)).length) {c : Int} (hc : c = ((l.getD j 0).toNat : Int)) (hu : unresB c = false) :
    j ≤ p ∧ p + 3 = (escAll (l.take (j + 1))).length ∧ ∃ h : p + 2 < t.size, (t[p].toNat : Int) = 37 ∧ (t[p + 1].toNat : Int) = hexI (c / 16) ∧ (t[p + 2].toNat : Int) = hexI (c % 16) := by
  have hge := escAll_ge (l.take j)
  rw [List.length_take] at hge
  have he : esc (l.getD j 0) = [37, hexd ((l.getD j 0).toNat / 16), hexd ((l.getD j 0).toNat % 16)] := by unfold esc; rw [← hc, hu]; rfl
  obtain ⟨h0, e0⟩ := text_at ht hj hp (i := 0) (by rw [he]; simp)
  obtain ⟨h1, e1⟩ := text_at ht hj hp (i := 1) (by rw [he]; simp)
  obtain ⟨h2, e2⟩ := text_at ht hj hp (i := 2) (by rw [he]; simp)
  have hlt := (l.getD j 0).toNat_lt
  rw [he] at e0 e1 e2
  have e0' : t[p] = 37 := (Option.some.inj e0).symm
  have e1' : t[p + 1] = hexd ((l.getD j 0).toNat / 16) := (Option.some.inj e1).symm
  have e2' : t[p + 2] = hexd ((l.getD j 0).toNat % 16) := (Option.some.inj e2).symm
  refine ⟨by omega, by rw [escAll_take l j hj, he, List.length_append, ← hp]; rfl, h2, by rw [e0']; rfl, ?_, ?_⟩
  · rw [e1', hexd_val _ (by omega), hc]; rfl
  · rw [e2', hexd_val _ (by omega), hc]; rfl

set_option maxRecDepth 20000 in
set_option maxHeartbeats 1000000 in
theorem unescape_any (t : ByteArray) (l : List UInt8) (ht : t.data.toList = escAll l) (hl : l.length ≤ 1048576) (w : World) :
    Calls Try.prog 20 #[.string t] w fun e w' => ∃ G c, e = .returned (.tuple #[.slice (some ⟨G, 0, none⟩) l.length c, .bool true]) ∧ l.length ≤ c ∧
      (∀ i, i < l.length → w'.cell? ⟨G, i, none⟩ = some (.int .u8 ((l.getD i 0).toNat : Int))) ∧ Below w.heap.size w w' := by
  obtain ⟨i0, hi, hz0, hz1, hz2⟩ := info_parts info5
  have htl : t.size = (escAll l).length := by rw [← ht]; simp
  have hts : t.size ≤ 3145728 := by rw [htl]; have := escAll_le l; omega
  have HT : Hid (t.data.toList = escAll l) := ht
  have HTL : Hid (t.size = (escAll l).length) := htl
  clear ht htl
  obtain ⟨N, hN⟩ : ∃ N, N = l.length := ⟨_, rfl⟩
  have HN : Hid (N = l.length) := hN
  rw [← hN] at hl
  clear hN
  go_enter Try.func20, Try.ntmps20
  go_wp2_with (at_make; refine wpList_make_own _ rfl _ _ 33 rfl w.heap.size 5 i0 (.int .u8 0) 1 Try.underlying33 hi hz0 hz1 _ _ _ t.size rfl rfl rfl ?c1 ?c2 ?c3 ?_)
  case c1 => rw [hz2]; omega
  case c2 => unfold maxLen; omega
  case c3 => omega
  intro w1 hown hgrow
  have HO : Hid (w1.ownsRow w.heap.size 5 1 (.slice (some ⟨w.heap.size, 0, none⟩) 0 t.size) 0 []) := hown
  have HB : Hid (Below w.heap.size w w1) := (Below.refl _ _).grown hgrow (Nat.le_refl _) (fun k hk => by cases hk)
  clear hown hgrow
  go_wp2_with fail
  go_loopg [4, 5, 6, 7, 8, 9, 10, 11] N (fun gh out i _ _ _ _ _ _ wr => ∃ j p : Nat, j ≤ N ∧ Hid (p = (escAll (l.take j)).length) ∧ p ≤ t.size ∧ i = .int .i64 p ∧ out = .slice (some ⟨w.heap.size, 0, none⟩) j t.size ∧
    Hid (wr.ownsRow w.heap.size 5 1 (.slice (some ⟨w.heap.size, 0, none⟩) j t.size) j (Lib.byteCells (l.take j))) ∧ Hid (Below w.heap.size w wr) ∧ gh = N - j)
  case atStart => exact ⟨0, 0, by omega, rfl, by omega, rfl, rfl, HO.out, HB.out, rfl⟩
  case round =>
    clear HO HB
    obtain ⟨j, p, hj, HP, hp, rfl, rfl, HO, HB, rfl⟩ := hrel
    have hsz := HB.out.size
    by_cases hlt : j < N
    · have hjl : j < l.length := by have := HN.out; omega
      obtain ⟨c, hc⟩ : ∃ c : Int, c = ((l.getD j 0).toNat : Int) := ⟨_, rfl⟩
      have c0 : 0 ≤ c := by omega
      have c1 : c < 256 := by have := (l.getD j 0).toNat_lt; omega
      have HC : Hid (c = ((l.getD j 0).toNat : Int)) := hc
      clear hc
      have HNX : Hid (Lib.byteCells (l.take j) ++ [Value.int .u8 c] = Lib.byteCells (l.take (j + 1))) := by
        show _ = _
        rw [take_snoc l j hjl, byteCells_append, HC.out]
        rfl
      cases hun : unresB c
      · obtain ⟨b1, b2, b3, b4, b5, b6⟩ := at_res HT.out hjl HP.out HC.out hun
        have HP2 : Hid (p + 3 = (escAll (l.take (j + 1))).length) := b2
        clear b2
        go_wp2_with fail
        refine (upperHex_at (c / 16) (by omega) (by omega) _).mono ?_
        rintro e w' ⟨rfl, hw⟩
        obtain rfl := hw.symm
        go_wp2_with fail
        refine (upperHex_at (c % 16) (by omega) (by omega) _).mono ?_
        rintro e w' ⟨rfl, hw⟩
        obtain rfl := hw.symm
        go_wp2_with fail
        rw [or_join c c0 c1]
        refine (unreserved_at c false hun _).mono ?_
        rintro e w' ⟨rfl, hw⟩
        obtain rfl := hw.symm
        go_wp2_with (at_builtin; refine wpList_append_fits _ rfl _ _ 33 rfl w.heap.size 5 i0 1 Try.underlying33 hi hz1 w.heap.size j t.size _ rfl (HO.out.alloc _) ⟨wr.heap.size, 0, none⟩ 1 1 [.int .u8 c] rfl rfl ?f1 ?f2 ?f3 ?_)
        case f1 => exact cell_one_new _ _ _
        case f2 => intro u hu; simp at hu; subst hu; rfl
        case f3 => omega
        intro w2 hown hgrow
        rw [HNX.out] at hown
        have HO2 : Hid (w2.ownsRow w.heap.size 5 1 (.slice (some ⟨w.heap.size, 0, none⟩) (j + 1) t.size) (j + 1) (Lib.byteCells (l.take (j + 1)))) := hown
        have HB2 : Hid (Below w.heap.size w w2) := (HB.out.alloc hsz _).grown hgrow (by simp; omega) (fun k hk => by simp at hk; omega)
        clear hown hgrow
        go_wp2
        go_roundg (N - (j + 1))
        case measure => omega
        case rel => exact ⟨j + 1, p + 3, by omega, HP2.out, by omega, by go_num, rfl, HO2.out, HB2.out, rfl⟩
      · obtain ⟨b1, b2, b3, b4⟩ := at_unres HT.out hjl HP.out HC.out hun
        have e37 := unres_37 hun
        have HP2 : Hid (p + 1 = (escAll (l.take (j + 1))).length) := b2
        clear b2
        go_wp2_with fail
        refine (unreserved_at c true hun _).mono ?_
        rintro e w' ⟨rfl, hw⟩
        obtain rfl := hw.symm
        go_wp2_with (at_builtin; refine wpList_append_fits _ rfl _ _ 33 rfl w.heap.size 5 i0 1 Try.underlying33 hi hz1 w.heap.size j t.size _ rfl (HO.out.alloc _) ⟨wr.heap.size, 0, none⟩ 1 1 [.int .u8 c] rfl rfl ?d1 ?d2 ?d3 ?_)
        case d1 => exact cell_one_new _ _ _
        case d2 => intro u hu; simp at hu; subst hu; rfl
        case d3 => omega
        intro w2 hown hgrow
        rw [HNX.out] at hown
        have HO2 : Hid (w2.ownsRow w.heap.size 5 1 (.slice (some ⟨w.heap.size, 0, none⟩) (j + 1) t.size) (j + 1) (Lib.byteCells (l.take (j + 1)))) := hown
        have HB2 : Hid (Below w.heap.size w w2) := (HB.out.alloc hsz _).grown hgrow (by simp; omega) (fun k hk => by simp at hk; omega)
        clear hown hgrow
        go_wp2
        go_roundg (N - (j + 1))
        case measure => omega
        case rel => exact ⟨j + 1, p + 1, by omega, HP2.out, by omega, by go_num, rfl, HO2.out, HB2.out, rfl⟩
    · obtain rfl : j = N := by omega
      have hfin : l.take j = l := List.take_of_length_le (by have := HN.out; omega)
      obtain rfl : p = t.size := by have h1 := HP.out; have h2 := HTL.out; rw [hfin] at h1; omega
      go_wp2
      go_ret2
      have hO := HO.out
      rw [hfin] at hO
      refine ⟨w.heap.size, t.size, by rw [HN.out]; rfl, by have := HTL.out; have := escAll_ge l; omega, fun i hi => ?_, HB.out⟩
      have := hO.cells (g := w.heap.size) rfl i (.int .u8 ((l.getD i 0).toNat : Int)) (by simp [Lib.byteCells, hi])
      rwa [Go.WideShapes.add_plain, Nat.zero_add] at this
end Go.Proofs.Qxb6001409a
