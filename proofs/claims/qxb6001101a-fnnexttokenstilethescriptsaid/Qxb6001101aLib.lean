import Derived.Test.Qxb6001101aScan
import Derived.Test.Qxb6001101aShelfA
import Derived.Lib.IndexLaws
import Derived.Lib.IndexMore
namespace Go.Proofs.Qxb6001101a
open Go.RowKit

/-- The m numbers from p on. -/
def seg (Z : Nat → Int) (p m : Nat) : List Int := (List.range m).map fun i => Z (p + i)
theorem seg_length (Z : Nat → Int) (p m : Nat) : (seg Z p m).length = m := by simp [seg]
theorem seg_getD (Z : Nat → Int) (p m i : Nat) (h : i < m) : (seg Z p m).getD i 0 = Z (p + i) := by simp [seg, h]
theorem seg_get? (Z : Nat → Int) (p m i : Nat) : (seg Z p m)[i]? = if i < m then some (Z (p + i)) else none := by
  unfold seg
  by_cases h : i < m
  · simp [h]
  · simp [h]
theorem seg_succ (Z : Nat → Int) (p m : Nat) : seg Z p (m + 1) = Z p :: seg Z (p + 1) m := by
  unfold seg
  rw [List.range_succ_eq_map]
  simp only [List.map_cons, List.map_map, Nat.add_zero]
  congr 1
  apply List.map_congr_left
  intro a _
  simp only [Function.comp]
  congr 1
  omega
theorem seg_zero (Z : Nat → Int) (p : Nat) : seg Z p 0 = [] := rfl

theorem addr_add (b o i : Nat) : (⟨b, o, none⟩ : Addr).add i = ⟨b, o + i, none⟩ := by unfold Addr.add; split <;> simp_all

def IsByte (z : Int) : Prop := 0 ≤ z ∧ z < 256

theorem u8_inj {x y : Int} (hx : IsByte x) (hy : IsByte y) : (UInt8.ofNat x.toNat = UInt8.ofNat y.toNat) ↔ x = y := by
  obtain ⟨a, b⟩ := hx
  obtain ⟨c, d⟩ := hy
  constructor
  · intro h
    have := congrArg UInt8.toNat h
    simp only [UInt8.toNat_ofNat'] at this
    omega
  · rintro rfl; rfl

/-- Two given bytes stand at p. -/
def pre2 (Z : Nat → Int) (p m : Nat) (x y : Int) : Bool := decide (2 ≤ m ∧ Z p = x ∧ Z (p + 1) = y)

theorem hasPrefix_seg (Z : Nat → Int) (hZ : ∀ i, IsByte (Z i)) (p m : Nat) (x y : Int) (hx : IsByte x) (hy : IsByte y) :
    Lib.hasPrefix (Lib.bytesOf (seg Z p m)) (Lib.bytesOf [x, y]) = pre2 Z p m x y := by
  unfold pre2
  match m with
  | 0 => simp [seg_zero, Lib.hasPrefix, Lib.bytesOf]
  | 1 => simp [seg_succ, seg_zero, Lib.hasPrefix, Lib.bytesOf, List.isPrefixOf]
  | m + 2 =>
    rw [seg_succ, seg_succ]
    rw [Bool.eq_iff_iff]
    simp only [Lib.hasPrefix, Lib.bytesOf, List.map_cons, List.map_nil, List.isPrefixOf_cons_cons, List.isPrefixOf_nil_left, Bool.and_true, Bool.and_eq_true, beq_iff_eq, decide_eq_true_eq]
    rw [u8_inj hx (hZ p), u8_inj hy (hZ (p + 1))]
    constructor
    · rintro ⟨rfl, rfl⟩; exact ⟨by omega, rfl, rfl⟩
    · rintro ⟨_, rfl, rfl⟩; exact ⟨rfl, rfl⟩

theorem hasPrefix2 (w : World) (bs p m c lb : Nat) (x y : Int) (Z : Nat → Int) (hZ : ∀ i, IsByte (Z i)) (hx : IsByte x) (hy : IsByte y) (hm : m ≤ c)
    (hs : ∀ i, i < m → w.cell? ⟨bs, p + i, none⟩ = some (.int .u8 (Z (p + i)))) (h0 : w.cell? ⟨lb, 0, none⟩ = some (.int .u8 x)) (h1 : w.cell? ⟨lb, 1, none⟩ = some (.int .u8 y)) :
    Calls Try.prog 22 #[.slice (some ⟨bs, p, none⟩) m c, .slice (some ⟨lb, 0, none⟩) 2 2] w fun e w' => e = .returned (.bool (pre2 Z p m x y)) ∧ w' = w := by
  rw [← hasPrefix_seg Z hZ p m x y hx hy]
  refine Try.bytes_HasPrefix_all _ _ _ _ _ _ (seg Z p m) [x, y] w (seg_length _ _ _) rfl hm (Lib.BytesIn.of_cells fun i hi => ?_) (Lib.BytesIn.of_cells fun i hi => ?_)
  · rw [addr_add, hs i hi, seg_getD _ _ _ _ hi]
  · rw [addr_add]
    match i, hi with
    | 0, _ => simpa using h0
    | 1, _ => simpa using h1

theorem indexByte_lit (c : Int) (hc : IsByte c) : 0 ≤ Lib.indexByte (Lib.bytesOf [32, 9, 10, 13, 12, 11]) c.toNat.toUInt8 ↔ spB c = true := by
  have key : ∀ n : Nat, n < 256 → decide (0 ≤ Lib.indexByte (Lib.bytesOf [32, 9, 10, 13, 12, 11]) n.toUInt8) = spB (n : Int) := by decide +kernel
  have := key c.toNat (by have := hc.1; have := hc.2; omega)
  have e : ((c.toNat : Nat) : Int) = c := by have := hc.1; omega
  rw [e] at this
  rw [← this]
  simp

theorem indexByte_space (w : World) (lb : Nat) (c : Int) (hc : IsByte c) (h0 : w.cell? ⟨lb, 0, none⟩ = some (.int .u8 32)) (h1 : w.cell? ⟨lb, 1, none⟩ = some (.int .u8 9)) (h2 : w.cell? ⟨lb, 2, none⟩ = some (.int .u8 10))
    (h3 : w.cell? ⟨lb, 3, none⟩ = some (.int .u8 13)) (h4 : w.cell? ⟨lb, 4, none⟩ = some (.int .u8 12)) (h5 : w.cell? ⟨lb, 5, none⟩ = some (.int .u8 11)) :
    Calls Try.prog 21 #[.slice (some ⟨lb, 0, none⟩) 6 6, .int .u8 c] w fun e w' => ∃ r : Int, e = .returned (.int .i64 r) ∧ (0 ≤ r ↔ spB c = true) ∧ w' = w := by
  refine (Try.bytes_IndexByte_at ⟨lb, 0, none⟩ 6 6 [32, 9, 10, 13, 12, 11] c w rfl (fun i hi => ?_)).mono ?_
  · rw [addr_add]
    match i, hi with
    | 0, _ => simpa using h0
    | 1, _ => simpa using h1
    | 2, _ => simpa using h2
    | 3, _ => simpa using h3
    | 4, _ => simpa using h4
    | 5, _ => simpa using h5
  · rintro e w' ⟨rfl, rfl⟩
    exact ⟨_, rfl, indexByte_lit c hc, rfl⟩

theorem indexByte_seg (w : World) (bs p m c : Nat) (x : Int) (Z : Nat → Int) (hZ : ∀ i, IsByte (Z i)) (hx : IsByte x)
    (hs : ∀ i, i < m → w.cell? ⟨bs, p + i, none⟩ = some (.int .u8 (Z (p + i)))) :
    Calls Try.prog 21 #[.slice (some ⟨bs, p, none⟩) m c, .int .u8 x] w fun e w' => ∃ r : Int, e = .returned (.int .i64 r) ∧ (r = -1 ∨ ∃ k : Nat, r = k ∧ k < m ∧ Z (p + k) = x) ∧ w' = w := by
  refine (Try.bytes_IndexByte_at ⟨bs, p, none⟩ m c (seg Z p m) x w (seg_length _ _ _) (fun i hi => ?_)).mono ?_
  · rw [addr_add, hs i hi, seg_getD _ _ _ _ hi]
  · rintro e w' ⟨rfl, rfl⟩
    refine ⟨_, rfl, ?_, rfl⟩
    have hge := Lib.indexByte_ge (Lib.bytesOf (seg Z p m)) x.toNat.toUInt8
    by_cases h : Lib.indexByte (Lib.bytesOf (seg Z p m)) x.toNat.toUInt8 = -1
    · exact .inl h
    · right
      obtain ⟨k, hk⟩ : ∃ k : Nat, Lib.indexByte (Lib.bytesOf (seg Z p m)) x.toNat.toUInt8 = k := ⟨(Lib.indexByte (Lib.bytesOf (seg Z p m)) x.toNat.toUInt8).toNat, by omega⟩
      have h2 := (Lib.indexByte_some hk).1
      simp only [Lib.bytesOf, List.getElem?_map, seg_get?] at h2
      by_cases hkm : k < m
      · simp only [hkm, ↓reduceIte, Option.map_some, Option.some.injEq] at h2
        exact ⟨k, hk, hkm, (u8_inj (hZ _) hx).1 h2⟩
      · simp [hkm] at h2

end Go.Proofs.Qxb6001101a
