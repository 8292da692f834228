import Derived.Test.Qxb6001440aBuild
import Derived.Test.Qxb6001440aInst
import Derived.Lib.AppendStr
import Derived.RegionTactic
import Derived.BigRegion
import Derived.Deep.RegionWith
namespace Go.Proofs.Qxb6001440a
open Go.RowKit

theorem info5 : (Try.prog.info? 5).map (fun i => (i.zero, i.size, i.bytes)) = some (some (.int .u8 0), 1, 1) := by kernel_rfl

theorem conv_own {W : World} {B : Nat} {v : Value} {l : List UInt8} {p : ByteArray} (hp : p = ofL l) (h : W.ownsRow B 5 1 v l.length (byteC l)) : (convert 30 9 v).run Try.prog W = .ok (.string p) W := by
  subst hp
  rcases h.2 with ⟨rfl, h0⟩ | ⟨g, cap, cur, rfl, hb, hh, _⟩
  · have : l = [] := List.length_eq_zero_iff.1 h0
    subst this
    exact run_convert_bytes_nil W 30 5 Try.underlying30 Try.underlying5 0 0 9 Try.underlying9
  · have hc := run_convert_bytes_arg (P := Try.prog) W 30 5 Try.underlying30 Try.underlying5 g 0 l.length cap (l.map fun b => (b.toNat : Int)) (by simp) (fun i hi => by
      have := h.cells (g := g) rfl i (.int .u8 ((l.map fun b => (b.toNat : Int)).getD i 0)) (by simp [byteC, hi])
      rwa [Go.WideShapes.add_plain] at this) 9 Try.underlying9
    rw [hc]
    congr 2
    refine eq_ofL ?_
    rw [strOfNums_data, List.map_map]
    conv => rhs; rw [← List.map_id l]
    apply List.map_congr_left
    intro b _
    simp

theorem own_kept {W W' : World} {B e n : Nat} {v : Value} {xs : List Value} (h : W.ownsRow B e 1 v n xs) (hb : Below W.heap.size W W') : W'.ownsRow B e 1 v n xs :=
  h.kept (row := none) ⟨hb.os, hb.tape, hb.output, hb.size, fun k hk _ => hb.block k hk⟩ (by cases v.ownBlock <;> simp)

theorem below_drewN {B : Nat} {a w : World} (h : Below B a w) (k : Nat) : Below B a (w.drewN k) := ⟨h.os, h.tape, h.output, h.size, h.block⟩

theorem cell_kept {W W' : World} {p : Addr} {v : Value} (h : W.cell? p = some v) (hb : Below W.heap.size W W') : W'.cell? p = some v := (hb.cell (World.block_lt_of_cell? W p h)).trans h

theorem zbuild_at (T : List UInt8) (t : ByteArray) (ht : t = ofL T) (hT : T.length ≤ 65536) (w : World) :
    Calls Try.prog 10 #[.string t] w fun e w' => ∃ pb, e = .returned (.pointer (some ⟨pb, 0, none⟩)) ∧ w.heap.size ≤ pb ∧ Pat w' pb T ∧ Below w.heap.size w w' := by
  subst ht
  exact zbuild_any T hT w

theorem matches_at (T path : List UInt8) (p : ByteArray) (hp : p = ofL path) (r : Bool) (hr : matchB T path = r) (hT : T.length ≤ 65536) (hpath : path.length ≤ 1099511627776) (w : World) (pb : Nat) (hP : Pat w pb T) :
    Calls Try.prog 11 #[.pointer (some ⟨pb, 0, none⟩), .string p] w fun e w' => e = .returned (.bool r) ∧ ∃ q, w' = w.drewN q := by
  subst hp
  rw [← hr]
  exact matches_any w pb T path hP hT hpath

set_option maxHeartbeats 400000 in
theorem zzBytesM (a b c : ByteArray) (ha : a.size ≤ 9223372036854775807) (hb : b.size ≤ 9223372036854775807) (hc : c.size ≤ 9223372036854775807) (w : World) :
    Calls Try.prog 12 #[.string a, .string b, .string c] w fun e w' => ∃ v : Bool, e = .returned (.bool v) ∧ w' = w := by
  go_enter Try.func12, Try.ntmps12
  go_wp2
  all_goals (go_ret; exact ⟨_, rfl, rfl⟩)

set_option maxRecDepth 20000 in
set_option maxHeartbeats 1000000 in
theorem mainM_long (a b c : ByteArray) (ha : a.size ≤ 9223372036854775807) (hb : b.size ≤ 9223372036854775807) (hc : c.size ≤ 9223372036854775807) (h : 65536 < a.size ∨ 65536 < b.size ∨ 65536 < c.size) (w : World) :
    Calls Try.prog 4 #[.string a, .string b, .string c] w fun e w' => e = .returned (.bool true) ∧ Below w.heap.size w w' := by
  have h3 : 65536 < a.size ∨ (a.size ≤ 65536 ∧ 65536 < b.size) ∨ (a.size ≤ 65536 ∧ b.size ≤ 65536 ∧ 65536 < c.size) := by omega
  clear h
  rcases h3 with h | ⟨h, h'⟩ | ⟨h, h', h''⟩
  all_goals
    go_enter Try.func4, Try.ntmps4
    go_wp2_with fail
    refine (zzBytesM _ _ _ ha hb hc _).mono ?_
    rintro e w' ⟨v, rfl, hw⟩
    obtain rfl := hw.symm
    cases v
    all_goals
      go_wp2
      go_ret
      exact ⟨rfl, Below.refl _ _⟩

end Go.Proofs.Qxb6001440a
