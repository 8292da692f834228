import Derived.Test.Qxb6001409aEscape
import Derived.Test.Qxb6001409aUnesc
import Derived.Deep.QuietTactic
import Derived.BigQuiet
namespace Go.Proofs.Qxb6001409a
open Go.RowKit

theorem main_long (w : World) (a : Option Addr) (n c : Nat) (hn : 1048576 < n) (hm : n ≤ 9223372036854775807) :
    Calls Try.prog 9 #[.slice a n c] w fun e w' => e = .returned (.bool true) ∧ Below w.heap.size w w' := by
  have hle : ¬ n ≤ 1048576 := by omega
  go_enter Try.func9, Try.ntmps9
  go_wp2_with (go_at_call 17; refine (zzBytes_any _ _ _ hm _).mono ?_; rintro e w' ⟨rfl, hw⟩; obtain rfl := hw.symm)
  go_ret
  exact ⟨rfl, Below.refl _ _⟩

set_option maxRecDepth 20000 in
set_option maxHeartbeats 1000000 in
theorem main_nil (w : World) :
    Calls Try.prog 9 #[.slice none 0 0] w fun e w' => e = .returned (.bool true) ∧ Below w.heap.size w w' := by
  go_enter Try.func9, Try.ntmps9
  go_wp2_with (first
    | (go_at_call 17; refine (zzBytes_any _ _ _ (by omega) _).mono ?_; rintro e w' ⟨rfl, hw⟩; obtain rfl := hw.symm)
    | (go_at_call 18; refine (clone_nil _).mono ?_; rintro e w' ⟨rfl, hw⟩; obtain rfl := hw.symm))
  refine (zzescape_nil _).mono ?_
  rintro e w1 ⟨rfl, hb1⟩
  go_wp2_with fail
  refine (unescape_any ⟨(escAll []).toArray⟩ [] rfl (by simp) _).mono ?_
  rintro e w2 ⟨G, c, rfl, _, _, hb2⟩
  go_wp2_with fail
  go_loopg [6] 0 (fun _ i wr => i = .int .i64 0 ∧ wr = w2)
  case atStart => exact ⟨rfl, rfl⟩
  case round =>
    obtain ⟨rfl, rfl⟩ := hrel
    go_wp2
    go_ret
    exact ⟨rfl, hb1.trans (hb2.mono hb1.size)⟩

set_option maxRecDepth 20000 in
set_option maxHeartbeats 1000000 in
theorem main_any (w : World) (x : Addr) (n c : Nat) (l : List UInt8) (hl : l.length = n) (hn : n ≤ 1048576) (hs : ∀ i, i < n → w.cell? (x.add i) = some (.int .u8 ((l.getD i 0).toNat : Int))) :
    Calls Try.prog 9 #[.slice (some x) n c] w fun e w' => e = .returned (.bool true) ∧ Below w.heap.size w w' := by
  have HS : Hid (∀ i, i < n → w.cell? (x.add i) = some (.int .u8 ((l.getD i 0).toNat : Int))) := hs
  have HL : Hid (l.length = n) := hl
  clear hs hl
  go_enter Try.func9, Try.ntmps9
  go_wp2_with (go_at_call 17; refine (zzBytes_any _ _ _ (by omega) _).mono ?_; rintro e w' ⟨rfl, hw⟩; obtain rfl := hw.symm)
  refine (clone_any _ x n c (fun i => ((l.getD i 0).toNat : Int)) hn HS.out).mono ?_
  rintro e w1 ⟨g, rfl, hg, hgs, hb1⟩
  have HGS : Hid (∀ i, i < n → w1.cell? ⟨g, i, none⟩ = some (.int .u8 ((l.getD i 0).toNat : Int))) := hgs
  have HB1 : Hid (Below w.heap.size w w1) := hb1
  clear hgs hb1
  go_wp2_with fail
  refine (zzescape_any _ g n n l HL.out hn hg HGS.out).mono ?_
  rintro e w2 ⟨rfl, hb2⟩
  have HB2 : Hid (Below w1.heap.size w1 w2) := hb2
  clear hb2
  obtain ⟨t, ht⟩ : ∃ t : ByteArray, t = ⟨(escAll l).toArray⟩ := ⟨_, rfl⟩
  rw [← ht]
  have HT : Hid (t.data.toList = escAll l) := by
    show _ = _
    rw [ht]
  clear ht
  go_wp2_with fail
  refine (unescape_any t l HT.out (by have := HL.out; omega) _).mono ?_
  rintro e w3 ⟨G, cG, rfl, hcG, hG, hb3⟩
  rw [HL.out] at hcG hG
  have HG : Hid (∀ i, i < n → w3.cell? ⟨G, i, none⟩ = some (.int .u8 ((l.getD i 0).toNat : Int))) := hG
  have HG2 : Hid (∀ i, i < n → w3.cell? ⟨g, i, none⟩ = some (.int .u8 ((l.getD i 0).toNat : Int))) := fun i hi => (hb3.cell (p := ⟨g, i, none⟩) (by have := HB2.out.size; simp; omega)).trans ((HB2.out.cell (p := ⟨g, i, none⟩) hg).trans (HGS.out i hi))
  have HB3 : Hid (Below w.heap.size w w3) := HB1.out.trans ((HB2.out.mono HB1.out.size).trans (hb3.mono (Nat.le_trans HB1.out.size HB2.out.size)))
  clear hG hb3
  rw [HL.out]
  go_wp2_with fail
  go_loopg [6] n (fun gh i wr => ∃ k : Nat, k ≤ n ∧ i = .int .i64 k ∧ (∃ q, wr = w3.drewN q) ∧ gh = n - k)
  case atStart => exact ⟨0, by omega, rfl, ⟨0, rfl⟩, rfl⟩
  case round =>
    obtain ⟨k, hk, rfl, ⟨q, rfl⟩, rfl⟩ := hrel
    by_cases hlt : k < n
    · have c1 := HG.out k hlt
      have c2 := HG2.out k hlt
      obtain ⟨v, hv⟩ : ∃ v : Int, v = ((l.getD k 0).toNat : Int) := ⟨_, rfl⟩
      rw [← hv] at c1 c2
      clear hv
      have i1 : (k : Int) < (n : Int) := by omega
      have vv : (v != v) = false := by simp
      go_wp2
      go_quiet (fail)
      go_wp2
      go_roundg (n - (k + 1))
      case measure => omega
      case rel => exact ⟨k + 1, by omega, by go_num, ⟨_, rfl⟩, rfl⟩
    · go_wp2
      go_ret
      exact ⟨rfl, ⟨HB3.out.os, HB3.out.tape, HB3.out.output, HB3.out.size, HB3.out.block⟩⟩
end Go.Proofs.Qxb6001409a
