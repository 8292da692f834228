import Derived.Test.Qxb6001440aMainM
namespace Go.Proofs.Qxb6001440a
open Go.RowKit

set_option maxHeartbeats 400000 in
theorem zzBytesE (a b : ByteArray) (ha : a.size ≤ 9223372036854775807) (hb : b.size ≤ 9223372036854775807) (w : World) :
    Calls Try.prog 16 #[.string a, .string b] w fun e w' => ∃ v : Bool, e = .returned (.bool v) ∧ w' = w := by
  go_enter Try.func16, Try.ntmps16
  go_wp2
  all_goals (go_ret; exact ⟨_, rfl, rfl⟩)

set_option maxRecDepth 20000 in
set_option maxHeartbeats 1000000 in
theorem mainE_long (a b : ByteArray) (ha : a.size ≤ 9223372036854775807) (hb : b.size ≤ 9223372036854775807) (h : 65536 < a.size ∨ 65536 < b.size) (w : World) :
    Calls Try.prog 7 #[.string a, .string b] w fun e w' => e = .returned (.bool true) ∧ Below w.heap.size w w' := by
  have h3 : 65536 < a.size ∨ (a.size ≤ 65536 ∧ 65536 < b.size) := by omega
  clear h
  rcases h3 with h | ⟨h, h'⟩
  all_goals
    go_enter Try.func7, Try.ntmps7
    go_wp2_with fail
    refine (zzBytesE _ _ ha hb _).mono ?_
    rintro e w' ⟨v, rfl, hw⟩
    obtain rfl := hw.symm
    cases v
    all_goals
      go_wp2
      go_ret
      exact ⟨rfl, Below.refl _ _⟩

/-- A pattern without a wildcard beats one with a wildcard. -/
theorem beats_exact (E Q : List UInt8) (h1 : plus E = 0) (h2 : globB E = false) (h3 : 0 < plus Q ∨ globB Q = true) (w : World) (pe pq : Nat) (hE : Pat w pe E) (hQ : Pat w pq Q) :
    Calls Try.prog 14 #[.pointer (some ⟨pe, 0, none⟩), .pointer (some ⟨pq, 0, none⟩)] w fun e w' => e = .returned (.bool true) ∧ ∃ q, w' = w.drewN q := by
  have H : Hid (Calls Try.prog 20 #[.pointer (some ⟨pe, 0, none⟩), .pointer (some ⟨pq, 0, none⟩)] w fun e w' => e = .returned (.bool true) ∧ ∃ q, w' = w.drewN q) := by
    obtain ⟨we, e3, _, e3'⟩ := hE.c3
    obtain ⟨wq, q3, q3', _⟩ := hQ.c3
    obtain rfl := e3' h1 h2
    have hq := q3' h3
    clear hE hQ h1 h2 h3 e3' q3'
    have d1 : decide (wq < 0) = false := by simp; omega
    show Calls _ _ _ _ _
    go_enter Try.func20, Try.ntmps20
    go_wp2
    go_quiet (fail)
    go_wp2
    go_ret
    exact ⟨rfl, _, rfl⟩
  clear hE hQ h1 h2 h3
  go_enter Try.func14, Try.ntmps14
  go_wp2_with fail
  refine H.out.mono ?_
  rintro e w' ⟨rfl, q, rfl⟩
  go_wp2
  go_ret
  exact ⟨rfl, _, rfl⟩

theorem match_self (P : List UInt8) (h1 : plus P = 0) (h2 : globB P = false) : matchB P P = true := by
  unfold matchB
  rw [if_pos h1, h2]
  simp

theorem match_other {T P : List UInt8} (h : matchB T P = true) (hne : ¬ T = P) : 0 < plus T ∨ globB T = true := by
  by_cases h1 : plus T = 0
  · cases h2 : globB T
    · unfold matchB at h
      rw [if_pos h1, h2] at h
      simp at h
      exact absurd h.symm hne
    · exact .inr rfl
  · exact .inl (by omega)

set_option maxRecDepth 20000 in
set_option maxHeartbeats 4000000 in
theorem mainE_any (P T : List UInt8) (hP : P.length ≤ 65536) (hT : T.length ≤ 65536) (w : World) :
    Calls Try.prog 7 #[.string (ofL P), .string (ofL T)] w fun e w' => e = .returned (.bool true) ∧ Below w.heap.size w w' := by
  have sP := ofL_size P
  have sT := ofL_size T
  have tP := ofL_toList P
  have tT := ofL_toList T
  obtain ⟨p, hp⟩ : ∃ p, p = ofL P := ⟨_, rfl⟩
  obtain ⟨t, ht⟩ : ∃ t, t = ofL T := ⟨_, rfl⟩
  rw [← hp, ← ht]
  rw [← hp] at sP tP
  rw [← ht] at sT tT
  have bP : p.size ≤ 65536 := by omega
  have bT : t.size ≤ 65536 := by omega
  have HP : Hid (p = ofL P) := hp
  have HT : Hid (t = ofL T) := ht
  have HPL : Hid (P.length ≤ 65536) := hP
  have HPB : Hid (P.length ≤ 1099511627776) := by show _ ≤ _; omega
  have HTL : Hid (T.length ≤ 65536) := hT
  have HEQ : Hid ((t.toList == p.toList) = decide (T = P)) := by
    show _ = _
    rw [tP, tT, Bool.eq_iff_iff]
    simp
  clear hp ht sP sT tP tT hP hT
  go_enter Try.func7, Try.ntmps7
  go_wp2_with fail
  refine (zzBytesE _ _ (by omega) (by omega) _).mono ?_
  rintro e w' ⟨v, rfl, hw⟩
  obtain rfl := hw.symm
  cases v
  · go_wp2
    go_ret
    exact ⟨rfl, Below.refl _ _⟩
  go_wp2_with fail
  rw [HP.out]
  refine (zparse_any P HPL.out _).mono ?_
  rintro e w1 ⟨g, cap, wc, rfl, hg1, hg2, hcell, hb1, _, _⟩
  rw [← HP.out]
  have HB : Hid (Below w.heap.size w w1) := hb1
  have hw1 := hb1.size
  clear hcell hb1 hg1 hg2
  obtain ⟨N, hN⟩ : ∃ N, N = (segs P).length := ⟨_, rfl⟩
  rw [← hN]
  clear hN
  obtain ⟨bd, hbd⟩ : ∃ bd, bd = ofL (body P) := ⟨_, rfl⟩
  rw [← hbd]
  clear hbd
  obtain ⟨gl, hgl⟩ : ∃ gl, gl = globB P := ⟨_, rfl⟩
  rw [← hgl]
  have HGL : Hid (gl = globB P) := hgl
  clear hgl
  obtain ⟨hp', hhp⟩ : ∃ hp', hp' = decide (0 < plus P) := ⟨_, rfl⟩
  rw [← hhp]
  have HHP : Hid (hp' = decide (0 < plus P)) := hhp
  clear hhp
  obtain ⟨pl, hpl⟩ : ∃ pl, pl = plus P := ⟨_, rfl⟩
  rw [← hpl]
  clear hpl
  cases gl
  rotate_left
  · go_wp2
    go_ret
    exact ⟨rfl, HB.out.alloc hw1 _⟩
  cases hp'
  rotate_left
  · go_wp2
    go_ret
    exact ⟨rfl, HB.out.alloc hw1 _⟩
  have HG0 : Hid (globB P = false) := HGL.out.symm
  have HP0 : Hid (plus P = 0) := by
    show plus P = 0
    have := HHP.out
    simp at this
    omega
  clear HGL HHP
  by_cases hTP : T = P
  · have e1 : (t.toList == p.toList) = true := by rw [HEQ.out]; simpa using hTP
    clear hTP
    go_wp2
    go_ret
    exact ⟨rfl, HB.out.alloc hw1 _⟩
  have e1 : (t.toList == p.toList) = false := by rw [HEQ.out]; simpa using hTP
  have HNE : Hid (¬ T = P) := hTP
  clear hTP
  go_wp2_with fail
  refine (zbuild_at T t HT.out HTL.out _).mono ?_
  rintro e w2 ⟨q, rfl, _, hq, hb2⟩
  have HB2 : Hid (Below w.heap.size w w2) := (HB.out.alloc hw1 _).trans (hb2.mono (HB.out.alloc hw1 _).size)
  have HQ : Hid (Pat w2 q T) := hq
  clear hq hb2
  cases hm : matchB T P
  · have HM : Hid (matchB T P = false) := hm
    clear hm
    go_wp2_with fail
    refine (matches_at T P p HP.out false HM.out HTL.out HPB.out _ _ HQ.out).mono ?_
    rintro e w3 ⟨rfl, q3, rfl⟩
    go_wp2
    go_ret
    exact ⟨rfl, below_drewN HB2.out _⟩
  · have HM : Hid (matchB T P = true) := hm
    clear hm
    go_wp2_with fail
    refine (matches_at T P p HP.out true HM.out HTL.out HPB.out _ _ HQ.out).mono ?_
    rintro e w3 ⟨rfl, q3, hw3⟩
    have HB3 : Hid (Below w.heap.size w w3) := by show Below _ _ _; rw [hw3]; exact below_drewN HB2.out _
    have HQ3 : Hid (Pat w3 q T) := by show Pat _ _ _; rw [hw3]; exact HQ.out.kept (below_drewN (Below.refl _ _) _)
    clear hw3 q3
    go_wp2_with fail
    refine (zbuild_at P p HP.out HPL.out _).mono ?_
    rintro e w4 ⟨x, rfl, _, hx, hb4⟩
    have HB4 : Hid (Below w.heap.size w w4) := HB3.out.trans (hb4.mono HB3.out.size)
    have HX : Hid (Pat w4 x P) := hx
    have HQ4 : Hid (Pat w4 q T) := HQ3.out.kept hb4
    clear hx hb4
    go_wp2_with fail
    refine (matches_at P P p HP.out true (match_self P HP0.out HG0.out) HPL.out HPB.out _ _ HX.out).mono ?_
    rintro e w5 ⟨rfl, q5, hw5⟩
    have HB5 : Hid (Below w.heap.size w w5) := by show Below _ _ _; rw [hw5]; exact below_drewN HB4.out _
    have HQ5 : Hid (Pat w5 q T) := by show Pat _ _ _; rw [hw5]; exact HQ4.out.kept (below_drewN (Below.refl _ _) _)
    have HX5 : Hid (Pat w5 x P) := by show Pat _ _ _; rw [hw5]; exact HX.out.kept (below_drewN (Below.refl _ _) _)
    clear hw5 q5
    go_wp2_with fail
    refine (beats_exact P T HP0.out HG0.out (match_other HM.out HNE.out) _ _ _ HX5.out HQ5.out).mono ?_
    rintro e w6 ⟨rfl, q6, rfl⟩
    go_wp2
    go_ret
    exact ⟨rfl, below_drewN HB5.out _⟩
end Go.Proofs.Qxb6001440a
