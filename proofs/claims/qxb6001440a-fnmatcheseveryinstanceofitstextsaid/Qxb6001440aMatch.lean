import Derived.Test.Qxb6001440aPat
namespace Go.Proofs.Qxb6001440a
open Go.RowKit

/-- What matches answers. -/
def matchB (T path : List UInt8) : Bool :=
  if plus T = 0 then (if globB T then Lib.hasPrefix path (body T) else decide (path = T)) else mt (globB T) (segs T) path true

theorem ret_bool {a b : Bool} (h : a = b) : Ending.returned (.bool a) = .returned (.bool b) := by rw [h]

theorem hasPrefix_at (a b : ByteArray) (A B : List UInt8) (ha : a = ofL A) (hb : b = ofL B) (v : Bool) (hv : Lib.hasPrefix A B = v) (w : World) :
    Calls Try.prog 21 #[.string a, .string b] w fun e w' => e = .returned (.bool v) ∧ w' = w := by
  subst ha
  subst hb
  subst hv
  exact Try.strings_HasPrefix (ofL A) (ofL B) w

theorem glob_pos {T : List UInt8} (h : globB T = true) : 0 < T.length := by
  cases T with
  | nil => simp [globB] at h
  | cons a l => simp

set_option maxRecDepth 20000 in
set_option maxHeartbeats 1000000 in
theorem matches_plain (w : World) (pb : Nat) (T path : List UInt8) (hP : Pat w pb T) (hT : T.length ≤ 65536) (h0 : plus T = 0) :
    Calls Try.prog 19 #[.pointer (some ⟨pb, 0, none⟩), .string (ofL path)] w fun e w' => e = .returned (.bool (matchB T path)) ∧ ∃ q, w' = w.drewN q := by
  have q23 : ∀ (w : World) (a : Option Addr) (n c n' c' : Nat), (binOp .eql 23 (.slice a n c) (.slice none n' c')).run Try.prog w = .ok (.bool a.isNone) w := fun w a n c n' c' => Lib.run_eql_slice_nil w _ _ a n c n' c' Try.underlying23
  have c0 := hP.c0
  have c1 := hP.c1
  have c2 : w.cell? ⟨pb, 2, none⟩ = some (.slice none 0 0) := by
    rcases hP.c2 with ⟨_, h⟩ | ⟨h, _⟩
    · exact h
    · omega
  have hsz := ofL_size T
  obtain ⟨t, ht⟩ : ∃ t, t = ofL T := ⟨_, rfl⟩
  rw [← ht] at c0 hsz
  obtain ⟨x, hx⟩ : ∃ x, x = ofL path := ⟨_, rfl⟩
  rw [← hx]
  have HT : Hid (t = ofL T) := ht
  have HX : Hid (x = ofL path) := hx
  have HPOS := fun h => glob_pos (T := T) h
  have HM : Hid (matchB T path = if globB T then Lib.hasPrefix path (body T) else decide (path = T)) := by
    show matchB T path = _
    unfold matchB
    rw [if_pos h0]
  cases hg : globB T
  · rw [hg] at c1
    clear ht hx h0 hsz HPOS
    go_enter Try.func19, Try.ntmps19
    go_wp2
    go_ret
    refine ⟨ret_bool ?_, 0, rfl⟩
    rw [HM.out, hg]
    show (x.toList == t.toList) = _
    rw [HX.out, HT.out, ofL_toList, ofL_toList, if_neg (by simp)]
    rw [Bool.eq_iff_iff]
    simp
  · rw [hg] at c1
    have hpos := HPOS hg
    have hbd : body T = T.dropLast := by unfold body; rw [hg]; rfl
    have hex := body_of ht
    rw [← hbd] at hex
    obtain ⟨bs, hbs⟩ : ∃ bs, bs = ofL (body T) := ⟨_, rfl⟩
    rw [← hbs] at hex
    have HBS : Hid (bs = ofL (body T)) := hbs
    have hs1 : 1 ≤ t.size := by omega
    have hs2 : t.size ≤ 65536 := by omega
    have i1 : (0 : Int) ≤ (t.size : Int) - 1 := by omega
    have i2 : ((t.size : Int) - 1).toNat = t.size - 1 := by omega
    have i3 : IntKind.i64.wrap ((t.size : Int) - 1) = (t.size : Int) - 1 := by rw [IntKind.wrap_i64]; omega
    obtain ⟨v, hv⟩ : ∃ v, Lib.hasPrefix path (body T) = v := ⟨_, rfl⟩
    have HV : Hid (Lib.hasPrefix path (body T) = v) := hv
    clear ht hx h0 hsz HPOS hbd hbs hpos hv
    go_enter Try.func19, Try.ntmps19
    go_wp2
    go_quiet ((go_at_call 21; exact Calls.quiet_of_same (hasPrefix_at _ _ _ _ HX.out HBS.out v HV.out _)))
    go_wp2
    go_ret
    refine ⟨ret_bool ?_, _, rfl⟩
    rw [HM.out, hg, if_pos rfl]
    exact HV.out.symm

/-- The loop's step, as the walk goes it. -/
theorem mt_more (gl : Bool) (S : List UInt8) (ws : List (List UInt8)) (rest : List UInt8) : mt gl (S :: ws) rest false = false := by unfold mt; simp
theorem mt_plus (gl : Bool) (ws : List (List UInt8)) (rest : List UInt8) : mt gl ([43] :: ws) rest true = if (cutB rest).1 = [] then false else mt gl ws (cutB rest).2.1 (cutB rest).2.2 := by
  conv => lhs; unfold mt
  rw [if_neg (by simp), if_pos rfl]
theorem mt_last (S : List UInt8) (rest : List UInt8) (h : S ≠ [43]) : mt true [S] rest true = if Lib.hasPrefix (cutB rest).1 S then mt true [] (cutB rest).2.1 (cutB rest).2.2 else false := by
  conv => lhs; unfold mt
  rw [if_neg (by simp), if_neg h, if_pos ⟨rfl, rfl⟩]
theorem mt_word (gl : Bool) (S : List UInt8) (ws : List (List UInt8)) (rest : List UInt8) (h : S ≠ [43]) (h2 : ¬ (gl = true ∧ ws = [])) : mt gl (S :: ws) rest true = if (cutB rest).1 = S then mt gl ws (cutB rest).2.1 (cutB rest).2.2 else false := by
  conv => lhs; unfold mt
  rw [if_neg (by simp), if_neg h, if_neg h2]

theorem cutB_le (l : List UInt8) : (cutB l).1.length ≤ l.length ∧ (cutB l).2.1.length ≤ l.length := by
  induction l with
  | nil => simp [cutB]
  | cons c l ih =>
    unfold cutB
    split
    · simp
    · simp; omega

theorem drop_cons (xs : List (List UInt8)) (k : Nat) (h : k < xs.length) : xs.drop k = xs.getD k [] :: xs.drop (k + 1) := by
  rw [List.drop_eq_getElem_cons h, List.getD_eq_getElem?_getD, List.getElem?_eq_getElem h]
  rfl

set_option maxRecDepth 20000 in
set_option maxHeartbeats 2000000 in
theorem matches_plus (w : World) (pb : Nat) (T path : List UInt8) (hP : Pat w pb T) (hT : T.length ≤ 65536) (hpath : path.length ≤ 1099511627776) (h0 : 0 < plus T) :
    Calls Try.prog 19 #[.pointer (some ⟨pb, 0, none⟩), .string (ofL path)] w fun e w' => e = .returned (.bool (matchB T path)) ∧ ∃ q, w' = w.drewN q := by
  have q23 : ∀ (w : World) (a : Option Addr) (n c n' c' : Nat), (binOp .eql 23 (.slice a n c) (.slice none n' c')).run Try.prog w = .ok (.bool a.isNone) w := fun w a n c n' c' => Lib.run_eql_slice_nil w _ _ a n c n' c' Try.underlying23
  have c1 := hP.c1
  obtain ⟨g, cap, hg, c2, hcell⟩ : ∃ g cap, g < w.heap.size ∧ w.cell? ⟨pb, 2, none⟩ = some (.slice (some ⟨g, 0, none⟩) (segs T).length cap) ∧ ∀ i, i < (segs T).length → w.cell? ⟨g, i, none⟩ = some (.string (ofL ((segs T).getD i []))) := by
    rcases hP.c2 with ⟨h, _⟩ | ⟨_, h⟩
    · omega
    · exact h
  have hN1 : (segs T).length ≤ 65537 := by
    have := split_count (body T)
    have hb : (body T).length ≤ T.length := by unfold body; split <;> simp
    unfold segs
    omega
  obtain ⟨N, hN⟩ : ∃ N, N = (segs T).length := ⟨_, rfl⟩
  rw [← hN] at c2 hcell hN1
  have HN : Hid (N = (segs T).length) := hN
  have HCELL : Hid (∀ i, i < N → w.cell? ⟨g, i, none⟩ = some (.string (ofL ((segs T).getD i [])))) := hcell
  obtain ⟨gl, hgl⟩ : ∃ gl, gl = globB T := ⟨_, rfl⟩
  rw [← hgl] at c1
  obtain ⟨R, hR⟩ : ∃ R, R = matchB T path := ⟨_, rfl⟩
  rw [← hR]
  have HR : Hid (mt gl (segs T) path true = R) := by
    show _ = _
    rw [hR, hgl]
    unfold matchB
    rw [if_neg (by omega)]
  obtain ⟨L, hL⟩ : ∃ L, L = path.length := ⟨_, rfl⟩
  have HL : Hid (L = path.length) := hL
  have hL1 : L ≤ 1099511627776 := by omega
  clear hN hcell hgl hR hL h0 hP hT hpath
  go_enter Try.func19, Try.ntmps19
  go_wp2
  go_loopg [5, 6, 7, 8, 9, 44, 57, 62, 81] N (fun gh r m _ _ _ i _ _ _ wr => ∃ (k : Nat) (rest : List UInt8) (more : Bool) (q : Nat), k ≤ N ∧ i = .int .i64 k ∧ r = .string (ofL rest) ∧ m = .bool more ∧ Hid (mt gl ((segs T).drop k) rest more = R) ∧ Hid (rest.length ≤ L) ∧ wr = w.drewN q ∧ gh = N - k)
  case atStart => exact ⟨0, path, true, 0, by omega, rfl, rfl, rfl, HR.out, by show _ ≤ _; have := HL.out; omega, rfl, rfl⟩
  case round =>
    obtain ⟨k, rest, more, q, hk, rfl, rfl, rfl, HM, HRL, rfl, rfl⟩ := hrel
    clear HR
    by_cases hlt : k < N
    · have hdrop := drop_cons (segs T) k (by have := HN.out; omega)
      have cs := HCELL.out k hlt
      obtain ⟨S, hS⟩ : ∃ S, S = (segs T).getD k [] := ⟨_, rfl⟩
      rw [← hS] at cs hdrop
      have HM2 : Hid (mt gl (S :: (segs T).drop (k + 1)) rest more = R) := by
        show _ = _
        rw [← hdrop]
        exact HM.out
      have HWS : Hid ((segs T).drop (k + 1) = [] ↔ k + 1 = N) := by
        show _ ↔ _
        rw [List.drop_eq_nil_iff, ← HN.out]
        omega
      clear hdrop hS HM
      obtain ⟨x, hx⟩ : ∃ x, x = ofL S := ⟨_, rfl⟩
      rw [← hx] at cs
      have tx : x.toList = S := by rw [hx, ofL_toList]
      have HX : Hid (x = ofL S) := hx
      clear hx
      cases more
      · have hRf : R = false := by rw [← HM2.out, mt_more]
        subst hRf
        go_wp2
        go_ret
        exact ⟨rfl, _, rfl⟩
      · have hle := cutB_le rest
        have HCUT := fun W => cut_any rest (by have := HRL.out; omega) W
        have hmt1 := mt_plus gl ((segs T).drop (k + 1)) rest
        have hmt2 := mt_last S rest
        have hmt3 := mt_word gl S ((segs T).drop (k + 1)) rest
        obtain ⟨A, hA⟩ : ∃ A, A = (cutB rest).1 := ⟨_, rfl⟩
        obtain ⟨B, hB⟩ : ∃ B, B = (cutB rest).2.1 := ⟨_, rfl⟩
        obtain ⟨m, hm⟩ : ∃ m, m = (cutB rest).2.2 := ⟨_, rfl⟩
        rw [← hA, ← hB, ← hm] at HCUT hmt1 hmt2 hmt3
        rw [← hA, ← hB] at hle
        obtain ⟨a, ha⟩ : ∃ a, a = ofL A := ⟨_, rfl⟩
        rw [← ha] at HCUT
        have ta : a.toList = A := by rw [ha, ofL_toList]
        have HA : Hid (a = ofL A) := ha
        have HCUT2 : Hid (∀ W, Calls Try.prog 22 #[.string (ofL rest), .string ⟨#[47]⟩] W fun e w' => e = .returned (.tuple #[.string a, .string (ofL B), .bool m]) ∧ ∃ q, w' = W.drewN q) := HCUT
        have HB : Hid (B.length ≤ L) := by show _ ≤ _; have := HRL.out; omega
        have HT1 : Hid (mt gl ([43] :: (segs T).drop (k + 1)) rest true = if A = [] then false else mt gl ((segs T).drop (k + 1)) B m) := hmt1
        have HT2 : Hid (S ≠ [43] → mt true [S] rest true = if Lib.hasPrefix A S then mt true [] B m else false) := hmt2
        have HT3 : Hid (S ≠ [43] → ¬ (gl = true ∧ (segs T).drop (k + 1) = []) → mt gl (S :: (segs T).drop (k + 1)) rest true = if A = S then mt gl ((segs T).drop (k + 1)) B m else false) := hmt3
        clear hle hmt1 hmt2 hmt3 hA hB hm ha HCUT
        by_cases h43 : S = [43]
        · subst h43
          have hstep := HM2.out
          rw [HT1.out] at hstep
          by_cases hA0 : A = []
          · rw [if_pos hA0] at hstep
            subst hstep
            subst hA0
            go_wp2_with fail
            refine (HCUT2.out _).mono ?_
            rintro e w' ⟨rfl, q2, rfl⟩
            go_wp2
            go_ret
            exact ⟨rfl, _, rfl⟩
          · rw [if_neg hA0] at hstep
            have HM3 : Hid (mt gl ((segs T).drop (k + 1)) B m = R) := hstep
            clear hstep
            have hA1 : A.isEmpty = false := by simpa using hA0
            have hA2 : (A == []) = false := by simpa using hA0
            go_wp2_with fail
            refine (HCUT2.out _).mono ?_
            rintro e w' ⟨rfl, q2, rfl⟩
            go_wp2
            go_roundg (N - (k + 1))
            case measure => omega
            case rel => exact ⟨k + 1, B, m, _, by omega, by go_num, rfl, rfl, HM3.out, HB.out, rfl, rfl⟩
        · have e43 : (S == [43]) = false := by simpa using h43
          by_cases hgk : gl = true ∧ k + 1 = N
          · obtain ⟨rfl, hkN⟩ := hgk
            have hws := HWS.out.2 hkN
            have hstep := HM2.out
            rw [hws, HT2.out h43] at hstep
            have ekN : ((k : Int) == (N : Int) - 1) = true := by simp; omega
            cases hp : Lib.hasPrefix A S
            · rw [hp, if_neg (by simp)] at hstep
              subst hstep
              have HP : Hid (Lib.hasPrefix A S = false) := hp
              clear hp hws hkN
              go_wp2_with fail
              refine (HCUT2.out _).mono ?_
              rintro e w' ⟨rfl, q2, rfl⟩
              go_wp2_with fail
              refine (hasPrefix_at _ _ _ _ HA.out HX.out _ HP.out _).mono ?_
              rintro e w' ⟨rfl, hw⟩
              obtain rfl := hw.symm
              go_wp2
              go_ret
              exact ⟨rfl, _, rfl⟩
            · rw [hp, if_pos rfl] at hstep
              have HM3 : Hid (mt true ((segs T).drop (k + 1)) B m = R) := by show _ = _; rw [hws]; exact hstep
              have HP : Hid (Lib.hasPrefix A S = true) := hp
              clear hp hws hkN hstep
              go_wp2_with fail
              refine (HCUT2.out _).mono ?_
              rintro e w' ⟨rfl, q2, rfl⟩
              go_wp2_with fail
              refine (hasPrefix_at _ _ _ _ HA.out HX.out _ HP.out _).mono ?_
              rintro e w' ⟨rfl, hw⟩
              obtain rfl := hw.symm
              go_wp2
              go_roundg (N - (k + 1))
              case measure => omega
              case rel => exact ⟨k + 1, B, m, _, by omega, by go_num, rfl, rfl, HM3.out, HB.out, rfl, rfl⟩
          · have hstep := HM2.out
            rw [HT3.out h43 (fun h => hgk ⟨h.1, HWS.out.1 h.2⟩)] at hstep
            have hgk2 : gl = false ∨ (gl = true ∧ ((k : Int) == (N : Int) - 1) = false) := by
              cases gl
              · exact .inl rfl
              · exact .inr ⟨rfl, by simp; intro h; exact hgk ⟨rfl, by omega⟩⟩
            clear hgk
            by_cases hAS : A = S
            · rw [if_pos hAS] at hstep
              have HM3 : Hid (mt gl ((segs T).drop (k + 1)) B m = R) := hstep
              clear hstep
              subst hAS
              rcases hgk2 with rfl | ⟨rfl, ekN⟩
              all_goals
                go_wp2_with fail
                refine (HCUT2.out _).mono ?_
                rintro e w' ⟨rfl, q2, rfl⟩
                go_wp2
                go_roundg (N - (k + 1))
                case measure => omega
                case rel => exact ⟨k + 1, B, m, _, by omega, by go_num, rfl, rfl, HM3.out, HB.out, rfl, rfl⟩
            · rw [if_neg hAS] at hstep
              subst hstep
              have hAS1 : (A == S) = false := by simpa using hAS
              have hAS2 : (A != S) = true := by simpa using hAS
              rcases hgk2 with rfl | ⟨rfl, ekN⟩
              all_goals
                go_wp2_with fail
                refine (HCUT2.out _).mono ?_
                rintro e w' ⟨rfl, q2, rfl⟩
                go_wp2
                go_ret
                exact ⟨rfl, _, rfl⟩
    · have hnil : (segs T).drop k = [] := List.drop_eq_nil_iff.2 (by have := HN.out; omega)
      have hfin := HM.out
      rw [hnil] at hfin
      have HF : Hid ((gl || !more) = R) := hfin
      clear hnil hfin
      cases gl
      all_goals
        go_wp2
        go_ret
        exact ⟨ret_bool (by rw [← HF.out]; rfl), _, rfl⟩

theorem matches_any (w : World) (pb : Nat) (T path : List UInt8) (hP : Pat w pb T) (hT : T.length ≤ 65536) (hpath : path.length ≤ 1099511627776) :
    Calls Try.prog 11 #[.pointer (some ⟨pb, 0, none⟩), .string (ofL path)] w fun e w' => e = .returned (.bool (matchB T path)) ∧ ∃ q, w' = w.drewN q := by
  have H : Calls Try.prog 19 #[.pointer (some ⟨pb, 0, none⟩), .string (ofL path)] w fun e w' => e = .returned (.bool (matchB T path)) ∧ ∃ q, w' = w.drewN q := by
    rcases Nat.eq_zero_or_pos (plus T) with h | h
    · exact matches_plain w pb T path hP hT h
    · exact matches_plus w pb T path hP hT hpath h
  have HH : Hid (Calls Try.prog 19 #[.pointer (some ⟨pb, 0, none⟩), .string (ofL path)] w fun e w' => e = .returned (.bool (matchB T path)) ∧ ∃ q, w' = w.drewN q) := H
  clear H hP
  go_enter Try.func11, Try.ntmps11
  go_wp2_with fail
  refine HH.out.mono ?_
  rintro e w' ⟨rfl, q, rfl⟩
  go_wp2
  go_ret
  exact ⟨rfl, _, rfl⟩
end Go.Proofs.Qxb6001440a
