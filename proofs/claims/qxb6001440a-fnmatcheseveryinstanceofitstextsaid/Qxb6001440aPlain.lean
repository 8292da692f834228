import Derived.Lib.Strings
import Derived.Lib.Bytealg
import Derived.Lib.IndexLaws
namespace Go.Proofs.Qxb6001440a

/-! ### The plain functions: no Go in sight -/

/-- A text split at every slash: at least one piece. -/
def splitB : List UInt8 → List (List UInt8)
  | [] => [[]]
  | c :: l => if c = 47 then [] :: splitB l else
    match splitB l with
    | [] => [[c]]
    | h :: r => (c :: h) :: r

/-- The pieces, joined by slashes. -/
def joinB : List (List UInt8) → List UInt8
  | [] => []
  | [a] => a
  | a :: b :: r => a ++ 47 :: joinB (b :: r)

/-- What lies ahead of the first slash; what behind it; whether there is one. -/
def cutB : List UInt8 → List UInt8 × List UInt8 × Bool
  | [] => ([], [], false)
  | c :: l => if c = 47 then ([], l, true) else (c :: (cutB l).1, (cutB l).2.1, (cutB l).2.2)

theorem splitB_ne (l : List UInt8) : splitB l ≠ [] := by
  cases l with
  | nil => simp [splitB]
  | cons c l =>
    unfold splitB
    split
    · simp
    · split <;> simp

theorem splitB_pos (l : List UInt8) : 0 < (splitB l).length := List.length_pos_iff.2 (splitB_ne l)

/-- No slash in the first m bytes and one behind them: the first piece is they. -/
theorem splitB_hit (l : List UInt8) (m : Nat) (h : ∀ i, i < m → l[i]? ≠ some 47) (hm : l[m]? = some 47) : splitB l = l.take m :: splitB (l.drop (m + 1)) := by
  induction l generalizing m with
  | nil => simp at hm
  | cons c l ih =>
    cases m with
    | zero =>
      simp at hm
      subst hm
      simp [splitB]
    | succ m =>
      have hc : c ≠ 47 := by have := h 0 (by omega); simpa using this
      have ih' := ih m (fun i hi => by have := h (i + 1) (by omega); simpa using this) (by simpa using hm)
      show (if c = 47 then [] :: splitB l else match splitB l with | [] => [[c]] | h :: r => (c :: h) :: r) = _
      rw [if_neg hc, ih']
      rfl

/-- No slash: one piece. -/
theorem splitB_none (l : List UInt8) (h : ∀ i, i < l.length → l[i]? ≠ some 47) : splitB l = [l] := by
  induction l with
  | nil => rfl
  | cons c l ih =>
    have hc : c ≠ 47 := by have := h 0 (by simp); simpa using this
    have ih' := ih (fun i hi => by have := h (i + 1) (by simpa using hi); simpa using this)
    unfold splitB
    rw [if_neg hc, ih']

theorem join_split (l : List UInt8) : joinB (splitB l) = l := by
  induction l with
  | nil => rfl
  | cons c l ih =>
    unfold splitB
    by_cases hc : c = 47
    · rw [if_pos hc]
      have hne := splitB_ne l
      cases hs : splitB l with
      | nil => exact absurd hs hne
      | cons h r =>
        rw [hs] at ih
        simp [joinB, ih, hc]
    · rw [if_neg hc]
      have hne := splitB_ne l
      cases hs : splitB l with
      | nil => exact absurd hs hne
      | cons h r =>
        rw [hs] at ih
        cases r with
        | nil => simpa [joinB] using ih
        | cons b r => simp [joinB] at ih ⊢; exact ih

theorem split_no_slash (l : List UInt8) : ∀ s ∈ splitB l, (47 : UInt8) ∉ s := by
  induction l with
  | nil => simp [splitB]
  | cons c l ih =>
    unfold splitB
    by_cases hc : c = 47
    · rw [if_pos hc]
      intro s hs
      rcases List.mem_cons.1 hs with rfl | hs
      · simp
      · exact ih s hs
    · rw [if_neg hc]
      cases hs : splitB l with
      | nil => intro s h; simp at h; subst h; simp; exact fun e => hc e.symm
      | cons h r =>
        rw [hs] at ih
        intro s hm
        rcases List.mem_cons.1 hm with rfl | hm
        · simp
          exact ⟨fun e => hc e.symm, ih h (by simp)⟩
        · exact ih s (by simp [hm])

theorem cut_append (a b : List UInt8) (h : (47 : UInt8) ∉ a) : cutB (a ++ 47 :: b) = (a, b, true) := by
  induction a with
  | nil => simp [cutB]
  | cons c a ih =>
    have hc : c ≠ 47 := fun e => h (by simp [e])
    have ih' := ih (fun hm => h (by simp [hm]))
    show cutB (c :: (a ++ 47 :: b)) = _
    unfold cutB
    rw [if_neg hc, ih']

theorem cut_none (a : List UInt8) (h : (47 : UInt8) ∉ a) : cutB a = (a, [], false) := by
  induction a with
  | nil => rfl
  | cons c a ih =>
    have hc : c ≠ 47 := fun e => h (by simp [e])
    have ih' := ih (fun hm => h (by simp [hm]))
    unfold cutB
    rw [if_neg hc, ih']

/-- Behind a start without a slash the first piece begins with it. -/
theorem cut_start (a b : List UInt8) (h : (47 : UInt8) ∉ a) : ∃ c, (cutB (a ++ b)).1 = a ++ c := by
  induction a with
  | nil => exact ⟨_, rfl⟩
  | cons x a ih =>
    have hx : x ≠ 47 := fun e => h (by simp [e])
    obtain ⟨c, hc⟩ := ih (fun hm => h (by simp [hm]))
    refine ⟨c, ?_⟩
    show (cutB (x :: (a ++ b))).1 = _
    unfold cutB
    rw [if_neg hx, hc]
    rfl

/-- The loop of matches: the wanted pieces, what is left of the path, whether there is more. -/
def mt (glob : Bool) : List (List UInt8) → List UInt8 → Bool → Bool
  | [], _, more => glob || !more
  | w :: ws, rest, more =>
    if more = false then false
    else if w = [43] then (if (cutB rest).1 = [] then false else mt glob ws (cutB rest).2.1 (cutB rest).2.2)
    else if glob = true ∧ ws = [] then (if Lib.hasPrefix (cutB rest).1 w then mt glob ws (cutB rest).2.1 (cutB rest).2.2 else false)
    else if (cutB rest).1 = w then mt glob ws (cutB rest).2.1 (cutB rest).2.2 else false

/-- A piece with the filler put in. -/
def sub (F w : List UInt8) : List UInt8 := if w = [43] then F else w

theorem sub_no_slash (F w : List UInt8) (hF : (47 : UInt8) ∉ F) (hw : (47 : UInt8) ∉ w) : (47 : UInt8) ∉ sub F w := by
  unfold sub
  split
  · exact hF
  · exact hw

theorem hasPrefix_append (a b : List UInt8) : Lib.hasPrefix (a ++ b) a = true := by
  unfold Lib.hasPrefix
  exact List.isPrefixOf_iff_prefix.2 (List.prefix_append a b)

/-- A filler that is not empty: every such path is matched. -/
theorem mt_yes (glob : Bool) (F suf : List UInt8) (hF : (47 : UInt8) ∉ F) (hne : F ≠ []) (hs : glob = false → suf = []) :
    ∀ (ws : List (List UInt8)), ws ≠ [] → (∀ w ∈ ws, (47 : UInt8) ∉ w) → mt glob ws (joinB (ws.map (sub F)) ++ suf) true = true
  | [], h, _ => absurd rfl h
  | [w], _, hw => by
    have hsub := sub_no_slash F w hF (hw w (by simp))
    show mt glob [w] (sub F w ++ suf) true = true
    unfold mt
    rw [if_neg (by simp)]
    by_cases h43 : w = [43]
    · rw [if_pos h43]
      have hsF : sub F w = F := by simp [sub, h43]
      rw [hsF]
      obtain ⟨c, hc⟩ := cut_start F suf hF
      rw [if_neg (by rw [hc]; simp [hne])]
      cases glob with
      | true => simp [mt]
      | false => rw [hs rfl, List.append_nil, cut_none F hF]; simp [mt]
    · rw [if_neg h43]
      have hsF : sub F w = w := by simp [sub, h43]
      rw [hsF] at hsub ⊢
      cases glob with
      | true =>
        rw [if_pos ⟨rfl, rfl⟩]
        obtain ⟨c, hc⟩ := cut_start w suf hsub
        rw [hc, hasPrefix_append, if_pos rfl]
        simp [mt]
      | false =>
        rw [if_neg (by simp), hs rfl, List.append_nil, cut_none w hsub]
        simp [mt]
  | w :: b :: r, _, hw => by
    have hsub := sub_no_slash F w hF (hw w (by simp))
    have ih := mt_yes glob F suf hF hne hs (b :: r) (by simp) (fun x hx => hw x (by simp at hx ⊢; exact .inr hx))
    have e : joinB ((w :: b :: r).map (sub F)) ++ suf = sub F w ++ 47 :: (joinB ((b :: r).map (sub F)) ++ suf) := by simp [joinB]
    rw [e]
    unfold mt
    rw [if_neg (by simp), cut_append _ _ hsub]
    by_cases h43 : w = [43]
    · rw [if_pos h43]
      have hsF : sub F w = F := by simp [sub, h43]
      rw [hsF, if_neg hne]
      exact ih
    · rw [if_neg h43, if_neg (by simp)]
      have hsF : sub F w = w := by simp [sub, h43]
      rw [hsF, if_pos rfl]
      exact ih

/-- An empty filler, a plus among the pieces, nothing appended: no such path is matched. -/
theorem mt_no (glob : Bool) : ∀ (ws : List (List UInt8)), [43] ∈ ws → (∀ w ∈ ws, (47 : UInt8) ∉ w) → mt glob ws (joinB (ws.map (sub []))) true = false
  | [], h, _ => by simp at h
  | [w], h, hw => by
    have h43 : w = [43] := by have := List.mem_singleton.1 h; exact this.symm
    subst h43
    rfl
  | w :: b :: r, h, hw => by
    have hsub := sub_no_slash [] w (by simp) (hw w (by simp))
    have e : joinB ((w :: b :: r).map (sub [])) = sub [] w ++ 47 :: joinB ((b :: r).map (sub [])) := by simp [joinB]
    rw [e]
    unfold mt
    rw [if_neg (by simp), cut_append _ _ hsub]
    by_cases h43 : w = [43]
    · rw [if_pos h43]
      simp [sub, h43]
    · rw [if_neg h43, if_neg (by simp)]
      have hsF : sub [] w = w := by simp [sub, h43]
      rw [hsF, if_pos rfl]
      refine mt_no glob (b :: r) ?_ (fun x hx => hw x (by simp at hx ⊢; exact .inr hx))
      rcases List.mem_cons.1 h with h | h
      · exact absurd h.symm h43
      · exact h

/-- Where no piece is a plus nothing is put in. -/
theorem sub_same (F : List UInt8) (ws : List (List UInt8)) (h : [43] ∉ ws) : ws.map (sub F) = ws := by
  induction ws with
  | nil => rfl
  | cons w ws ih =>
    have h1 : w ≠ [43] := fun e => h (by simp [e])
    rw [List.map_cons, ih (fun hm => h (by simp [hm]))]
    simp [sub, h1]

end Go.Proofs.Qxb6001440a
