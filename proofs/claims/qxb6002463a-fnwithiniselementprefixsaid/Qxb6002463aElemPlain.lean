/-
  PLAIN LAWS: elements between slashes, their join, a prefix of elements. No Go in sight.
-/
namespace Go.Proofs.Qxb6002463a.Plain

/-- The pieces of a list between slashes. -/
def spl : List UInt8 → List (List UInt8)
  | [] => [[]]
  | c :: l => if c = 47 then [] :: spl l else match spl l with
    | [] => [[c]]
    | e :: es => (c :: e) :: es

theorem spl_ne : ∀ l, spl l ≠ []
  | [] => by simp [spl]
  | c :: l => by
    unfold spl
    split
    · simp
    · split <;> simp

theorem spl_slash (l : List UInt8) : spl (47 :: l) = [] :: spl l := by simp [spl]
theorem spl_other (c : UInt8) (l : List UInt8) (h : c ≠ 47) (e : List UInt8) (es : List (List UInt8)) (he : spl l = e :: es) : spl (c :: l) = (c :: e) :: es := by
  simp [spl, h, he]

/-- joinElems. -/
def joinL : List (List UInt8) → List UInt8
  | [] => []
  | [e] => e
  | e :: f :: es => e ++ 47 :: joinL (f :: es)

theorem joinL_cons (e : List UInt8) (es : List (List UInt8)) (h : es ≠ []) : joinL (e :: es) = e ++ 47 :: joinL es := by
  cases es with
  | nil => exact absurd rfl h
  | cons f es => rfl

theorem join_spl : ∀ l, joinL (spl l) = l
  | [] => rfl
  | c :: l => by
    have ih := join_spl l
    by_cases h : c = 47
    · subst h
      rw [spl_slash, joinL_cons _ _ (spl_ne l), ih]
      rfl
    · cases hs : spl l with
      | nil => exact absurd hs (spl_ne l)
      | cons e es =>
        rw [spl_other c l h e es hs]
        rw [hs] at ih
        cases es with
        | nil => simp only [joinL] at ih ⊢; rw [ih]
        | cons f fs => simp only [joinL] at ih ⊢; rw [← ih]; rfl

theorem joinL_append : ∀ (a b : List (List UInt8)), a ≠ [] → b ≠ [] → joinL (a ++ b) = joinL a ++ 47 :: joinL b
  | [], _, h, _ => absurd rfl h
  | [e], b, _, hb => by
    show joinL (e :: b) = _
    rw [joinL_cons e b hb]
    rfl
  | e :: f :: a, b, _, hb => by
    have ih := joinL_append (f :: a) b (by simp) hb
    show joinL (e :: (f :: a ++ b)) = joinL (e :: f :: a) ++ _
    rw [joinL_cons e (f :: a ++ b) (by simp), ih, joinL_cons e (f :: a) (by simp)]
    simp

theorem spl_append : ∀ (d r : List UInt8), spl (d ++ 47 :: r) = spl d ++ spl r
  | [], r => by
    show spl (47 :: r) = _
    rw [spl_slash]
    rfl
  | c :: d, r => by
    have ih := spl_append d r
    by_cases h : c = 47
    · subst h
      show spl (47 :: (d ++ 47 :: r)) = _
      rw [spl_slash, spl_slash, ih]
      rfl
    · cases hs : spl d with
      | nil => exact absurd hs (spl_ne d)
      | cons e es =>
        rw [hs] at ih
        show spl (c :: (d ++ 47 :: r)) = _
        rw [spl_other c _ h e (es ++ spl r) ih, spl_other c d h e es hs]
        rfl

/-- The cut: n is d, a slash and r exactly where d's pieces are a proper prefix of n's. -/
theorem cut_iff (n d : List UInt8) : (∃ r, n = d ++ 47 :: r) ↔ (spl d).length < (spl n).length ∧ (spl n).take (spl d).length = spl d := by
  constructor
  · rintro ⟨r, rfl⟩
    rw [spl_append]
    have := List.length_pos_iff.2 (spl_ne r)
    simp
    omega
  · rintro ⟨h1, h2⟩
    refine ⟨joinL ((spl n).drop (spl d).length), ?_⟩
    have hne : (spl n).drop (spl d).length ≠ [] := by
      intro h
      have := List.drop_eq_nil_iff.1 h
      omega
    have e : spl n = spl d ++ (spl n).drop (spl d).length := by
      conv => lhs; rw [← List.take_append_drop (spl d).length (spl n), h2]
    have j := joinL_append _ _ (spl_ne d) hne
    rw [← e, join_spl, join_spl] at j
    exact j

theorem cut_rest (d r : List UInt8) : joinL ((spl (d ++ 47 :: r)).drop (spl d).length) = r := by
  rw [spl_append]
  simp [join_spl]

/-- elemsOf. -/
def els (s : List UInt8) : List (List UInt8) := if s = [47] then [] else spl (s.drop 1)

/-- The answer of 'within', and what it asks. -/
def wOk (n d : List UInt8) : Bool := decide ((els d).length < (els n).length) && decide ((els n).take (els d).length = els d)

theorem wOk_root (n : List UInt8) : wOk n [47] = decide (n ≠ [47]) := by
  unfold wOk els
  by_cases h : n = [47]
  · simp [h]
  · have := List.length_pos_iff.2 (spl_ne (n.drop 1))
    simp [h]
    exact List.length_pos_iff.2 (spl_ne _)

theorem rest_root (n : List UInt8) (h : n ≠ [47]) : joinL ((els n).drop (els [47]).length) = n.drop 1 := by
  unfold els
  rw [if_neg h]
  simp [join_spl]

/-- Away from the root: both begin with a slash. -/
theorem wOk_sub (n d : List UInt8) (hn : ∃ x, n = 47 :: x) (hd : ∃ x, d = 47 :: x) (h : d ≠ [47]) : wOk n d = decide ((d ++ [47]) <+: n) := by
  obtain ⟨n', rfl⟩ := hn
  obtain ⟨d', rfl⟩ := hd
  by_cases h1 : n' = []
  · subst h1
    unfold wOk els
    rw [if_neg h]
    simp
  · unfold wOk els
    have h1' : (47 : UInt8) :: n' ≠ [47] := by simpa using h1
    rw [if_neg h, if_neg h1']
    have e := cut_iff n' d'
    rw [Bool.eq_iff_iff]
    simp only [List.drop_succ_cons, List.drop_zero, Bool.and_eq_true, decide_eq_true_eq]
    rw [← e]
    constructor
    · rintro ⟨r, rfl⟩
      exact ⟨r, by simp⟩
    · rintro ⟨r, hr⟩
      refine ⟨r, ?_⟩
      simp at hr
      exact hr.symm

theorem rest_sub (n d : List UInt8) (hn : ∃ x, n = 47 :: x) (hd : ∃ x, d = 47 :: x) (h : d ≠ [47]) (hp : (d ++ [47]) <+: n) :
    joinL ((els n).drop (els d).length) = n.drop (d.length + 1) := by
  obtain ⟨n', rfl⟩ := hn
  obtain ⟨d', rfl⟩ := hd
  obtain ⟨r, hr⟩ := hp
  have hr' : n' = d' ++ 47 :: r := by simp at hr; exact hr.symm
  subst hr'
  unfold els
  rw [if_neg h, if_neg (by simp)]
  simp only [List.drop_succ_cons, List.drop_zero]
  rw [cut_rest]
  simp

/-! ### What the loop of elemsOf holds -/
def pre (p : List UInt8) : List (List UInt8) → List (List UInt8)
  | [] => [p]
  | e :: es => (p ++ e) :: es
def seg (l : List UInt8) (st k : Nat) : List UInt8 := (l.drop st).take (k - st)

theorem pre_nil (x : List (List UInt8)) (h : x ≠ []) : pre [] x = x := by
  cases x with
  | nil => exact absurd rfl h
  | cons e es => rfl

theorem seg_self (l : List UInt8) (k : Nat) : seg l k k = [] := by simp [seg]

theorem seg_step (l : List UInt8) (st k : Nat) (h : st ≤ k) (hk : k < l.length) : seg l st (k + 1) = seg l st k ++ [l[k]] := by
  unfold seg
  have e : k + 1 - st = (k - st) + 1 := by omega
  rw [e, List.take_succ_eq_append_getElem (by simp; omega)]
  congr 2
  rw [List.getElem_drop]
  congr 1
  omega

/-- The loop stands at k. -/
def At (l : List UInt8) (out : List (List UInt8)) (st k : Nat) : Prop := out ++ pre (seg l st k) (spl (l.drop k)) = els l

theorem at_start (l : List UInt8) (h : l ≠ [47]) : At l [] 1 1 := by
  unfold At
  rw [seg_self, pre_nil _ (spl_ne _)]
  unfold els
  rw [if_neg h]
  rfl

theorem at_slash (l : List UInt8) (out : List (List UInt8)) (st k : Nat) (hk : k < l.length) (hc : l[k] = 47) (h : At l out st k) : At l (out ++ [seg l st k]) (k + 1) (k + 1) := by
  unfold At at h ⊢
  rw [List.drop_eq_getElem_cons hk, hc, spl_slash] at h
  rw [seg_self, pre_nil _ (spl_ne _)]
  simpa [pre] using h

theorem at_other (l : List UInt8) (out : List (List UInt8)) (st k : Nat) (hst : st ≤ k) (hk : k < l.length) (hc : l[k] ≠ 47) (h : At l out st k) : At l out st (k + 1) := by
  unfold At at h ⊢
  rw [List.drop_eq_getElem_cons hk] at h
  rw [seg_step l st k hst hk]
  cases hs : spl (l.drop (k + 1)) with
  | nil => exact absurd hs (spl_ne _)
  | cons e es =>
    rw [spl_other _ _ hc e es hs] at h
    simpa [pre] using h

theorem at_end (l : List UInt8) (out : List (List UInt8)) (st : Nat) (h : At l out st l.length) : out ++ [seg l st l.length] = els l := by
  unfold At at h
  simpa [spl, pre] using h

theorem spl_len : ∀ l, (spl l).length ≤ l.length + 1
  | [] => by simp [spl]
  | c :: l => by
    have ih := spl_len l
    by_cases h : c = 47
    · subst h
      rw [spl_slash]
      simpa using ih
    · cases hs : spl l with
      | nil => exact absurd hs (spl_ne l)
      | cons e es =>
        rw [spl_other c l h e es hs]
        rw [hs] at ih
        simp at ih ⊢
        omega

theorem els_len (l : List UInt8) : (els l).length ≤ l.length + 1 := by
  unfold els
  split
  · simp
  · have := spl_len (l.drop 1)
    simp at this ⊢
    omega

theorem at_out_len (l : List UInt8) (out : List (List UInt8)) (st k : Nat) (h : At l out st k) : out.length ≤ l.length := by
  have := els_len l
  unfold At at h
  rw [← h] at this
  have hp : 0 < (pre (seg l st k) (spl (l.drop k))).length := by unfold pre; split <;> simp
  simp at this
  omega

/-! ### What the loop of joinElems holds -/
theorem joinL_take (es : List (List UInt8)) (k : Nat) (hk : k < es.length) (h0 : 0 < k) : joinL (es.take (k + 1)) = joinL (es.take k) ++ 47 :: es[k] := by
  rw [List.take_succ_eq_append_getElem hk, joinL_append _ _ (by intro h; have := congrArg List.length h; rw [List.length_take] at this; simp only [List.length_nil] at this; omega) (by simp)]
  rfl

theorem joinL_take_le (es : List (List UInt8)) (k : Nat) : (joinL (es.take k)).length ≤ (joinL es).length := by
  by_cases h1 : es.take k = []
  · rw [h1]; simp [joinL]
  · by_cases h2 : es.drop k = []
    · rw [List.take_of_length_le (List.drop_eq_nil_iff.1 h2)]; exact Nat.le_refl _
    · have := joinL_append _ _ h1 h2
      rw [List.take_append_drop] at this
      rw [this]
      simp

theorem joinL_more (es : List (List UInt8)) (k : Nat) (hk : k < es.length) : joinL (es.take (k + 1)) = (if 0 < k then joinL (es.take k) ++ [47] else []) ++ es[k] := by
  by_cases h : 0 < k
  · rw [joinL_take es k hk h, if_pos h]
    simp
  · have : k = 0 := by omega
    subst this
    rw [List.take_succ_eq_append_getElem hk]
    simp [joinL]

theorem joinL_last_le (es : List (List UInt8)) (k : Nat) (hk : k < es.length) : es[k].length ≤ (joinL (es.take (k + 1))).length := by
  rw [joinL_more es k hk]
  simp

theorem joinL_drop_le (es : List (List UInt8)) (k : Nat) : (joinL (es.drop k)).length ≤ (joinL es).length := by
  by_cases h1 : es.take k = []
  · have h2 : es.drop k = es := by
      conv => rhs; rw [← List.take_append_drop k es, h1]
      rfl
    rw [h2]
    exact Nat.le_refl _
  · by_cases h2 : es.drop k = []
    · rw [h2]; simp [joinL]
    · have := joinL_append _ _ h1 h2
      rw [List.take_append_drop] at this
      rw [this]
      simp
      omega

theorem joinL_els (s : List UInt8) : (joinL (els s)).length ≤ s.length := by
  unfold els
  split
  · simp [joinL]
  · rw [join_spl]
    simp

end Go.Proofs.Qxb6002463a.Plain
