/-
  PLAIN LAWS of the matcher: openings of forms, the longest suffix that is an opening, the longest form at the end. No Go in sight.
-/
namespace Go.Proofs.Qxb6600140a.Plain

abbrev Str := List UInt8

/-- p begins a form. -/
def isPre (F : List Str) (p : Str) : Bool := F.any (fun f => p.isPrefixOf f)

theorem isPre_iff (F : List Str) (p : Str) : isPre F p = true ↔ ∃ f ∈ F, p <+: f := by
  unfold isPre
  rw [List.any_eq_true]
  constructor
  · rintro ⟨f, h1, h2⟩
    exact ⟨f, h1, List.isPrefixOf_iff_prefix.1 h2⟩
  · rintro ⟨f, h1, h2⟩
    exact ⟨f, h1, List.isPrefixOf_iff_prefix.2 h2⟩

theorem isPre_nil (F : List Str) (h : F ≠ []) : isPre F [] = true := by
  cases F with
  | nil => exact absurd rfl h
  | cons f F => exact (isPre_iff _ _).2 ⟨f, by simp, List.nil_prefix⟩

theorem isPre_mem (F : List Str) (f : Str) (h : f ∈ F) : isPre F f = true := (isPre_iff _ _).2 ⟨f, h, List.prefix_refl _⟩

theorem isPre_left (F : List Str) (p q : Str) (h : isPre F (p ++ q) = true) : isPre F p = true := by
  obtain ⟨f, h1, h2⟩ := (isPre_iff _ _).1 h
  exact (isPre_iff _ _).2 ⟨f, h1, (List.prefix_append p q).trans h2⟩

/-- The longest suffix that begins a form. -/
def ls (F : List Str) : Str → Str
  | [] => []
  | a :: t => if isPre F (a :: t) then a :: t else ls F t

theorem ls_pre (F : List Str) (p : Str) (h : isPre F p = true) : ls F p = p := by
  cases p with
  | nil => rfl
  | cons a t => simp [ls, h]

theorem ls_not (F : List Str) (a : UInt8) (t : Str) (h : isPre F (a :: t) = false) : ls F (a :: t) = ls F t := by
  simp [ls, h]

theorem ls_isPre (F : List Str) (hF : F ≠ []) : ∀ p, isPre F (ls F p) = true
  | [] => isPre_nil F hF
  | a :: t => by
    cases h : isPre F (a :: t)
    · rw [ls_not F a t h]
      exact ls_isPre F hF t
    · rw [ls_pre F _ h]
      exact h

theorem ls_len (F : List Str) : ∀ p, (ls F p).length ≤ p.length
  | [] => Nat.le_refl _
  | a :: t => by
    cases h : isPre F (a :: t)
    · rw [ls_not F a t h]
      have := ls_len F t
      simp
      omega
    · rw [ls_pre F _ h]
      exact Nat.le_refl _

theorem ls_suffix (F : List Str) : ∀ p, ls F p <:+ p
  | [] => List.suffix_refl _
  | a :: t => by
    cases h : isPre F (a :: t)
    · rw [ls_not F a t h]
      exact (ls_suffix F t).trans (List.suffix_cons a t)
    · rw [ls_pre F _ h]
      exact List.suffix_refl _

/-- One byte more. -/
theorem ls_snoc (F : List Str) (c : UInt8) : ∀ t, ls F (t ++ [c]) = ls F (ls F t ++ [c])
  | [] => rfl
  | a :: t => by
    cases h : isPre F (a :: t)
    · rw [ls_not F a t h, ← ls_snoc F c t]
      have h2 : isPre F (a :: t ++ [c]) = false := by
        cases h3 : isPre F (a :: t ++ [c])
        · rfl
        · rw [isPre_left F _ _ h3] at h
          cases h
      exact ls_not F a (t ++ [c]) h2
    · rw [ls_pre F _ h]

theorem ls_append (F : List Str) (u : Str) : ∀ t : Str, ls F (u ++ t) = ls F (ls F u ++ t) := by
  have H : ∀ (n : Nat) (t : Str), t.length = n → ls F (u ++ t) = ls F (ls F u ++ t) := by
    intro n
    induction n with
    | zero =>
      intro t ht
      have : t = [] := List.eq_nil_of_length_eq_zero ht
      subst this
      simp only [List.append_nil]
      have : ∀ p : Str, ls F (ls F p) = ls F p := by
        intro p
        induction p with
        | nil => rfl
        | cons a t ih =>
          cases h : isPre F (a :: t)
          · rw [ls_not F a t h]; exact ih
          · rw [ls_pre F _ h, ls_pre F _ h]
      exact (this u).symm
    | succ n ih =>
      intro t ht
      have hne : t ≠ [] := by intro e; subst e; simp at ht
      have e := List.dropLast_concat_getLast hne
      rw [← e, ← List.append_assoc, ls_snoc, ih t.dropLast (by simp; omega), ← ls_snoc, List.append_assoc]
  exact fun t => H t.length t rfl

/-- The step along the failing links: not here, so one link on. -/
theorem ls_fail (F : List Str) (a : UInt8) (t : Str) (c : UInt8) (h : isPre F (a :: t ++ [c]) = false) : ls F (a :: t ++ [c]) = ls F (ls F t ++ [c]) := by
  rw [← ls_snoc]
  exact ls_not F a (t ++ [c]) h

/-- The longest form at the end. -/
def lf (F : List Str) : Str → Nat
  | [] => 0
  | a :: t => if (a :: t) ∈ F then t.length + 1 else lf F t

theorem lf_mem (F : List Str) (p : Str) (h : p ∈ F) : lf F p = p.length := by
  cases p with
  | nil => rfl
  | cons a t => simp [lf, h]

theorem lf_not (F : List Str) (a : UInt8) (t : Str) (h : (a :: t) ∉ F) : lf F (a :: t) = lf F t := by simp [lf, h]

theorem lf_ls (F : List Str) : ∀ t, lf F (ls F t) = lf F t
  | [] => rfl
  | a :: t => by
    cases h : isPre F (a :: t)
    · have h2 : (a :: t) ∉ F := fun m => by rw [isPre_mem F _ m] at h; cases h
      rw [ls_not F a t h, lf_not F a t h2]
      exact lf_ls F t
    · rw [ls_pre F _ h]

theorem lf_le (F : List Str) : ∀ p f, f ∈ F → f <:+ p → f.length ≤ lf F p
  | [], f, _, hs => by
    have : f = [] := List.suffix_nil.1 hs
    subst this
    exact Nat.le_refl _
  | a :: t, f, hf, hs => by
    by_cases h : (a :: t) ∈ F
    · rw [lf_mem F _ h]
      exact hs.length_le
    · rw [lf_not F a t h]
      rcases List.suffix_cons_iff.1 hs with e | e
      · subst e
        exact absurd hf h
      · exact lf_le F t f hf e

theorem lf_ex (F : List Str) : ∀ p, lf F p = 0 ∨ ∃ f ∈ F, f <:+ p ∧ f.length = lf F p
  | [] => .inl rfl
  | a :: t => by
    by_cases h : (a :: t) ∈ F
    · right
      exact ⟨_, h, List.suffix_refl _, (lf_mem F _ h).symm⟩
    · rw [lf_not F a t h]
      rcases lf_ex F t with e | ⟨f, h1, h2, h3⟩
      · exact .inl e
      · exact .inr ⟨f, h1, h2.trans (List.suffix_cons a t), h3⟩

theorem lf_len (F : List Str) (p : Str) : lf F p ≤ p.length := by
  rcases lf_ex F p with e | ⟨f, _, h2, h3⟩
  · omega
  · rw [← h3]; exact h2.length_le

/-- The longest form. -/
def maxF : List Str → Nat
  | [] => 0
  | f :: F => max f.length (maxF F)

theorem maxF_le : ∀ (F : List Str) f, f ∈ F → f.length ≤ maxF F
  | g :: F, f, h => by
    unfold maxF
    rcases List.mem_cons.1 h with e | e
    · subst e; omega
    · have := maxF_le F f e
      omega

theorem lf_maxF (F : List Str) (p : Str) : lf F p ≤ maxF F := by
  rcases lf_ex F p with e | ⟨f, h1, _, h3⟩
  · omega
  · rw [← h3]; exact maxF_le F f h1

theorem isPre_len (F : List Str) (p : Str) (h : isPre F p = true) : p.length ≤ maxF F := by
  obtain ⟨f, h1, h2⟩ := (isPre_iff _ _).1 h
  have := maxF_le F f h1
  have := h2.length_le
  omega

/-- Older text is forgotten. -/
theorem ls_forget (F : List Str) (t : Str) (h : maxF F ≤ t.length) : ∀ u : Str, ls F (u ++ t) = ls F t
  | [] => rfl
  | a :: u => by
    have h2 : isPre F (a :: (u ++ t)) = false := by
      cases h3 : isPre F (a :: (u ++ t))
      · rfl
      · have := isPre_len F _ h3
        simp at this
        omega
    show ls F (a :: (u ++ t)) = _
    rw [ls_not F a (u ++ t) h2]
    exact ls_forget F t h u

/-- Where the longest suffix is not empty it ends with the byte that was read. -/
theorem ls_last (F : List Str) (p : Str) (c : UInt8) (q : Str) (d : UInt8) (h : ls F (p ++ [c]) = q ++ [d]) : d = c := by
  have hs := ls_suffix F (p ++ [c])
  rw [h] at hs
  obtain ⟨r, hr⟩ := hs
  rw [← List.append_assoc] at hr
  have := List.append_inj' hr rfl
  simpa using this.2

end Go.Proofs.Qxb6600140a.Plain
