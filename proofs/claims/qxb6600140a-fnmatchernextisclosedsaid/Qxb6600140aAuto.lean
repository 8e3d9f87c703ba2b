/-
  PLAIN: what the matcher's tables say of the prefixes ('Auto'), and the step 'next' over them. No Go in sight.
-/
import Derived.Test.Qxb6600140aPlain
namespace Go.Proofs.Qxb6600140a.Plain

/-- The children of node i lie in [fst i, fst (i+1)), in the order of their labels. -/
def Kids (F : List Str) (made : Nat) (ps : Nat → Str) (lab : Nat → UInt8) (fst : Nat → Nat) (i : Nat) : Prop :=
  fst i ≤ fst (i + 1) ∧ fst (i + 1) ≤ made ∧ (∀ j, fst i ≤ j → j < fst (i + 1) → ps j = ps i ++ [lab j]) ∧
  (∀ j j', fst i ≤ j → j < j' → j' < fst (i + 1) → (lab j).toNat < (lab j').toNat) ∧
  (∀ c, isPre F (ps i ++ [c]) = true → ∃ j, fst i ≤ j ∧ j < fst (i + 1) ∧ lab j = c)

/-- The failing link of node i. -/
def Link (F : List Str) (ps : Nat → Str) (fl : Nat → Nat) (i : Nat) : Prop := fl i < i ∧ ps (fl i) = ls F (ps i).tail

/-- The child of the root for the byte c. -/
def RootOk (F : List Str) (made : Nat) (ps : Nat → Str) (root : Nat → Nat) (c : UInt8) : Prop :=
  (isPre F [c] = true → root c.toNat < made ∧ ps (root c.toNat) = [c]) ∧ (isPre F [c] = false → root c.toNat = 0)

/-- The tables as 'next' wants them: nodes below made, those below E expanded. -/
structure Auto (F : List Str) (made E : Nat) (ps : Nat → Str) (lab : Nat → UInt8) (fst fl root : Nat → Nat) : Prop where
  zero : ps 0 = []
  pos : 0 < made
  le : E ≤ made
  pre : ∀ i, i < made → isPre F (ps i) = true
  ne : ∀ i, 0 < i → i < made → ps i ≠ []
  kids : ∀ i, 0 < i → i < E → Kids F made ps lab fst i
  link : ∀ i, 0 < i → i < made → Link F ps fl i
  root : ∀ c, RootOk F made ps root c

variable {F : List Str} {made E : Nat} {ps : Nat → Str} {lab : Nat → UInt8} {fst fl root : Nat → Nat}

/-- A child is found. -/
theorem Auto.hit (h : Auto F made E ps lab fst fl root) {i j : Nat} (hi : 0 < i) (hE : i < E) (h1 : fst i ≤ j) (h2 : j < fst (i + 1)) {c : UInt8} (hc : lab j = c) :
    j < made ∧ ps j = ls F (ps i ++ [c]) := by
  obtain ⟨a, b, d, _, _⟩ := h.kids i hi hE
  have e := d j h1 h2
  have hm : j < made := by omega
  refine ⟨hm, ?_⟩
  rw [← hc, ← e, ls_pre F _ (h.pre j hm)]

/-- No child for c: all labels before t are less, and t is the end or greater. -/
theorem Auto.miss (h : Auto F made E ps lab fst fl root) {i t : Nat} (hi : 0 < i) (hE : i < E) {c : UInt8} (h1 : ∀ j, fst i ≤ j → j < fst i + t → (lab j).toNat < c.toNat)
    (h2 : fst (i + 1) ≤ fst i + t ∨ (fst i + t < fst (i + 1) ∧ c.toNat < (lab (fst i + t)).toNat)) : ls F (ps i ++ [c]) = ls F (ps (fl i) ++ [c]) := by
  obtain ⟨a, b, d, s, k⟩ := h.kids i hi hE
  have hn : isPre F (ps i ++ [c]) = false := by
    cases hp : isPre F (ps i ++ [c])
    · rfl
    · obtain ⟨j, j1, j2, j3⟩ := k c hp
      exfalso
      by_cases hj : j < fst i + t
      · have := h1 j j1 hj
        rw [j3] at this
        omega
      · rcases h2 with h2 | ⟨h2, h4⟩
        · omega
        · by_cases e : j = fst i + t
          · rw [← e, j3] at h4
            omega
          · have := s (fst i + t) j (by omega) (by omega) j2
            rw [j3] at this
            omega
  obtain ⟨_, hl⟩ := h.link i hi (by have := h.le; omega)
  have hne := h.ne i hi (by have := h.le; omega)
  rw [hl]
  cases hp : ps i with
  | nil => exact absurd hp hne
  | cons x y =>
    rw [hp] at hn
    exact ls_fail F x y c hn

/-- At the root. -/
theorem Auto.atRoot (h : Auto F made E ps lab fst fl root) (c : UInt8) : root c.toNat < made ∧ ps (root c.toNat) = ls F (ps 0 ++ [c]) := by
  rw [h.zero]
  obtain ⟨a, b⟩ := h.root c
  cases hp : isPre F [c]
  · rw [b hp]
    refine ⟨h.pos, ?_⟩
    rw [h.zero]
    show [] = ls F [c]
    rw [ls_not F c [] hp]
    rfl
  · obtain ⟨a1, a2⟩ := a hp
    refine ⟨a1, ?_⟩
    rw [a2]
    exact (ls_pre F _ hp).symm

end Go.Proofs.Qxb6600140a.Plain
