/-
  PLAIN LAWS of the walk order: no Go in sight.
-/
namespace Go.Proofs.Qxb6002463a.Plain

/-- A byte's place in the walk order: the slash comes before every other byte. -/
def rank (c : UInt8) : Nat := if c.toNat = 47 then 0 else c.toNat + 1

theorem rank_inj {a b : UInt8} (h : rank a = rank b) : a = b := by
  apply UInt8.toNat_inj.1
  unfold rank at h
  split at h <;> split at h <;> omega

/-- walksFirst. -/
def wfst : List UInt8 → List UInt8 → Bool
  | [], [] => false
  | [], _ :: _ => true
  | _ :: _, [] => false
  | a :: p, b :: q => if a = b then wfst p q else decide (rank a < rank b)

theorem wfst_nil_right (p : List UInt8) : wfst p [] = false := by cases p <;> rfl

theorem wfst_nil_left (q : List UInt8) : wfst [] q = decide (0 < q.length) := by cases q <;> simp [wfst]

theorem wfst_irrefl : ∀ p, wfst p p = false
  | [] => rfl
  | a :: p => by simp [wfst, wfst_irrefl p]

theorem wfst_asymm : ∀ p q, wfst p q = true → wfst q p = false
  | [], [], h => by simp [wfst] at h
  | [], _ :: _, _ => rfl
  | _ :: _, [], h => by simp [wfst] at h
  | a :: p, b :: q, h => by
    unfold wfst at h ⊢
    by_cases e : a = b
    · subst e
      simp only [if_true] at h ⊢
      exact wfst_asymm p q h
    · rw [if_neg e] at h
      rw [if_neg (fun x => e x.symm)]
      have h' := of_decide_eq_true h
      exact decide_eq_false (by omega)

theorem wfst_total : ∀ p q, p ≠ q → (wfst p q || wfst q p) = true
  | [], [], h => absurd rfl h
  | [], _ :: _, _ => rfl
  | _ :: _, [], _ => by simp [wfst]
  | a :: p, b :: q, h => by
    unfold wfst
    by_cases e : a = b
    · subst e
      simp only [if_true]
      exact wfst_total p q (fun x => h (by rw [x]))
    · rw [if_neg e, if_neg (fun x => e x.symm)]
      have : rank a ≠ rank b := fun x => e (rank_inj x)
      simp
      omega

theorem wfst_trans : ∀ p q r, wfst p q = true → wfst q r = true → wfst p r = true
  | _, [], [], _, h => by simp [wfst] at h
  | [], [], _ :: _, h, _ => by simp [wfst] at h
  | _ :: _, [], _ :: _, h, _ => by simp [wfst] at h
  | _, _ :: _, [], _, h => by simp [wfst] at h
  | [], _ :: _, _ :: _, _, _ => rfl
  | a :: p, b :: q, c :: r, h1, h2 => by
    unfold wfst at h1 h2 ⊢
    by_cases e1 : a = b
    · subst e1
      rw [if_pos rfl] at h1
      by_cases e2 : a = c
      · subst e2
        rw [if_pos rfl] at h2 ⊢
        exact wfst_trans p q r h1 h2
      · rw [if_neg e2] at h2 ⊢
        exact h2
    · rw [if_neg e1] at h1
      by_cases e2 : b = c
      · subst e2
        rw [if_neg e1]
        exact h1
      · rw [if_neg e2] at h2
        have a1 := of_decide_eq_true h1
        have a2 := of_decide_eq_true h2
        have e3 : a ≠ c := fun x => by subst x; omega
        rw [if_neg e3]
        exact decide_eq_true (by omega)

/-- One step: the same byte ahead of both. -/
theorem wfst_step (p q : List UInt8) (k : Nat) (hp : k < p.length) (hq : k < q.length) (e : p[k] = q[k]) :
    wfst (p.drop k) (q.drop k) = wfst (p.drop (k + 1)) (q.drop (k + 1)) := by
  rw [List.drop_eq_getElem_cons hp, List.drop_eq_getElem_cons hq, e]
  simp [wfst]

/-- Two bytes that part. -/
theorem wfst_part (p q : List UInt8) (k : Nat) (hp : k < p.length) (hq : k < q.length) (e : p[k] ≠ q[k]) :
    wfst (p.drop k) (q.drop k) = decide (rank p[k] < rank q[k]) := by
  rw [List.drop_eq_getElem_cons hp, List.drop_eq_getElem_cons hq]
  simp [wfst, e]

/-- The end of one of the two. -/
theorem wfst_end (p q : List UInt8) (k : Nat) (hp : k ≤ p.length) (hq : k ≤ q.length) (h : k = p.length ∨ k = q.length) :
    wfst (p.drop k) (q.drop k) = decide (p.length < q.length) := by
  rcases h with h | h
  · rw [List.drop_eq_nil_of_le (by omega), wfst_nil_left]
    simp only [List.length_drop, decide_eq_decide]
    omega
  · rw [List.drop_eq_nil_of_le (i := k) (by omega : q.length ≤ k), wfst_nil_right]
    symm
    exact decide_eq_false (by omega)

end Go.Proofs.Qxb6002463a.Plain
