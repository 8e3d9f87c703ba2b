/-
  PLAIN LAWS: 'inside' and 'below'. No Go in sight.
-/
import Derived.Test.Qxb6002463aTreePlain
namespace Go.Proofs.Qxb6002463a.Plain

/-- inside. -/
def ins (r n : List UInt8) : Bool :=
  if r = [47] then decide (n[0]? = some 47)
  else if n = r then true
  else decide (r.length + 1 < n.length) && decide (n.take r.length = r) && decide (n[r.length]? = some 47)

/-- below. -/
def bel (r n : List UInt8) : List UInt8 := if r = [47] then n else if n = r then [47] else n.drop r.length

/-- What 'inside' says. -/
theorem ins_cases (r n : List UInt8) (h : ins r n = true) :
    (r = [47] ∧ bel r n = n ∧ ∃ x, n = 47 :: x) ∨ (r ≠ [47] ∧ n = r ∧ bel r n = [47]) ∨ (r ≠ [47] ∧ ∃ c x, n = r ++ 47 :: c :: x ∧ bel r n = 47 :: c :: x) := by
  unfold ins at h
  by_cases h1 : r = [47]
  · left
    rw [if_pos h1] at h
    refine ⟨h1, by unfold bel; rw [if_pos h1], ?_⟩
    have := of_decide_eq_true h
    cases n with
    | nil => simp at this
    | cons c x => simp at this; exact ⟨x, by rw [this]⟩
  · right
    rw [if_neg h1] at h
    by_cases h2 : n = r
    · left
      exact ⟨h1, h2, by unfold bel; rw [if_neg h1, if_pos h2]⟩
    · right
      rw [if_neg h2] at h
      simp only [Bool.and_eq_true, decide_eq_true_eq] at h
      obtain ⟨⟨a, b⟩, c⟩ := h
      refine ⟨h1, ?_⟩
      have hb : bel r n = n.drop r.length := by unfold bel; rw [if_neg h1, if_neg h2]
      have e : n = r ++ n.drop r.length := by
        conv => lhs; rw [← List.take_append_drop r.length n]
        rw [b]
      have hd : n.drop r.length = n[r.length] :: n[r.length + 1] :: n.drop (r.length + 2) := by
        rw [List.drop_eq_getElem_cons (by omega), List.drop_eq_getElem_cons (by omega)]
      have h47 : n[r.length] = 47 := by
        rw [List.getElem?_eq_getElem (by omega)] at c
        simpa using c
      rw [h47] at hd
      exact ⟨_, _, by rw [← hd]; exact e, by rw [hb, hd]⟩

theorem bel_head (r n : List UInt8) (h : ins r n = true) : ∃ x, bel r n = 47 :: x := by
  rcases ins_cases r n h with ⟨_, h2, x, h3⟩ | ⟨_, _, h2⟩ | ⟨_, c, x, _, h2⟩
  · exact ⟨x, by rw [h2, h3]⟩
  · exact ⟨[], h2⟩
  · exact ⟨_, h2⟩

theorem bel_inj (r a b : List UInt8) (ha : ins r a = true) (hb : ins r b = true) : bel r a = bel r b → a = b := by
  intro e
  rcases ins_cases r a ha with ⟨h1, h2, _⟩ | ⟨h1, h2, h3⟩ | ⟨h1, c, x, h2, h3⟩
  · rcases ins_cases r b hb with ⟨_, k2, _⟩ | ⟨k1, _⟩ | ⟨k1, _⟩
    · rw [h2, k2] at e; exact e
    · exact absurd h1 k1
    · exact absurd h1 k1
  · rcases ins_cases r b hb with ⟨k1, _⟩ | ⟨_, k2, _⟩ | ⟨k1, d, y, k2, k3⟩
    · exact absurd k1 h1
    · rw [h2, k2]
    · rw [h3, k3] at e; simp at e
  · rcases ins_cases r b hb with ⟨k1, _⟩ | ⟨_, k2, k3⟩ | ⟨k1, d, y, k2, k3⟩
    · exact absurd k1 h1
    · rw [h3, k3] at e; simp at e
    · rw [h3, k3] at e; rw [h2, k2, e]

theorem wfst_self_app (r x : List UInt8) (c : UInt8) : wfst r (r ++ c :: x) = true := by
  have := wfst_app r [] (c :: x)
  rw [List.append_nil] at this
  rw [this]
  rfl

theorem bel_wfst (r a b : List UInt8) (ha : ins r a = true) (hb : ins r b = true) : wfst (bel r a) (bel r b) = wfst a b := by
  rcases ins_cases r a ha with ⟨h1, h2, _⟩ | ⟨h1, h2, h3⟩ | ⟨h1, c, x, h2, h3⟩
  · rcases ins_cases r b hb with ⟨_, k2, _⟩ | ⟨k1, _⟩ | ⟨k1, _⟩
    · rw [h2, k2]
    · exact absurd h1 k1
    · exact absurd h1 k1
  · rcases ins_cases r b hb with ⟨k1, _⟩ | ⟨_, k2, k3⟩ | ⟨k1, d, y, k2, k3⟩
    · exact absurd k1 h1
    · rw [h3, k3, h2, k2, wfst_irrefl, wfst_irrefl]
    · rw [h3, k3, h2, k2, wfst_self_app]; rfl
  · rcases ins_cases r b hb with ⟨k1, _⟩ | ⟨_, k2, k3⟩ | ⟨k1, d, y, k2, k3⟩
    · exact absurd k1 h1
    · rw [h3, k3, h2, k2, wfst_asymm _ _ (wfst_self_app r _ _)]; rfl
    · rw [h3, k3, h2, k2, wfst_app]

theorem bel_length (r n : List UInt8) : (bel r n).length ≤ n.length + 1 := by
  unfold bel
  split
  · omega
  · split
    · simp
    · simp; omega

end Go.Proofs.Qxb6002463a.Plain
