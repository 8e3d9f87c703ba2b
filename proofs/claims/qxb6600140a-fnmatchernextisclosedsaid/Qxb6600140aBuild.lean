/-
  PLAIN: what newMatcher's loops hold. No Go in sight.
-/
import Derived.Test.Qxb6600140aAuto
import Derived.Test.Qxb6600140aCount
namespace Go.Proofs.Qxb6600140a.Plain

/-- One place of a table turned. -/
def upd {α : Type} (f : Nat → α) (i : Nat) (v : α) : Nat → α := fun j => if j = i then v else f j

theorem upd_at {α : Type} (f : Nat → α) (i : Nat) (v : α) : upd f i v i = v := by simp [upd]
theorem upd_ne {α : Type} (f : Nat → α) {i j : Nat} (v : α) (h : j ≠ i) : upd f i v j = f j := by simp [upd, h]
theorem upd_twice {α : Type} (f : Nat → α) (i : Nat) (v u : α) : upd (upd f i v) i u = upd f i u := by
  funext j
  unfold upd
  split <;> rfl
theorem upd_same {α : Type} (f : Nat → α) (i : Nat) : upd f i (f i) = f := by
  funext j
  unfold upd
  split
  · rename_i h; rw [h]
  · rfl

/-- The byte of form t at place d. -/
def byt (F : List Str) (t d : Nat) : UInt8 := (fm F t).getD d 0

theorem snoc_prefix (p q : Str) (h : p <+: q) (hl : p.length < q.length) (c : UInt8) : p ++ [c] <+: q ↔ q.getD p.length 0 = c := by
  obtain ⟨r, rfl⟩ := h
  cases r with
  | nil => simp at hl
  | cons x r =>
    constructor
    · rintro ⟨s, hs⟩
      simp at hs
      simp [hs.1]
    · intro e
      simp at e
      exact ⟨r, by simp [e]⟩

/-- The forms that begin with p. -/
def Iv (F : List Str) (p : Str) (lo hi : Nat) : Prop := lo < hi ∧ hi ≤ F.length ∧ ∀ t, t < F.length → (p <+: fm F t ↔ lo ≤ t ∧ t < hi)

/-- The forms that go on behind p. -/
structure Span (F : List Str) (p : Str) (st hi d : Nat) : Prop where
  len : p.length = d
  le : hi ≤ F.length
  on : ∀ t, st ≤ t → t < hi → p <+: fm F t ∧ d < (fm F t).length
  off : ∀ t, t < F.length → p <+: fm F t → d < (fm F t).length → st ≤ t ∧ t < hi

theorem Iv.spanEq {F : List Str} (hF : Sound F) {p : Str} {lo hi d : Nat} (h : Iv F p lo hi) (hd : p.length = d) (he : (fm F lo).length = d) : Span F p (lo + 1) hi d := by
  obtain ⟨h1, h2, h3⟩ := h
  have hp : p <+: fm F lo := (h3 lo (by omega)).2 ⟨Nat.le_refl _, h1⟩
  have hpe : p = fm F lo := hp.eq_of_length (by omega)
  refine ⟨hd, h2, fun t ht1 ht2 => ?_, fun t ht1 ht2 ht3 => ?_⟩
  · have hpt := (h3 t (by omega)).2 ⟨by omega, ht2⟩
    refine ⟨hpt, ?_⟩
    have hl := hpt.length_le
    by_cases e : (fm F t).length = d
    · have := hpt.eq_of_length (by omega)
      have hlt := hF.less lo t (by omega) (by omega)
      rw [← this, ← hpe, bl_irrefl] at hlt
      cases hlt
    · omega
  · obtain ⟨a, b⟩ := (h3 t ht1).1 ht2
    refine ⟨?_, b⟩
    by_cases e : t = lo
    · rw [e] at ht3; omega
    · omega

theorem Iv.spanNe {F : List Str} (hF : Sound F) {p : Str} {lo hi d : Nat} (h : Iv F p lo hi) (hd : p.length = d) (he : (fm F lo).length ≠ d) : Span F p lo hi d := by
  obtain ⟨h1, h2, h3⟩ := h
  have hp : p <+: fm F lo := (h3 lo (by omega)).2 ⟨Nat.le_refl _, h1⟩
  refine ⟨hd, h2, fun t ht1 ht2 => ?_, fun t ht1 ht2 _ => (h3 t ht1).1 ht2⟩
  have hpt := (h3 t (by omega)).2 ⟨ht1, ht2⟩
  refine ⟨hpt, ?_⟩
  have hl := hpt.length_le
  by_cases e : (fm F t).length = d
  · exfalso
    by_cases e2 : t = lo
    · rw [e2] at e; exact he e
    · have hpe := hpt.eq_of_length (by omega)
      have hlt := hF.less lo t (by omega) (by omega)
      rw [← hpe, bl_prefix p _ hp] at hlt
      cases hlt
  · omega

theorem Span.mono {F : List Str} (hF : Sound F) {p : Str} {st hi d : Nat} (h : Span F p st hi d) {t u : Nat} (h1 : st ≤ t) (h2 : t ≤ u) (h3 : u < hi) : (byt F t d).toNat ≤ (byt F u d).toNat := by
  by_cases e : t = u
  · rw [e]; exact Nat.le_refl _
  · obtain ⟨⟨r1, e1⟩, l1⟩ := h.on t h1 (by omega)
    obtain ⟨⟨r2, e2⟩, l2⟩ := h.on u (by omega) h3
    have hlt := hF.less t u (by omega) (by have := h.le; omega)
    have hl := h.len
    unfold byt
    rw [← e1, ← e2] at hlt ⊢
    rw [← e1] at l1
    rw [← e2] at l2
    rw [bl_app] at hlt
    subst hl
    cases r1 with
    | nil => simp at l1
    | cons a r1 =>
      cases r2 with
      | nil => simp at l2
      | cons b r2 =>
        simp
        unfold bl at hlt
        split at hlt
        · rename_i z; rw [z]; exact Nat.le_refl _
        · have := of_decide_eq_true hlt
          exact UInt8.le_iff_toNat_le.2 (by omega)

variable {F : List Str}

/-- The forms that begin with p and the byte that stands at lo. -/
theorem Span.child (hF : Sound F) {p : Str} {st whi d lo hi : Nat} (h : Span F p st whi d) (h1 : st ≤ lo) (h2 : lo < hi) (h3 : hi ≤ whi)
    (hsep : ∀ t u, st ≤ t → t < lo → lo ≤ u → u < whi → (byt F t d).toNat < (byt F u d).toNat)
    (hc : ∀ t, lo ≤ t → t < hi → byt F t d = byt F lo d) (hend : hi = whi ∨ (hi < whi ∧ byt F hi d ≠ byt F lo d)) : Iv F (p ++ [byt F lo d]) lo hi := by
  refine ⟨h2, by have := h.le; omega, fun t ht => ?_⟩
  constructor
  · intro hp
    have hp1 : p <+: fm F t := (List.prefix_append _ _).trans hp
    have hl : d < (fm F t).length := by
      have := hp.length_le
      have hl := h.len
      simp at this
      omega
    obtain ⟨a, b⟩ := h.off t ht hp1 hl
    have hb : byt F t d = byt F lo d := by
      have hll := h.len
      unfold byt
      have := (snoc_prefix p (fm F t) hp1 (by omega) _).1 hp
      rw [hll] at this
      exact this
    constructor
    · by_cases e : t < lo
      · have := hsep t lo a e (Nat.le_refl _) (by omega)
        rw [hb] at this
        omega
      · omega
    · by_cases e : hi ≤ t
      · rcases hend with e2 | ⟨e2, e3⟩
        · omega
        · have m1 := h.mono hF (t := lo) (u := hi) h1 (by omega) e2
          have m2 := h.mono hF (t := hi) (u := t) (by omega) e b
          rw [hb] at m2
          exact absurd (UInt8.toNat_inj.1 (by omega)) e3
      · omega
  · rintro ⟨a, b⟩
    obtain ⟨p1, p2⟩ := h.on t (by omega) (by omega)
    have hll := h.len
    refine (snoc_prefix p (fm F t) p1 (by omega) _).2 ?_
    rw [hll]
    exact hc t a b

/-- The separation moves on. -/
theorem Span.sep (hF : Sound F) {p : Str} {st whi d lo hi : Nat} (h : Span F p st whi d) (h1 : st ≤ lo) (h2 : lo < hi) (_h3 : hi ≤ whi)
    (hsep : ∀ t u, st ≤ t → t < lo → lo ≤ u → u < whi → (byt F t d).toNat < (byt F u d).toNat)
    (hc : ∀ t, lo ≤ t → t < hi → byt F t d = byt F lo d) (hend : hi = whi ∨ (hi < whi ∧ byt F hi d ≠ byt F lo d)) :
    ∀ t u, st ≤ t → t < hi → hi ≤ u → u < whi → (byt F t d).toNat < (byt F u d).toNat := by
  intro t u a b c e
  by_cases e1 : t < lo
  · exact hsep t u a e1 (by omega) e
  · rcases hend with e2 | ⟨e2, e3⟩
    · omega
    · have m1 := h.mono hF (t := lo) (u := hi) h1 (by omega) e2
      have m2 := h.mono hF (t := hi) (u := u) (by omega) c e
      have hne : (byt F hi d).toNat ≠ (byt F lo d).toNat := fun z => e3 (UInt8.toNat_inj.1 z)
      rw [hc t (by omega) b]
      omega

/-- Is the child's text a form? Only where the first of its forms is as long. -/
theorem child_form (hF : Sound F) {q : Str} {lo hi d : Nat} (h : Iv F q lo hi) (hd : q.length = d + 1) : q ∈ F ↔ (fm F lo).length = d + 1 := by
  obtain ⟨h1, h2, h3⟩ := h
  have hp : q <+: fm F lo := (h3 lo (by omega)).2 ⟨Nat.le_refl _, h1⟩
  constructor
  · intro hm
    obtain ⟨t, ht, e⟩ := mem_fm F q hm
    have hq : q <+: fm F t := by rw [e]; exact List.prefix_refl _
    obtain ⟨a, b⟩ := (h3 t ht).1 hq
    by_cases e2 : t = lo
    · rw [← e2, e]; exact hd
    · have hlt := hF.less lo t (by omega) ht
      rw [e, bl_prefix q _ hp] at hlt
      cases hlt
  · intro hl
    have := hp.eq_of_length (by omega)
    rw [this]
    exact fm_mem F lo (by omega)

end Go.Proofs.Qxb6600140a.Plain
