/-
  PLAIN LAWS of the tree order: elements between slashes. No Go in sight.
-/
import Derived.Test.Qxb6002463aPlain
namespace Go.Proofs.Qxb6002463a.Plain

/-- cmpBytes. -/
def cmpL : List UInt8 → List UInt8 → Int
  | [], [] => 0
  | [], _ :: _ => -1
  | _ :: _, [] => 1
  | a :: p, b :: q => if a = b then cmpL p q else if a.toNat < b.toNat then -1 else 1

theorem cmpL_three : ∀ p q, cmpL p q = 0 ∨ cmpL p q = -1 ∨ cmpL p q = 1
  | [], [] => .inl rfl
  | [], _ :: _ => .inr (.inl rfl)
  | _ :: _, [] => .inr (.inr rfl)
  | a :: p, b :: q => by
    unfold cmpL
    split
    · exact cmpL_three p q
    · split
      · exact .inr (.inl rfl)
      · exact .inr (.inr rfl)

theorem cmpL_step (p q : List UInt8) (k : Nat) (hp : k < p.length) (hq : k < q.length) (e : p[k] = q[k]) :
    cmpL (p.drop k) (q.drop k) = cmpL (p.drop (k + 1)) (q.drop (k + 1)) := by
  rw [List.drop_eq_getElem_cons hp, List.drop_eq_getElem_cons hq, e]
  simp [cmpL]

theorem cmpL_part (p q : List UInt8) (k : Nat) (hp : k < p.length) (hq : k < q.length) (e : p[k] ≠ q[k]) :
    cmpL (p.drop k) (q.drop k) = if p[k].toNat < q[k].toNat then -1 else 1 := by
  rw [List.drop_eq_getElem_cons hp, List.drop_eq_getElem_cons hq]
  simp [cmpL, e]

theorem cmpL_nil_left (q : List UInt8) : cmpL [] q = if 0 < q.length then -1 else 0 := by cases q <;> simp [cmpL]
theorem cmpL_nil_right (p : List UInt8) : cmpL p [] = if 0 < p.length then 1 else 0 := by cases p <;> simp [cmpL]

theorem cmpL_end (p q : List UInt8) (k : Nat) (hp : k ≤ p.length) (hq : k ≤ q.length) (h : k = p.length ∨ k = q.length) :
    cmpL (p.drop k) (q.drop k) = if p.length < q.length then -1 else if q.length < p.length then 1 else 0 := by
  rcases h with h | h
  · rw [List.drop_eq_nil_of_le (by omega), cmpL_nil_left, List.length_drop]
    by_cases c : p.length < q.length
    · rw [if_pos (by omega), if_pos c]
    · rw [if_neg (by omega), if_neg c, if_neg (by omega)]
  · rw [List.drop_eq_nil_of_le (i := k) (by omega : q.length ≤ k), cmpL_nil_right, List.length_drop]
    rw [if_neg (by omega : ¬ p.length < q.length)]
    by_cases c : q.length < p.length
    · rw [if_pos (by omega), if_pos c]
    · rw [if_neg (by omega), if_neg c]

/-- A tail behind an element: nothing, or a slash and more. -/
def Tail (x : List UInt8) : Prop := x = [] ∨ ∃ y, x = 47 :: y
def NoSlash (a : List UInt8) : Prop := ∀ c ∈ a, c ≠ 47

theorem rank_slash : rank 47 = 0 := by decide
theorem rank_other {c : UInt8} (h : c ≠ 47) : rank c = c.toNat + 1 := by
  unfold rank
  rw [if_neg]
  intro e
  exact h (UInt8.toNat_inj.1 (by simpa using e))

theorem wfst_of_lt : ∀ (a b x y : List UInt8), NoSlash a → NoSlash b → Tail x → Tail y → cmpL a b = -1 → wfst (a ++ x) (b ++ y) = true
  | [], [], _, _, _, _, _, _, h => by simp [cmpL] at h
  | [], c :: b, x, y, _, hb, hx, _, _ => by
    rcases hx with rfl | ⟨z, rfl⟩
    · simp [wfst]
    · have hc : c ≠ 47 := hb c (by simp)
      have hc' : ¬ (47 : UInt8) = c := fun e => hc e.symm
      show wfst (47 :: z) (c :: (b ++ y)) = true
      unfold wfst
      rw [if_neg hc', rank_slash, rank_other hc]
      exact decide_eq_true (by omega)
  | _ :: _, [], _, _, _, _, _, _, h => by simp [cmpL] at h
  | c :: a, d :: b, x, y, ha, hb, hx, hy, h => by
    unfold cmpL at h
    show wfst (c :: (a ++ x)) (d :: (b ++ y)) = true
    unfold wfst
    by_cases e : c = d
    · rw [if_pos e] at h ⊢
      exact wfst_of_lt a b x y (fun z hz => ha z (by simp [hz])) (fun z hz => hb z (by simp [hz])) hx hy h
    · rw [if_neg e] at h ⊢
      rw [rank_other (ha c (by simp)), rank_other (hb d (by simp))]
      split at h
      · exact decide_eq_true (by omega)
      · simp at h

theorem wfst_of_gt (a b x y : List UInt8) (ha : NoSlash a) (hb : NoSlash b) (hx : Tail x) (hy : Tail y) (h : cmpL a b = 1) : wfst (a ++ x) (b ++ y) = false := by
  have sw : ∀ a b : List UInt8, cmpL a b = 1 → cmpL b a = -1 := by
    intro a
    induction a with
    | nil => intro b h; cases b <;> simp [cmpL] at h
    | cons c a ih =>
      intro b h
      cases b with
      | nil => rfl
      | cons d b =>
        unfold cmpL at h ⊢
        by_cases e : c = d
        · rw [if_pos e] at h
          rw [if_pos e.symm]
          exact ih b h
        · rw [if_neg e] at h
          rw [if_neg (fun z => e z.symm)]
          have : c.toNat ≠ d.toNat := fun z => e (UInt8.toNat_inj.1 z)
          split at h
          · simp at h
          · rw [if_pos (by omega)]
  exact wfst_asymm _ _ (wfst_of_lt b a y x hb ha hy hx (sw a b h))

theorem eq_of_cmpL : ∀ (a b : List UInt8), cmpL a b = 0 → a = b
  | [], [], _ => rfl
  | [], _ :: _, h => by simp [cmpL] at h
  | _ :: _, [], h => by simp [cmpL] at h
  | c :: a, d :: b, h => by
    unfold cmpL at h
    by_cases e : c = d
    · rw [if_pos e] at h
      rw [e, eq_of_cmpL a b h]
    · rw [if_neg e] at h
      split at h <;> simp at h

theorem wfst_app : ∀ (a x y : List UInt8), wfst (a ++ x) (a ++ y) = wfst x y
  | [], _, _ => rfl
  | c :: a, x, y => by
    have e : wfst (c :: (a ++ x)) (c :: (a ++ y)) = wfst (a ++ x) (a ++ y) := by simp [wfst]
    exact e.trans (wfst_app a x y)

/-- Where the element that opens at i ends. -/
def eEnd (l : List UInt8) (i : Nat) : Nat := i + ((l.drop i).takeWhile (fun c => c != 47)).length

theorem eEnd_le (l : List UInt8) (i : Nat) (h : i ≤ l.length) : i ≤ eEnd l i ∧ eEnd l i ≤ l.length := by
  unfold eEnd
  have := (List.takeWhile_sublist (l := l.drop i) (fun c => c != 47)).length_le
  simp only [List.length_drop] at this
  omega

theorem eEnd_step (l : List UInt8) (i : Nat) (h : i < l.length) (hc : l[i] ≠ 47) : eEnd l (i + 1) = eEnd l i := by
  unfold eEnd
  rw [List.drop_eq_getElem_cons h, List.takeWhile_cons]
  simp [hc]
  omega

theorem eEnd_stop (l : List UInt8) (i : Nat) (h : i < l.length) (hc : l[i] = 47) : eEnd l i = i := by
  unfold eEnd
  rw [List.drop_eq_getElem_cons h, List.takeWhile_cons]
  simp [hc]

theorem eEnd_end (l : List UInt8) (i : Nat) (h : l.length ≤ i) : eEnd l i = i := by
  unfold eEnd
  rw [List.drop_eq_nil_of_le h]
  simp

/-- The element that opens at i, and what lies behind it. -/
def elem (l : List UInt8) (i : Nat) : List UInt8 := (l.drop i).takeWhile (fun c => c != 47)

theorem tw_no : ∀ m : List UInt8, NoSlash (m.takeWhile (fun c => c != 47))
  | [] => by intro c hc; simp at hc
  | d :: m => by
    intro c hc
    rw [List.takeWhile_cons] at hc
    split at hc
    · rcases List.mem_cons.1 hc with rfl | h
      · simp_all
      · exact tw_no m c h
    · simp at hc

theorem tw_take : ∀ m : List UInt8, m.take (m.takeWhile (fun c => c != 47)).length = m.takeWhile (fun c => c != 47)
  | [] => rfl
  | d :: m => by
    rw [List.takeWhile_cons]
    split
    · simp [tw_take m]
    · simp

theorem tw_tail : ∀ m : List UInt8, Tail (m.drop (m.takeWhile (fun c => c != 47)).length)
  | [] => .inl rfl
  | d :: m => by
    rw [List.takeWhile_cons]
    split
    · simpa using tw_tail m
    · right
      refine ⟨m, ?_⟩
      simp_all

theorem elem_noSlash (l : List UInt8) (i : Nat) : NoSlash (elem l i) := tw_no _

theorem elem_eq (l : List UInt8) (i : Nat) : (l.drop i).take (eEnd l i - i) = elem l i := by
  have e : eEnd l i - i = (elem l i).length := by unfold eEnd elem; omega
  rw [e]
  exact tw_take _

theorem drop_end (l : List UInt8) (i : Nat) : l.drop (eEnd l i) = (l.drop i).drop ((elem l i).length) := by rw [List.drop_drop]; rfl

theorem drop_eq (l : List UInt8) (i : Nat) : l.drop i = elem l i ++ l.drop (eEnd l i) := by
  rw [drop_end]
  have h := tw_take (l.drop i)
  conv => lhs; rw [← List.take_append_drop (elem l i).length (l.drop i)]
  unfold elem
  rw [h]

theorem drop_tail (l : List UInt8) (i : Nat) : Tail (l.drop (eEnd l i)) := by
  rw [drop_end]
  exact tw_tail _

/-- treeLess, one round. -/
theorem tree_lt (p q : List UInt8) (i j : Nat) (h : cmpL (elem p i) (elem q j) = -1) : wfst (p.drop i) (q.drop j) = true := by
  rw [drop_eq p i, drop_eq q j]
  exact wfst_of_lt _ _ _ _ (elem_noSlash p i) (elem_noSlash q j) (drop_tail p i) (drop_tail q j) h

theorem tree_gt (p q : List UInt8) (i j : Nat) (h : cmpL (elem p i) (elem q j) = 1) : wfst (p.drop i) (q.drop j) = false := by
  rw [drop_eq p i, drop_eq q j]
  exact wfst_of_gt _ _ _ _ (elem_noSlash p i) (elem_noSlash q j) (drop_tail p i) (drop_tail q j) h

theorem tree_eq (p q : List UInt8) (i j : Nat) (h : cmpL (elem p i) (elem q j) = 0) : wfst (p.drop i) (q.drop j) = wfst (p.drop (eEnd p i)) (q.drop (eEnd q j)) := by
  rw [drop_eq p i, drop_eq q j, eq_of_cmpL _ _ h, wfst_app]

theorem tree_on (p q : List UInt8) (i j : Nat) (h : cmpL (elem p i) (elem q j) = 0) (h1 : eEnd p i < p.length) (h2 : eEnd q j < q.length) :
    wfst (p.drop (eEnd p i + 1)) (q.drop (eEnd q j + 1)) = wfst (p.drop i) (q.drop j) := by
  rw [tree_eq p q i j h]
  have a1 : p.drop (eEnd p i) = 47 :: p.drop (eEnd p i + 1) := by
    rcases drop_tail p i with t | ⟨y, t⟩
    · have := List.drop_eq_nil_iff.1 t; omega
    · rw [List.drop_eq_getElem_cons h1] at t ⊢
      injection t with t1 t2
      rw [t1]
  have a2 : q.drop (eEnd q j) = 47 :: q.drop (eEnd q j + 1) := by
    rcases drop_tail q j with t | ⟨y, t⟩
    · have := List.drop_eq_nil_iff.1 t; omega
    · rw [List.drop_eq_getElem_cons h2] at t ⊢
      injection t with t1 t2
      rw [t1]
  rw [a1, a2]
  simp [wfst]

theorem tree_end (p q : List UInt8) (i j : Nat) (h : cmpL (elem p i) (elem q j) = 0) (h1 : eEnd p i ≤ p.length) (h2 : eEnd q j ≤ q.length) (h3 : eEnd p i = p.length ∨ eEnd q j = q.length) :
    wfst (p.drop i) (q.drop j) = (decide (eEnd p i = p.length) && !decide (eEnd q j = q.length)) := by
  rw [tree_eq p q i j h]
  by_cases e1 : eEnd p i = p.length
  · rw [List.drop_eq_nil_of_le (by omega : p.length ≤ eEnd p i), wfst_nil_left]
    by_cases e2 : eEnd q j = q.length
    · simp [e1, e2]
    · simp [e1, e2]; omega
  · have e2 : eEnd q j = q.length := by omega
    rw [List.drop_eq_nil_of_le (i := eEnd q j) (by omega : q.length ≤ eEnd q j), wfst_nil_right]
    simp [e1]

end Go.Proofs.Qxb6002463a.Plain
