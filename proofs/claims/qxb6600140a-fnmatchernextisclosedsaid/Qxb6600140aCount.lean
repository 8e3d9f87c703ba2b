/-
  PLAIN: the byte order of the forms; how many prefixes there are. No Go in sight.
-/
import Derived.Test.Qxb6600140aPlain
namespace Go.Proofs.Qxb6600140a.Plain

/-- byteLess. -/
def bl : Str → Str → Bool
  | [], [] => false
  | [], _ :: _ => true
  | _ :: _, [] => false
  | a :: p, b :: q => if a = b then bl p q else decide (a.toNat < b.toNat)

theorem bl_nil_right (p : Str) : bl p [] = false := by cases p <;> rfl
theorem bl_nil_left (q : Str) : bl [] q = decide (0 < q.length) := by cases q <;> simp [bl]

theorem bl_irrefl : ∀ p, bl p p = false
  | [] => rfl
  | a :: p => by simp [bl, bl_irrefl p]

theorem bl_trans : ∀ p q r, bl p q = true → bl q r = true → bl p r = true
  | _, [], [], _, h => by simp [bl] at h
  | [], [], _ :: _, h, _ => by simp [bl] at h
  | _ :: _, [], _ :: _, h, _ => by simp [bl] at h
  | _, _ :: _, [], _, h => by simp [bl] at h
  | [], _ :: _, _ :: _, _, _ => rfl
  | a :: p, b :: q, c :: r, h1, h2 => by
    unfold bl at h1 h2 ⊢
    by_cases e1 : a = b
    · subst e1
      rw [if_pos rfl] at h1
      by_cases e2 : a = c
      · subst e2
        rw [if_pos rfl] at h2 ⊢
        exact bl_trans p q r h1 h2
      · rw [if_neg e2] at h2 ⊢
        exact h2
    · rw [if_neg e1] at h1
      by_cases e2 : b = c
      · subst e2
        rw [if_neg e1]
        exact h1
      · rw [if_neg e2] at h2
        have a1 := of_decide_eq_true h1
        have a2 := of_decide_eq_true h2
        have e3 : a ≠ c := fun x => by subst x; omega
        rw [if_neg e3]
        exact decide_eq_true (by omega)

theorem bl_app : ∀ (a x y : Str), bl (a ++ x) (a ++ y) = bl x y
  | [], _, _ => rfl
  | c :: a, x, y => by
    have e : bl (c :: (a ++ x)) (c :: (a ++ y)) = bl (a ++ x) (a ++ y) := by simp [bl]
    exact e.trans (bl_app a x y)

/-- An opening does not come behind. -/
theorem bl_prefix (p q : Str) (h : p <+: q) : bl q p = false := by
  obtain ⟨r, rfl⟩ := h
  have := bl_app p r []
  rw [List.append_nil] at this
  rw [this]
  exact bl_nil_right r

theorem bl_step (p q : Str) (k : Nat) (hp : k < p.length) (hq : k < q.length) (e : p[k] = q[k]) :
    bl (p.drop k) (q.drop k) = bl (p.drop (k + 1)) (q.drop (k + 1)) := by
  rw [List.drop_eq_getElem_cons hp, List.drop_eq_getElem_cons hq, e]
  simp [bl]
theorem bl_part (p q : Str) (k : Nat) (hp : k < p.length) (hq : k < q.length) (e : p[k] ≠ q[k]) :
    bl (p.drop k) (q.drop k) = decide (p[k].toNat < q[k].toNat) := by
  rw [List.drop_eq_getElem_cons hp, List.drop_eq_getElem_cons hq]
  simp [bl, e]
theorem bl_end (p q : Str) (k : Nat) (hp : k ≤ p.length) (hq : k ≤ q.length) (h : k = p.length ∨ k = q.length) :
    bl (p.drop k) (q.drop k) = decide (p.length < q.length) := by
  rcases h with h | h
  · rw [List.drop_eq_nil_of_le (by omega), bl_nil_left]
    simp only [List.length_drop, decide_eq_decide]
    omega
  · rw [List.drop_eq_nil_of_le (i := k) (by omega : q.length ≤ k), bl_nil_right]
    symm
    exact decide_eq_false (by omega)

/-- What lies between two forms that share an opening shares it. -/
theorem bl_between : ∀ (p a b c : Str), bl a b = true → bl b c = true → p <+: a → p <+: c → p <+: b
  | [], _, _, _, _, _, _, _ => List.nil_prefix
  | x :: p, a, b, c, h1, h2, ⟨r1, e1⟩, ⟨r2, e2⟩ => by
    subst e1
    subst e2
    cases b with
    | nil => simp [bl] at h1
    | cons y b =>
      have h1' : bl (x :: (p ++ r1)) (y :: b) = true := h1
      have h2' : bl (y :: b) (x :: (p ++ r2)) = true := h2
      unfold bl at h1' h2'
      by_cases e : x = y
      · subst e
        rw [if_pos rfl] at h1' h2'
        have := bl_between p (p ++ r1) b (p ++ r2) h1' h2' (List.prefix_append _ _) (List.prefix_append _ _)
        obtain ⟨r, hr⟩ := this
        exact ⟨r, by rw [← hr]; rfl⟩
      · rw [if_neg e] at h1'
        rw [if_neg (fun z => e z.symm)] at h2'
        have := of_decide_eq_true h1'
        have := of_decide_eq_true h2'
        omega

/-- sharedPrefix. -/
def lcp : Str → Str → Nat
  | a :: p, b :: q => if a = b then lcp p q + 1 else 0
  | _, _ => 0

theorem lcp_le_left : ∀ p q, lcp p q ≤ p.length
  | [], _ => by simp [lcp]
  | _ :: _, [] => by simp [lcp]
  | a :: p, b :: q => by
    unfold lcp
    split
    · have := lcp_le_left p q; simp; omega
    · omega
theorem lcp_le_right : ∀ p q, lcp p q ≤ q.length
  | [], _ => by simp [lcp]
  | _ :: _, [] => by simp [lcp]
  | a :: p, b :: q => by
    unfold lcp
    split
    · have := lcp_le_right p q; simp; omega
    · omega

theorem lcp_step (p q : Str) (k : Nat) (hp : k < p.length) (hq : k < q.length) (e : p[k] = q[k]) : k + lcp (p.drop k) (q.drop k) = (k + 1) + lcp (p.drop (k + 1)) (q.drop (k + 1)) := by
  rw [List.drop_eq_getElem_cons hp, List.drop_eq_getElem_cons hq, e]
  simp [lcp]
  omega
theorem lcp_stop (p q : Str) (k : Nat) (hp : k < p.length) (hq : k < q.length) (e : p[k] ≠ q[k]) : k + lcp (p.drop k) (q.drop k) = k := by
  rw [List.drop_eq_getElem_cons hp, List.drop_eq_getElem_cons hq]
  simp [lcp, e]
theorem lcp_end (p q : Str) (k : Nat) (h : p.length ≤ k ∨ q.length ≤ k) : k + lcp (p.drop k) (q.drop k) = k := by
  rcases h with h | h
  · rw [List.drop_eq_nil_of_le h]; simp [lcp]
  · rw [List.drop_eq_nil_of_le (as := q) h]
    cases p.drop k <;> simp [lcp]

/-- A common opening is no longer than what is shared. -/
theorem lcp_max : ∀ (r p q : Str), r <+: p → r <+: q → r.length ≤ lcp p q
  | [], _, _, _, _ => by simp
  | x :: r, p, q, ⟨s, e1⟩, ⟨t, e2⟩ => by
    subst e1
    subst e2
    have := lcp_max r (r ++ s) (r ++ t) (List.prefix_append _ _) (List.prefix_append _ _)
    show r.length + 1 ≤ lcp (x :: (r ++ s)) (x :: (r ++ t))
    simp [lcp]
    exact this
theorem lcp_take : ∀ (p q : Str) (n : Nat), n ≤ lcp p q → p.take n = q.take n
  | _, _, 0, _ => by simp
  | [], _, n + 1, h => by simp [lcp] at h
  | _ :: _, [], n + 1, h => by simp [lcp] at h
  | a :: p, b :: q, n + 1, h => by
    unfold lcp at h
    split at h
    · rename_i e
      subst e
      simp only [List.take_succ_cons]
      rw [lcp_take p q n (by omega)]
    · omega

/-- The forms, one by one. -/
def fm (F : List Str) (i : Nat) : Str := F.getD i []

theorem fm_mem (F : List Str) (i : Nat) (h : i < F.length) : fm F i ∈ F := by
  unfold fm
  rw [List.getD_eq_getElem?_getD, List.getElem?_eq_getElem h]
  exact List.getElem_mem h

theorem mem_fm (F : List Str) (f : Str) (h : f ∈ F) : ∃ i, i < F.length ∧ fm F i = f := by
  obtain ⟨i, hi, e⟩ := List.getElem_of_mem h
  exact ⟨i, hi, by unfold fm; rw [List.getD_eq_getElem?_getD, List.getElem?_eq_getElem hi]; exact e⟩

theorem isPre_fm (F : List Str) (p : Str) : isPre F p = true ↔ ∃ i, i < F.length ∧ p <+: fm F i := by
  rw [isPre_iff]
  constructor
  · rintro ⟨f, h1, h2⟩
    obtain ⟨i, hi, e⟩ := mem_fm F f h1
    exact ⟨i, hi, by rw [e]; exact h2⟩
  · rintro ⟨i, hi, h⟩
    exact ⟨_, fm_mem F i hi, h⟩

/-- Sound forms. -/
structure Sound (F : List Str) : Prop where
  some : 0 < F.length
  full : ∀ i, i < F.length → fm F i ≠ []
  sort : ∀ i, i + 1 < F.length → bl (fm F i) (fm F (i + 1)) = true

theorem Sound.lt {F : List Str} (h : Sound F) : ∀ (d i : Nat), i + d + 1 < F.length → bl (fm F i) (fm F (i + d + 1)) = true
  | 0, i, hi => h.sort i hi
  | d + 1, i, hi => bl_trans _ _ _ (h.lt d i (by omega)) (h.sort (i + d + 1) (by omega))
theorem Sound.less {F : List Str} (h : Sound F) (i j : Nat) (hij : i < j) (hj : j < F.length) : bl (fm F i) (fm F j) = true := by
  have := h.lt (j - i - 1) i (by omega)
  rw [show i + (j - i - 1) + 1 = j from by omega] at this
  exact this
theorem Sound.ne {F : List Str} (h : Sound F) : F ≠ [] := by
  intro e
  have := h.some
  rw [e] at this
  simp at this

/-- How many nodes the first i forms want. -/
def back (F : List Str) (i : Nat) : Nat := if 0 < i then lcp (fm F (i - 1)) (fm F i) else 0
def nc (F : List Str) : Nat → Nat
  | 0 => 1
  | i + 1 => nc F i + ((fm F i).length - back F i)

theorem back_le (F : List Str) (i : Nat) : back F i ≤ (fm F i).length := by
  unfold back
  split
  · exact lcp_le_right _ _
  · omega

/-- The prefixes, listed form by form. -/
def Q (F : List Str) : Nat → List Str
  | 0 => [[]]
  | i + 1 => Q F i ++ (List.range ((fm F i).length - back F i)).map (fun r => (fm F i).take (back F i + 1 + r))

theorem Q_len (F : List Str) : ∀ i, (Q F i).length = nc F i
  | 0 => rfl
  | i + 1 => by
    unfold Q nc
    rw [List.length_append, Q_len F i]
    simp

theorem mem_Q (F : List Str) : ∀ i p, p ∈ Q F i ↔ p = [] ∨ ∃ t, t < i ∧ p <+: fm F t
  | 0, p => by simp [Q]
  | i + 1, p => by
    unfold Q
    rw [List.mem_append, mem_Q F i p, List.mem_map]
    constructor
    · rintro ((h | ⟨t, h1, h2⟩) | ⟨r, h1, h2⟩)
      · exact .inl h
      · exact .inr ⟨t, by omega, h2⟩
      · exact .inr ⟨i, by omega, by rw [← h2]; exact List.take_prefix _ _⟩
    · rintro (h | ⟨t, h1, h2⟩)
      · exact .inl (.inl h)
      · by_cases ht : t < i
        · exact .inl (.inr ⟨t, ht, h2⟩)
        · have hti : t = i := by omega
          subst hti
          have hp : p = (fm F t).take p.length := List.prefix_iff_eq_take.1 h2
          by_cases hb : p.length ≤ back F t
          · left
            unfold back at hb
            split at hb
            · right
              refine ⟨t - 1, by omega, ?_⟩
              rw [hp, ← lcp_take _ _ _ hb]
              exact List.take_prefix _ _
            · left
              exact List.eq_nil_of_length_eq_zero (by omega)
          · right
            have hl := h2.length_le
            refine ⟨p.length - back F t - 1, ?_, ?_⟩
            · rw [List.mem_range]; omega
            · rw [show back F t + 1 + (p.length - back F t - 1) = p.length from by omega]
              exact hp.symm

theorem chunk_nodup (l : Str) (b : Nat) : ∀ m, b + m ≤ l.length → ((List.range m).map (fun r => l.take (b + 1 + r))).Nodup
  | 0, _ => by simp
  | m + 1, h => by
    rw [List.range_succ, List.map_append, List.nodup_append]
    refine ⟨chunk_nodup l b m (by omega), by simp, ?_⟩
    intro x hx y hy
    obtain ⟨r, hr, e⟩ := List.mem_map.1 hx
    rw [List.mem_range] at hr
    have e2 : y = l.take (b + 1 + m) := by simpa using hy
    intro z
    have e3 := congrArg List.length z
    rw [← e, e2, List.length_take, List.length_take] at e3
    omega

theorem Q_nodup {F : List Str} (h : Sound F) : ∀ i, i ≤ F.length → (Q F i).Nodup
  | 0, _ => by simp [Q]
  | i + 1, hi => by
    unfold Q
    rw [List.nodup_append]
    have hb := back_le F i
    refine ⟨Q_nodup h i (by omega), chunk_nodup _ _ _ (by omega), ?_⟩
    intro x hx y hy z
    subst z
    obtain ⟨r, hr, e⟩ := List.mem_map.1 hy
    rw [List.mem_range] at hr
    have hl : x.length = back F i + 1 + r := by
      rw [← e, List.length_take]
      omega
    have hpi : x <+: fm F i := by rw [← e]; exact List.take_prefix _ _
    rcases (mem_Q F i x).1 hx with h0 | ⟨t, ht, hp⟩
    · rw [h0] at hl
      simp at hl
      omega
    · have hpre : x <+: fm F (i - 1) := by
        by_cases e1 : t = i - 1
        · rw [← e1]; exact hp
        · exact bl_between x _ _ _ (h.less t (i - 1) (by omega) (by omega)) (h.less (i - 1) i (by omega) (by omega)) hp hpi
      have := lcp_max x _ _ hpre hpi
      unfold back at hl
      rw [if_pos (by omega)] at hl
      omega

theorem len_le_of_sub : ∀ (l m : List Str), l.Nodup → (∀ x ∈ l, x ∈ m) → l.length ≤ m.length
  | [], _, _, _ => by simp
  | x :: l, m, hn, hs => by
    rw [List.nodup_cons] at hn
    have hx : x ∈ m := hs x (by simp)
    have h1 := len_le_of_sub l (m.erase x) hn.2 (fun y hy => by
      have hne : y ≠ x := fun e => hn.1 (by rw [← e]; exact hy)
      exact (List.mem_erase_of_ne hne).2 (hs y (by simp [hy])))
    rw [List.length_erase_of_mem hx] at h1
    have := List.length_pos_of_mem hx
    simp
    omega

theorem nodup_map (ps : Nat → Str) : ∀ m, (∀ i j, i < m → j < m → ps i = ps j → i = j) → ((List.range m).map ps).Nodup
  | 0, _ => by simp
  | m + 1, h => by
    rw [List.range_succ, List.map_append, List.nodup_append]
    refine ⟨nodup_map ps m (fun i j hi hj => h i j (by omega) (by omega)), by simp, ?_⟩
    intro x hx y hy z
    obtain ⟨r, hr, e⟩ := List.mem_map.1 hx
    rw [List.mem_range] at hr
    have e2 : y = ps m := by simpa using hy
    have := h r m (by omega) (by omega) (by rw [e, z, e2])
    omega

/-- Different prefixes: no more than are counted. -/
theorem made_le {F : List Str} (ps : Nat → Str) (m : Nat) (hn : ∀ i j, i < m → j < m → ps i = ps j → i = j) (hp : ∀ i, i < m → isPre F (ps i) = true) : m ≤ nc F F.length := by
  have := len_le_of_sub ((List.range m).map ps) (Q F F.length) (nodup_map ps m hn) (fun x hx => by
    obtain ⟨r, hr, e⟩ := List.mem_map.1 hx
    rw [List.mem_range] at hr
    obtain ⟨t, ht, hpt⟩ := (isPre_fm F _).1 (hp r hr)
    exact (mem_Q F F.length x).2 (.inr ⟨t, ht, by rw [← e]; exact hpt⟩))
  rw [Q_len] at this
  simpa using this

/-- All of them: as many as are counted. -/
theorem made_eq {F : List Str} (h : Sound F) (ps : Nat → Str) (m : Nat) (hn : ∀ i j, i < m → j < m → ps i = ps j → i = j) (hp : ∀ i, i < m → isPre F (ps i) = true)
    (ha : ∀ p, isPre F p = true → ∃ i, i < m ∧ ps i = p) : m = nc F F.length := by
  have h1 := made_le ps m hn hp
  have h2 := len_le_of_sub (Q F F.length) ((List.range m).map ps) (Q_nodup h _ (Nat.le_refl _)) (fun x hx => by
    have hpx : isPre F x = true := by
      rcases (mem_Q F F.length x).1 hx with h0 | ⟨t, ht, hpt⟩
      · rw [h0]; exact isPre_nil F h.ne
      · exact (isPre_fm F x).2 ⟨t, ht, hpt⟩
    obtain ⟨i, hi, e⟩ := ha x hpx
    exact List.mem_map.2 ⟨i, List.mem_range.2 hi, e⟩)
  rw [Q_len] at h2
  simp at h2
  omega

/-- The sum of the lengths. -/
def tot (F : List Str) : Nat → Nat
  | 0 => 0
  | i + 1 => tot F i + (fm F i).length

theorem nc_le (F : List Str) : ∀ i, nc F i ≤ 1 + tot F i
  | 0 => by simp [nc, tot]
  | i + 1 => by
    have := nc_le F i
    unfold nc tot
    omega
theorem nc_pos (F : List Str) : ∀ i, 1 ≤ nc F i
  | 0 => by simp [nc]
  | i + 1 => by
    have := nc_pos F i
    unfold nc
    omega
theorem tot_mono (F : List Str) (i : Nat) : ∀ d, tot F i ≤ tot F (i + d)
  | 0 => Nat.le_refl _
  | d + 1 => by
    have := tot_mono F i d
    show _ ≤ tot F (i + d) + _
    omega
theorem tot_le (F : List Str) (i j : Nat) (h : i ≤ j) : tot F i ≤ tot F j := by
  have := tot_mono F i (j - i)
  rw [show i + (j - i) = j from by omega] at this
  exact this
theorem len_tot (F : List Str) (i j : Nat) (h : i < j) : (fm F i).length ≤ tot F j := by
  have h1 := tot_le F (i + 1) j h
  have h2 : tot F (i + 1) = tot F i + (fm F i).length := rfl
  omega

end Go.Proofs.Qxb6600140a.Plain
