/-
  PLAIN: the tables while they are made. No Go in sight.
-/
import Derived.Test.Qxb6600140aBuild
namespace Go.Proofs.Qxb6600140a.Plain

/-- The child of the root for c, as far as it is made. -/
def RP (made : Nat) (ps : Nat → Str) (root : Nat → Nat) (c : UInt8) : Prop :=
  (0 < root c.toNat ∧ root c.toNat < made ∧ ps (root c.toNat) = [c]) ∨ (root c.toNat = 0 ∧ ∀ j, 0 < j → j < made → ps j ≠ [c])

/-- Nodes below k are expanded; fst k is where the next children begin. -/
structure Bld (F : List Str) (k made : Nat) (ps : Nat → Str) (lab : Nat → UInt8) (fst fl mt root : Nat → Nat) : Prop where
  zero : ps 0 = []
  pos : 0 < made
  kle : k ≤ made
  pre : ∀ i, i < made → isPre F (ps i) = true
  nodup : ∀ i j, i < made → j < made → ps i = ps j → i = j
  par : ∀ i, 0 < i → i < made → ∃ q, q < k ∧ ps i = ps q ++ [lab i]
  kids : ∀ i, i < k → Kids F made ps lab fst i
  fstk : fst k = made
  link : ∀ i, 0 < i → i < made → Link F ps fl i
  flz : ∀ i, made ≤ i → fl i = 0
  mtc : ∀ i, i < made → mt i = lf F (ps i)
  root : ∀ c, RP made ps root c

/-- Node k is being expanded: its children from m0 on are made for the forms before lo. -/
structure Exp (F : List Str) (k m0 made lo whi d : Nat) (ps : Nat → Str) (lab : Nat → UInt8) (fst fl mt root : Nat → Nat) : Prop where
  zero : ps 0 = []
  klt : k < m0
  mle : m0 ≤ made
  pre : ∀ i, i < made → isPre F (ps i) = true
  nodup : ∀ i j, i < made → j < made → ps i = ps j → i = j
  par : ∀ i, 0 < i → i < made → (∃ q, q < k ∧ ps i = ps q ++ [lab i]) ∨ (m0 ≤ i ∧ ps i = ps k ++ [lab i])
  own : ∀ i, m0 ≤ i → i < made → ps i = ps k ++ [lab i]
  inc : ∀ i j, m0 ≤ i → i < j → j < made → (lab i).toNat < (lab j).toNat
  kids : ∀ i, i < k → Kids F made ps lab fst i
  fstk : fst k = m0
  link : ∀ i, 0 < i → i < made → Link F ps fl i
  flz : ∀ i, made ≤ i → fl i = 0
  mtc : ∀ i, i < made → mt i = lf F (ps i)
  root : ∀ c, RP made ps root c
  low : ∀ j, m0 ≤ j → j < made → ∀ t, lo ≤ t → t < whi → (lab j).toNat < (byt F t d).toNat
  cov : ∀ c, isPre F (ps k ++ [c]) = true → (∃ j, m0 ≤ j ∧ j < made ∧ lab j = c) ∨ (∃ t, lo ≤ t ∧ t < whi ∧ ps k ++ [c] <+: fm F t)

variable {F : List Str}

theorem Bld.start (hF : Sound F) (lab : Nat → UInt8) (fst : Nat → Nat) : Bld F 0 1 (fun _ => []) lab (upd fst 0 1) (fun _ => 0) (fun _ => 0) (fun _ => 0) where
  zero := rfl
  pos := by omega
  kle := by omega
  pre := fun i _ => isPre_nil F hF.ne
  nodup := fun i j h1 h2 _ => by omega
  par := fun i h1 h2 => by omega
  kids := fun i h => by omega
  fstk := upd_at _ _ _
  link := fun i h1 h2 => by omega
  flz := fun _ _ => rfl
  mtc := fun _ _ => rfl
  root := fun c => .inr ⟨rfl, fun j h1 h2 => by omega⟩

/-- Node k's turn. -/
theorem Bld.open_ {k made : Nat} {ps : Nat → Str} {lab : Nat → UInt8} {fst fl mt root : Nat → Nat} (h : Bld F k made ps lab fst fl mt root) (hk : k < made) {st whi d : Nat} (hs : Span F (ps k) st whi d) :
    Exp F k made made st whi d ps lab fst fl mt root where
  zero := h.zero
  klt := hk
  mle := Nat.le_refl _
  pre := h.pre
  nodup := h.nodup
  par := fun i h1 h2 => .inl (h.par i h1 h2)
  own := fun i h1 h2 => by omega
  inc := fun i j h1 h2 h3 => by omega
  kids := h.kids
  fstk := h.fstk
  link := h.link
  flz := h.flz
  mtc := h.mtc
  root := h.root
  low := fun j h1 h2 => by omega
  cov := fun c hc => by
    right
    obtain ⟨t, ht, hp⟩ := (isPre_fm F _).1 hc
    have hl := hp.length_le
    have := hs.len
    simp at hl
    obtain ⟨a, b⟩ := hs.off t ht ((List.prefix_append _ _).trans hp) (by omega)
    exact ⟨t, a, b, hp⟩

section
variable {k m0 made lo whi d : Nat} {ps : Nat → Str} {lab : Nat → UInt8} {fst fl mt root : Nat → Nat}

theorem Exp.ne (h : Exp F k m0 made lo whi d ps lab fst fl mt root) (i : Nat) (h1 : 0 < i) (h2 : i < made) : ps i ≠ [] := by
  rcases h.par i h1 h2 with ⟨q, _, e⟩ | ⟨_, e⟩ <;> rw [e] <;> simp

/-- 'next' may be asked while node k is expanded. -/
theorem Exp.auto (h : Exp F k m0 made lo whi d ps lab fst fl mt root) (hk : 0 < k) : Auto F made k ps lab fst fl root where
  zero := h.zero
  pos := by have := h.klt; have := h.mle; omega
  le := by have := h.klt; have := h.mle; omega
  pre := h.pre
  ne := h.ne
  kids := fun i _ hi => h.kids i hi
  link := h.link
  root := fun c => by
    obtain ⟨a, b, e, s, g⟩ := h.kids 0 hk
    rw [h.zero] at e g
    rcases h.root c with ⟨r1, r2, r3⟩ | ⟨r1, r2⟩
    · refine ⟨fun _ => ⟨r2, r3⟩, fun hn => ?_⟩
      have := h.pre _ r2
      rw [r3, hn] at this
      cases this
    · refine ⟨fun hp => ?_, fun _ => r1⟩
      obtain ⟨j, j1, j2, j3⟩ := g c hp
      have hj := e j j1 j2
      rw [j3] at hj
      have hj0 : 0 < j := by
        by_cases z : j = 0
        · rw [z, h.zero] at hj; simp at hj
        · omega
      exact absurd hj (r2 j hj0 (by omega))

/-- A child is made. -/
theorem Exp.step (hF : Sound F) (h : Exp F k m0 made lo whi d ps lab fst fl mt root) {hi f m : Nat} {root' : Nat → Nat} {st : Nat} (hs : Span F (ps k) st whi d) (h1 : st ≤ lo) (h2 : lo < hi) (h3 : hi ≤ whi)
    (hsep : ∀ t u, st ≤ t → t < lo → lo ≤ u → u < whi → (byt F t d).toNat < (byt F u d).toNat)
    (hc : ∀ t, lo ≤ t → t < hi → byt F t d = byt F lo d) (hend : hi = whi ∨ (hi < whi ∧ byt F hi d ≠ byt F lo d))
    (hf : f < made) (hfp : ps f = ls F (ps k ++ [byt F lo d]).tail) (hm : m = lf F (ps k ++ [byt F lo d]))
    (hr : (k = 0 ∧ root' = upd root (byt F lo d).toNat made) ∨ (0 < k ∧ root' = root)) :
    Exp F k m0 (made + 1) hi whi d (upd ps made (ps k ++ [byt F lo d])) (upd lab made (byt F lo d)) fst (upd fl made f) (upd mt made m) root' := by
  have hkm : k < made := by have := h.klt; have := h.mle; omega
  have hv := hs.child hF h1 h2 h3 hsep hc hend
  have hpk : upd ps made (ps k ++ [byt F lo d]) k = ps k := upd_ne _ _ (by omega)
  have hpre : isPre F (ps k ++ [byt F lo d]) = true := (isPre_fm F _).2 ⟨lo, by have := hv.2.1; omega, (hv.2.2 lo (by have := hv.2.1; omega)).2 ⟨Nat.le_refl _, h2⟩⟩
  have hnew : ∀ i, i < made → ps i ≠ ps k ++ [byt F lo d] := by
    intro i hi' e
    by_cases i0 : i = 0
    · rw [i0, h.zero] at e; simp at e
    · rcases h.par i (by omega) hi' with ⟨q, hq, e2⟩ | ⟨hq, e2⟩
      · rw [e] at e2
        have := (List.append_inj' e2 rfl).1
        have := h.nodup k q hkm (by omega) this
        omega
      · rw [e] at e2
        have e3 := (List.append_inj' e2 rfl).2
        have e4 : lab i = byt F lo d := by simpa using e3.symm
        have := h.low i hq hi' lo (Nat.le_refl _) (by omega)
        rw [e4] at this
        omega
  exact {
    zero := by rw [upd_ne _ _ (by omega)]; exact h.zero
    klt := h.klt
    mle := by have := h.mle; omega
    pre := fun i hi' => by
      by_cases e : i = made
      · rw [e, upd_at]; exact hpre
      · rw [upd_ne _ _ e]; exact h.pre i (by omega)
    nodup := fun i j hi' hj e => by
      by_cases ei : i = made
      · by_cases ej : j = made
        · omega
        · rw [ei, upd_at, upd_ne _ _ ej] at e
          exact absurd e.symm (hnew j (by omega))
      · by_cases ej : j = made
        · rw [ej, upd_at, upd_ne _ _ ei] at e
          exact absurd e (hnew i (by omega))
        · rw [upd_ne _ _ ei, upd_ne _ _ ej] at e
          exact h.nodup i j (by omega) (by omega) e
    par := fun i i0 hi' => by
      by_cases e : i = made
      · right
        rw [hpk, e, upd_at, upd_at]
        exact ⟨h.mle, rfl⟩
      · rw [upd_ne _ _ e, upd_ne _ _ e, hpk]
        rcases h.par i i0 (by omega) with ⟨q, hq, e2⟩ | hq
        · left
          exact ⟨q, hq, by rw [upd_ne _ _ (by omega)]; exact e2⟩
        · exact .inr hq
    own := fun i i0 hi' => by
      rw [hpk]
      by_cases e : i = made
      · rw [e, upd_at, upd_at]
      · rw [upd_ne _ _ e, upd_ne _ _ e]
        exact h.own i i0 (by omega)
    inc := fun i j a b c => by
      by_cases e : j = made
      · rw [e, upd_at, upd_ne _ _ (by omega)]
        exact h.low i a (by omega) lo (Nat.le_refl _) (by omega)
      · rw [upd_ne _ _ e, upd_ne _ _ (by omega)]
        exact h.inc i j a b (by omega)
    kids := fun i hi' => by
      obtain ⟨a, b, c, e, g⟩ := h.kids i hi'
      have hne : ∀ j, j < fst (i + 1) → j ≠ made := fun j hj => by omega
      refine ⟨a, by omega, fun j j1 j2 => ?_, fun j j' j1 j2 j3 => ?_, fun c' hc' => ?_⟩
      · rw [upd_ne _ _ (hne j j2), upd_ne _ _ (hne j j2), upd_ne _ _ (by omega)]
        exact c j j1 j2
      · rw [upd_ne _ _ (hne j (by omega)), upd_ne _ _ (hne j' j3)]
        exact e j j' j1 j2 j3
      · rw [upd_ne _ _ (by omega)] at hc'
        obtain ⟨j, j1, j2, j3⟩ := g c' hc'
        exact ⟨j, j1, j2, by rw [upd_ne _ _ (hne j j2)]; exact j3⟩
    fstk := h.fstk
    link := fun i i0 hi' => by
      unfold Link
      by_cases e : i = made
      · rw [e, upd_at, upd_at, upd_ne _ _ (by omega)]
        exact ⟨hf, hfp⟩
      · obtain ⟨a, b⟩ := h.link i i0 (by omega)
        rw [upd_ne _ _ e, upd_ne _ _ e, upd_ne _ _ (by omega)]
        exact ⟨a, b⟩
    flz := fun i hi' => by
      rw [upd_ne _ _ (by omega)]
      exact h.flz i (by omega)
    mtc := fun i hi' => by
      by_cases e : i = made
      · rw [e, upd_at, upd_at]; exact hm
      · rw [upd_ne _ _ e, upd_ne _ _ e]; exact h.mtc i (by omega)
    root := fun c => by
      rcases hr with ⟨hk0, hr⟩ | ⟨hk0, hr⟩
      · rw [hr]
        have hps : ps k = [] := by rw [hk0]; exact h.zero
        unfold RP
        by_cases e : c = byt F lo d
        · left
          rw [e, upd_at, upd_at, hps]
          exact ⟨by omega, by omega, rfl⟩
        · have e2 : c.toNat ≠ (byt F lo d).toNat := fun z => e (UInt8.toNat_inj.1 z)
          rw [upd_ne _ _ e2]
          rcases h.root c with ⟨r1, r2, r3⟩ | ⟨r1, r2⟩
          · left
            exact ⟨r1, by omega, by rw [upd_ne _ _ (by omega)]; exact r3⟩
          · right
            refine ⟨r1, fun j j0 hj => ?_⟩
            by_cases ej : j = made
            · rw [ej, upd_at, hps]
              intro z
              exact e (by simpa using z.symm)
            · rw [upd_ne _ _ ej]
              exact r2 j j0 (by omega)
      · rw [hr]
        have hps : ps k ≠ [] := h.ne k hk0 hkm
        unfold RP
        rcases h.root c with ⟨r1, r2, r3⟩ | ⟨r1, r2⟩
        · left
          exact ⟨r1, by omega, by rw [upd_ne _ _ (by omega)]; exact r3⟩
        · right
          refine ⟨r1, fun j j0 hj => ?_⟩
          by_cases ej : j = made
          · rw [ej, upd_at]
            intro z
            have z1 := congrArg List.length z
            have z2 := List.length_pos_iff.2 hps
            rw [List.length_append] at z1
            simp only [List.length_cons, List.length_nil] at z1
            omega
          · rw [upd_ne _ _ ej]
            exact r2 j j0 (by omega)
    low := fun j j0 hj t t0 ht => by
      have := hs.sep hF h1 h2 h3 hsep hc hend lo t h1 h2 t0 ht
      by_cases e : j = made
      · rw [e, upd_at]; exact this
      · rw [upd_ne _ _ e]
        exact h.low j j0 (by omega) t (by omega) ht
    cov := fun c hc' => by
      rw [hpk] at hc' ⊢
      rcases h.cov c hc' with ⟨j, j0, j1, j2⟩ | ⟨t, t0, t1, t2⟩
      · left
        exact ⟨j, j0, by omega, by rw [upd_ne _ _ (by omega)]; exact j2⟩
      · by_cases e : t < hi
        · left
          refine ⟨made, h.mle, by omega, ?_⟩
          rw [upd_at]
          obtain ⟨p1, p2⟩ := hs.on t (by omega) t1
          have hl := hs.len
          have := (snoc_prefix _ _ p1 (by omega) c).1 t2
          rw [hl] at this
          rw [← this]
          exact (hc t t0 e).symm
        · right
          exact ⟨t, by omega, t1, t2⟩ }

/-- Node k is done. -/
theorem Exp.close (h : Exp F k m0 made lo whi d ps lab fst fl mt root) (hl : whi ≤ lo) : Bld F (k + 1) made ps lab (upd fst (k + 1) made) fl mt root where
  zero := h.zero
  pos := by have := h.klt; have := h.mle; omega
  kle := by have := h.klt; have := h.mle; omega
  pre := h.pre
  nodup := h.nodup
  par := fun i i0 hi => by
    rcases h.par i i0 hi with ⟨q, hq, e⟩ | ⟨_, e⟩
    · exact ⟨q, by omega, e⟩
    · exact ⟨k, by omega, e⟩
  kids := fun i hi => by
    unfold Kids
    by_cases e : i = k
    · subst e
      rw [upd_at, upd_ne _ _ (by omega), h.fstk]
      refine ⟨h.mle, Nat.le_refl _, h.own, h.inc, fun c hc => ?_⟩
      rcases h.cov c hc with hj | ⟨t, t0, t1, _⟩
      · exact hj
      · omega
    · rw [upd_ne _ _ (by omega), upd_ne _ _ (by omega)]
      exact h.kids i (by omega)
  fstk := upd_at _ _ _
  link := h.link
  flz := h.flz
  mtc := h.mtc
  root := h.root
end

/-- All nodes are expanded. -/
theorem Bld.all {made : Nat} {ps : Nat → Str} {lab : Nat → UInt8} {fst fl mt root : Nat → Nat} (h : Bld F made made ps lab fst fl mt root) : ∀ p, isPre F p = true → ∃ i, i < made ∧ ps i = p := by
  have H : ∀ (n : Nat) (p : Str), p.length = n → isPre F p = true → ∃ i, i < made ∧ ps i = p := by
    intro n
    induction n with
    | zero =>
      intro p hp _
      have : p = [] := List.eq_nil_of_length_eq_zero hp
      subst this
      exact ⟨0, h.pos, h.zero⟩
    | succ n ih =>
      intro p hp hpre
      have hne : p ≠ [] := by intro e; subst e; simp at hp
      have e := List.dropLast_concat_getLast hne
      rw [← e] at hpre ⊢
      obtain ⟨i, hi, ei⟩ := ih p.dropLast (by simp; omega) (isPre_left F _ _ hpre)
      obtain ⟨_, b, c, _, g⟩ := h.kids i hi
      rw [← ei] at hpre ⊢
      obtain ⟨j, j0, j1, j2⟩ := g _ hpre
      exact ⟨j, by omega, by rw [c j j0 j1, j2]⟩
  exact fun p hp => H p.length p rfl hp

theorem Bld.made_eq (hF : Sound F) {made : Nat} {ps : Nat → Str} {lab : Nat → UInt8} {fst fl mt root : Nat → Nat} (h : Bld F made made ps lab fst fl mt root) : made = nc F F.length :=
  Plain.made_eq hF ps made h.nodup h.pre h.all

theorem Bld.auto {made : Nat} {ps : Nat → Str} {lab : Nat → UInt8} {fst fl mt root : Nat → Nat} (h : Bld F made made ps lab fst fl mt root) : Auto F made made ps lab fst fl root where
  zero := h.zero
  pos := h.pos
  le := Nat.le_refl _
  pre := h.pre
  ne := fun i i0 hi => by
    obtain ⟨q, _, e⟩ := h.par i i0 hi
    rw [e]
    simp
  kids := fun i _ hi => h.kids i hi
  link := h.link
  root := fun c => by
    rcases h.root c with ⟨r1, r2, r3⟩ | ⟨r1, r2⟩
    · refine ⟨fun _ => ⟨r2, r3⟩, fun hn => ?_⟩
      have := h.pre _ r2
      rw [r3, hn] at this
      cases this
    · refine ⟨fun hp => ?_, fun _ => r1⟩
      obtain ⟨i, hi, e⟩ := h.all _ hp
      have hi0 : 0 < i := by
        by_cases z : i = 0
        · rw [z, h.zero] at e; cases e
        · omega
      exact absurd e (r2 i hi0 hi)

end Go.Proofs.Qxb6600140a.Plain
