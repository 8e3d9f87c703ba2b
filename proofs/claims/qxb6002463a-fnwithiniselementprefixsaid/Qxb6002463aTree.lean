/-
  WALKS: elemEnd (37), cmpBytes (38), treeLess (13).
-/
import Derived.Test.Qxb6002463aWf
import Derived.Test.Qxb6002463aTreePlain
import Derived.WalkKit
import Derived.WalkSpells
import Derived.BigQuiet
import Derived.Lib.Strings
namespace Go.Proofs.Qxb6002463a
open Go.RowKit

theorem ret_int {k : IntKind} {a b : Int} (h : a = b) : Ending.returned (.int k a) = .returned (.int k b) := by rw [h]

theorem ee_step (s : ByteArray) (k : Nat) (h : k < s.size) (hc : ((s[k].toNat : Int) != 47) = true) : Plain.eEnd s.data.toList (k + 1) = Plain.eEnd s.data.toList k := by
  refine Plain.eEnd_step _ k (by simpa using h) ?_
  intro e
  have e' : s[k] = 47 := e
  rw [e'] at hc
  simp at hc
theorem ee_stop (s : ByteArray) (k : Nat) (h : k < s.size) (hc : ((s[k].toNat : Int) != 47) = false) : Plain.eEnd s.data.toList k = k := by
  refine Plain.eEnd_stop _ k (by simpa using h) ?_
  have e : (s[k].toNat : Int) = 47 := by simpa using hc
  have e' : s[k] = 47 := UInt8.toNat_inj.1 (by simp; omega)
  exact e'
theorem ee_end (s : ByteArray) (k : Nat) (h : ¬ k < s.size) : Plain.eEnd s.data.toList k = k :=
  Plain.eEnd_end _ k (by simp; show s.size ≤ k; omega)
theorem ee_le (s : ByteArray) (k : Nat) (h : k ≤ s.size) : k ≤ Plain.eEnd s.data.toList k ∧ Plain.eEnd s.data.toList k ≤ s.size := by
  have := Plain.eEnd_le s.data.toList k (by simpa using h)
  simpa using this

set_option maxHeartbeats 400000 in
theorem elemEnd_any (s : ByteArray) (i : Nat) (w : World) (hs : s.size ≤ maxLen) (hi : i ≤ s.size) :
    Calls Try.prog 37 #[.string s, .int .i64 (i : Int)] w fun e w' => e = .returned (.int .i64 (Plain.eEnd s.data.toList i : Nat)) ∧ w' = w := by
  unfold maxLen at hs
  go_enter Try.func37, Try.ntmps37
  go_wp2
  go_loop [1] (fun t => ∃ k : Nat, k ≤ s.size ∧ t = .int .i64 k ∧ Hid (Plain.eEnd s.data.toList k = Plain.eEnd s.data.toList i)) (fun t => s.size - (intOf t).toNat)
  case atStart => exact ⟨i, hi, rfl, rfl⟩
  case round =>
    obtain ⟨k, hk, rfl, H⟩ := hrel
    by_cases h : k < s.size
    · go_wp2
      · go_round
        case rel => exact ⟨k + 1, by omega, by go_num, (ee_step s k h ‹_›).trans H⟩
        case measure => simp [intOf]; omega
      · go_ret
        exact ⟨ret_int (by rw [← H, ee_stop s k h ‹_›]), rfl⟩
    · go_wp2
      go_ret
      exact ⟨ret_int (by rw [← H, ee_end s k h]), rfl⟩

theorem cb_same (p q : ByteArray) (k : Nat) (h1 : k < p.size) (h2 : k < q.size) (h : ((p[k].toNat : Int) != (q[k].toNat : Int)) = false) :
    Plain.cmpL (p.data.toList.drop (k + 1)) (q.data.toList.drop (k + 1)) = Plain.cmpL (p.data.toList.drop k) (q.data.toList.drop k) := by
  symm
  refine Plain.cmpL_step _ _ k (by simpa using h1) (by simpa using h2) ?_
  have e : (p[k].toNat : Int) = q[k].toNat := by simpa using h
  have e' : p[k] = q[k] := UInt8.toNat_inj.1 (by omega)
  exact e'
theorem cb_differ (p q : ByteArray) (k : Nat) (h1 : k < p.size) (h2 : k < q.size) (h : ((p[k].toNat : Int) != (q[k].toNat : Int)) = true) :
    Plain.cmpL (p.data.toList.drop k) (q.data.toList.drop k) = if p[k].toNat < q[k].toNat then -1 else 1 := by
  refine Plain.cmpL_part _ _ k (by simpa using h1) (by simpa using h2) ?_
  intro e
  have e' : p[k] = q[k] := e
  rw [e'] at h
  simp at h
theorem cb_end (p q : ByteArray) (k : Nat) (h1 : k ≤ p.size) (h2 : k ≤ q.size) (h : ¬ k < p.size ∨ ¬ k < q.size) :
    Plain.cmpL (p.data.toList.drop k) (q.data.toList.drop k) = if p.size < q.size then -1 else if q.size < p.size then 1 else 0 := by
  have := Plain.cmpL_end p.data.toList q.data.toList k (by simpa using h1) (by simpa using h2) (by simp; show k = p.size ∨ k = q.size; omega)
  rw [this]
  simp

set_option maxHeartbeats 400000 in
theorem cmpBytes_any (p q : ByteArray) (w : World) (hp : p.size ≤ maxLen) (_hq : q.size ≤ maxLen) :
    Calls Try.prog 38 #[.string p, .string q] w fun e w' => e = .returned (.int .i64 (Plain.cmpL p.data.toList q.data.toList)) ∧ ∃ n, w' = w.drewN n := by
  unfold maxLen at hp
  go_enter Try.func38, Try.ntmps38
  go_wp2
  go_loopw [5] (fun i wr => ∃ k : Nat, k ≤ p.size ∧ k ≤ q.size ∧ i = .int .i64 k ∧ Hid (Plain.cmpL (p.data.toList.drop k) (q.data.toList.drop k) = Plain.cmpL p.data.toList q.data.toList) ∧ Hid (∃ n, wr = w.drewN n)) (fun i _ => p.size - (intOf i).toNat)
  case atStart => exact ⟨0, Nat.zero_le _, Nat.zero_le _, rfl, rfl, ⟨0, rfl⟩⟩
  case round =>
    obtain ⟨k, hk1, hk2, rfl, H1, n, rfl⟩ := hrel
    by_cases h1 : k < p.size
    · by_cases h2 : k < q.size
      · go_wp2
        go_quiet (fail)
        go_wp2
        · go_quiet (fail)
          go_wp2
          · go_ret
            exact ⟨ret_int (by rw [← H1, cb_differ p q k h1 h2 ‹_›, if_pos (by omega)]), _, by rw [World.drewN_drewN, World.drewN_drewN]⟩
          · go_ret
            exact ⟨ret_int (by rw [← H1, cb_differ p q k h1 h2 ‹_›, if_neg (by omega)]), _, by rw [World.drewN_drewN, World.drewN_drewN]⟩
        · go_roundw
          case rel => exact ⟨k + 1, by omega, by omega, by go_num, (cb_same p q k h1 h2 ‹_›).trans H1, _, rfl⟩
          case measure => simp [intOf]; omega
      · have he := cb_end p q k hk1 hk2 (.inr h2)
        have HE : Hid (Plain.cmpL p.data.toList q.data.toList = if p.size < q.size then -1 else if q.size < p.size then 1 else 0) := H1.symm.trans he
        clear he
        go_wp2
        go_ret
        exact ⟨ret_int (by rw [HE, if_neg (by omega), if_pos (by omega)]), _, rfl⟩
    · have he := cb_end p q k hk1 hk2 (.inl h1)
      have HE : Hid (Plain.cmpL p.data.toList q.data.toList = if p.size < q.size then -1 else if q.size < p.size then 1 else 0) := H1.symm.trans he
      clear he
      go_wp2
      · go_ret
        exact ⟨ret_int (by rw [HE, if_pos (by omega)]), _, rfl⟩
      · go_ret
        exact ⟨ret_int (by rw [HE, if_neg (by omega), if_neg (by omega)]), _, rfl⟩

theorem elem_ex (s : ByteArray) (i : Nat) : (s.extract i (Plain.eEnd s.data.toList i)).data.toList = Plain.elem s.data.toList i := by
  rw [Lib.extract_data]
  exact Plain.elem_eq _ _

theorem elemEnd_at (s : ByteArray) (i ee : Nat) (w : World) (hs : s.size ≤ maxLen) (hi : i ≤ s.size) (h : Hid (Plain.eEnd s.data.toList i = ee)) :
    Calls Try.prog 37 #[.string s, .int .i64 (i : Int)] w fun e w' => e = .returned (.int .i64 (ee : Int)) ∧ w' = w :=
  (elemEnd_any s i w hs hi).mono fun e w' ⟨h1, h2⟩ => ⟨by rw [h1]; exact ret_int (by rw [show Plain.eEnd s.data.toList i = ee from h]), h2⟩

theorem cmpBytes_at (p q : ByteArray) (c : Int) (w : World) (hp : p.size ≤ maxLen) (hq : q.size ≤ maxLen) (h : Hid (Plain.cmpL p.data.toList q.data.toList = c)) :
    Calls Try.prog 38 #[.string p, .string q] w fun e w' => e = .returned (.int .i64 c) ∧ ∃ n, w' = w.drewN n :=
  (cmpBytes_any p q w hp hq).mono fun e w' ⟨h1, h2⟩ => ⟨by rw [h1]; exact ret_int (by rw [show Plain.cmpL p.data.toList q.data.toList = c from h]), h2⟩

theorem size_ex (s : ByteArray) (a b : Nat) (h : s.size ≤ maxLen) : (s.extract a b).size ≤ maxLen := by
  have : (s.extract a b).size ≤ s.size := by simp; omega
  omega

set_option maxHeartbeats 1000000 in
theorem treeLess_any (p q : ByteArray) (w : World) (hp : p.size ≤ maxLen) (hq : q.size ≤ maxLen) :
    Calls Try.prog 13 #[.string p, .string q] w fun e w' => e = .returned (.bool (Plain.wfst p.data.toList q.data.toList)) ∧ ∃ n, w' = w.drewN n := by
  have hp' := hp
  have hq' := hq
  unfold maxLen at hp hq
  go_enter Try.func13, Try.ntmps13
  go_wp2
  go_loopw [5, 6] (fun i j wr => ∃ k l : Nat, k ≤ p.size ∧ l ≤ q.size ∧ i = .int .i64 k ∧ j = .int .i64 l ∧ Hid (Plain.wfst (p.data.toList.drop k) (q.data.toList.drop l) = Plain.wfst p.data.toList q.data.toList) ∧ Hid (∃ n, wr = w.drewN n)) (fun i _ _ => p.size - (intOf i).toNat)
  case atStart => exact ⟨0, 0, Nat.zero_le _, Nat.zero_le _, rfl, rfl, rfl, ⟨0, rfl⟩⟩
  case round =>
    obtain ⟨k, l, hk, hl, rfl, rfl, H1, H2⟩ := hrel
    obtain ⟨a1, a2⟩ := ee_le p k hk
    obtain ⟨b1, b2⟩ := ee_le q l hl
    have x1 := elem_ex p k
    have x2 := elem_ex q l
    have T := Plain.cmpL_three (Plain.elem p.data.toList k) (Plain.elem q.data.toList l)
    have lp : p.data.toList.length = p.size := by simp
    have lq : q.data.toList.length = q.size := by simp
    have L0 : Hid (Plain.cmpL (Plain.elem p.data.toList k) (Plain.elem q.data.toList l) = 0 → Plain.eEnd p.data.toList k < p.size → Plain.eEnd q.data.toList l < q.size →
        Plain.wfst (p.data.toList.drop (Plain.eEnd p.data.toList k + 1)) (q.data.toList.drop (Plain.eEnd q.data.toList l + 1)) = Plain.wfst p.data.toList q.data.toList) :=
      fun a b c => (Plain.tree_on _ _ _ _ a (by omega) (by omega)).trans H1
    have L1 : Hid (Plain.cmpL (Plain.elem p.data.toList k) (Plain.elem q.data.toList l) = 0 → Plain.eEnd p.data.toList k = p.size ∨ Plain.eEnd q.data.toList l = q.size →
        (decide (Plain.eEnd p.data.toList k = p.size) && !decide (Plain.eEnd q.data.toList l = q.size)) = Plain.wfst p.data.toList q.data.toList) := by
      intro a b
      rw [← lp, ← lq] at b ⊢
      exact (Plain.tree_end _ _ _ _ a (by omega) (by omega) b).symm.trans H1
    have L2 : Hid (Plain.cmpL (Plain.elem p.data.toList k) (Plain.elem q.data.toList l) = -1 → true = Plain.wfst p.data.toList q.data.toList) :=
      fun a => (Plain.tree_lt _ _ _ _ a).symm.trans H1
    have L3 : Hid (Plain.cmpL (Plain.elem p.data.toList k) (Plain.elem q.data.toList l) = 1 → false = Plain.wfst p.data.toList q.data.toList) :=
      fun a => (Plain.tree_gt _ _ _ _ a).symm.trans H1
    clear H1 lp lq
    generalize hee : Plain.eEnd p.data.toList k = ee at a1 a2 x1 L0 L1
    generalize hff : Plain.eEnd q.data.toList l = ff at b1 b2 x2 L0 L1
    have HE : Hid (Plain.eEnd p.data.toList k = ee) := hee
    have HF : Hid (Plain.eEnd q.data.toList l = ff) := hff
    rw [← x1, ← x2] at T L0 L1 L2 L3
    clear hee hff x1 x2
    rcases T with c | c | c
    · have C : Hid (Plain.cmpL (p.extract k ee).data.toList (q.extract l ff).data.toList = 0) := c
      replace L0 := L0 c
      replace L1 := L1 c
      clear c L2 L3
      by_cases d : ee < p.size ∧ ff < q.size
      · obtain ⟨d1, d2⟩ := d
        have L0' : Hid (Plain.wfst (p.data.toList.drop (ee + 1)) (q.data.toList.drop (ff + 1)) = Plain.wfst p.data.toList q.data.toList) := L0 d1 d2
        clear L0 L1
        have e1 : ((ee : Int) == (p.size : Int)) = false := beq_eq_false_iff_ne.2 (by omega)
        have e2 : ((ff : Int) == (q.size : Int)) = false := beq_eq_false_iff_ne.2 (by omega)
        go_wp2_with fail
        refine (elemEnd_at p k ee _ hp' hk HE).mono ?_
        rintro e w' ⟨rfl, rfl⟩
        go_wp2_with fail
        refine (elemEnd_at q l ff _ hq' hl HF).mono ?_
        rintro e w' ⟨rfl, rfl⟩
        go_wp2_with fail
        go_quiet ((go_at_call 38; refine Calls.quiet_of (cmpBytes_at _ _ 0 _ (size_ex _ _ _ hp') (size_ex _ _ _ hq') C)))
        go_wp2
        obtain ⟨n, rfl⟩ := H2
        go_roundw
        case rel => exact ⟨ee + 1, ff + 1, by omega, by omega, by go_num, by go_num, L0', _, World.drewN_drewN _ _ _⟩
        case measure => simp [intOf]; omega
      · have dd : ee = p.size ∨ ff = q.size := by omega
        replace L1 := L1 dd
        clear L0
        by_cases d1 : ee = p.size
        · have e1 : ((ee : Int) == (p.size : Int)) = true := beq_iff_eq.2 (by omega)
          by_cases d2 : ff = q.size
          · have e2 : ((ff : Int) == (q.size : Int)) = true := beq_iff_eq.2 (by omega)
            have L : Hid (false = Plain.wfst p.data.toList q.data.toList) := by show _ = _; simpa [d1, d2] using L1
            clear L1 d dd d1 d2
            go_wp2_with fail
            refine (elemEnd_at p k ee _ hp' hk HE).mono ?_
            rintro e w' ⟨rfl, rfl⟩
            go_wp2_with fail
            refine (elemEnd_at q l ff _ hq' hl HF).mono ?_
            rintro e w' ⟨rfl, rfl⟩
            go_wp2_with fail
            go_quiet ((go_at_call 38; refine Calls.quiet_of (cmpBytes_at _ _ 0 _ (size_ex _ _ _ hp') (size_ex _ _ _ hq') C)))
            go_wp2
            obtain ⟨n, rfl⟩ := H2
            go_ret
            exact ⟨ret_bool L, _, World.drewN_drewN _ _ _⟩
          · have e2 : ((ff : Int) == (q.size : Int)) = false := beq_eq_false_iff_ne.2 (by omega)
            have L : Hid (true = Plain.wfst p.data.toList q.data.toList) := by show _ = _; simpa [d1, d2] using L1
            clear L1 d dd d1 d2
            go_wp2_with fail
            refine (elemEnd_at p k ee _ hp' hk HE).mono ?_
            rintro e w' ⟨rfl, rfl⟩
            go_wp2_with fail
            refine (elemEnd_at q l ff _ hq' hl HF).mono ?_
            rintro e w' ⟨rfl, rfl⟩
            go_wp2_with fail
            go_quiet ((go_at_call 38; refine Calls.quiet_of (cmpBytes_at _ _ 0 _ (size_ex _ _ _ hp') (size_ex _ _ _ hq') C)))
            go_wp2
            obtain ⟨n, rfl⟩ := H2
            go_ret
            exact ⟨ret_bool L, _, World.drewN_drewN _ _ _⟩
        · have e1 : ((ee : Int) == (p.size : Int)) = false := beq_eq_false_iff_ne.2 (by omega)
          have e2 : ((ff : Int) == (q.size : Int)) = true := beq_iff_eq.2 (by omega)
          have L : Hid (false = Plain.wfst p.data.toList q.data.toList) := by show _ = _; simpa [d1] using L1
          clear L1 d dd d1
          go_wp2_with fail
          refine (elemEnd_at p k ee _ hp' hk HE).mono ?_
          rintro e w' ⟨rfl, rfl⟩
          go_wp2_with fail
          refine (elemEnd_at q l ff _ hq' hl HF).mono ?_
          rintro e w' ⟨rfl, rfl⟩
          go_wp2_with fail
          go_quiet ((go_at_call 38; refine Calls.quiet_of (cmpBytes_at _ _ 0 _ (size_ex _ _ _ hp') (size_ex _ _ _ hq') C)))
          go_wp2
          obtain ⟨n, rfl⟩ := H2
          go_ret
          exact ⟨ret_bool L, _, World.drewN_drewN _ _ _⟩
    · have C : Hid (Plain.cmpL (p.extract k ee).data.toList (q.extract l ff).data.toList = -1) := c
      have L : Hid (true = Plain.wfst p.data.toList q.data.toList) := L2 c
      clear c L0 L1 L2 L3
      go_wp2_with fail
      refine (elemEnd_at p k ee _ hp' hk HE).mono ?_
      rintro e w' ⟨rfl, rfl⟩
      go_wp2_with fail
      refine (elemEnd_at q l ff _ hq' hl HF).mono ?_
      rintro e w' ⟨rfl, rfl⟩
      go_wp2_with fail
      go_quiet ((go_at_call 38; refine Calls.quiet_of (cmpBytes_at _ _ (-1) _ (size_ex _ _ _ hp') (size_ex _ _ _ hq') C)))
      go_wp2
      obtain ⟨n, rfl⟩ := H2
      go_ret
      exact ⟨ret_bool L, _, World.drewN_drewN _ _ _⟩
    · have C : Hid (Plain.cmpL (p.extract k ee).data.toList (q.extract l ff).data.toList = 1) := c
      have L : Hid (false = Plain.wfst p.data.toList q.data.toList) := L3 c
      clear c L0 L1 L2 L3
      go_wp2_with fail
      refine (elemEnd_at p k ee _ hp' hk HE).mono ?_
      rintro e w' ⟨rfl, rfl⟩
      go_wp2_with fail
      refine (elemEnd_at q l ff _ hq' hl HF).mono ?_
      rintro e w' ⟨rfl, rfl⟩
      go_wp2_with fail
      go_quiet ((go_at_call 38; refine Calls.quiet_of (cmpBytes_at _ _ 1 _ (size_ex _ _ _ hp') (size_ex _ _ _ hq') C)))
      go_wp2
      obtain ⟨n, rfl⟩ := H2
      go_ret
      exact ⟨ret_bool L, _, World.drewN_drewN _ _ _⟩

end Go.Proofs.Qxb6002463a
