/-
  WALKS for 'Rows.FnWalksFirstStrictTotalOrderSaid'.
-/
import Derived.Test.Qxb6002463aWf
import Derived.WalkKit
import Derived.ProofKit
namespace Go.Proofs.Qxb6002463a.fnWalksFirstStrictTotalOrder
open Go.WideShapes Go.RowKit

/-! ### The bound on sizes (function 14) -/
theorem zb_yes (p q r : ByteArray) (w : World) (hs : p.size + q.size + r.size ≤ 1048576) :
    Calls Try.prog 14 #[.string p, .string q, .string r] w fun e w' => e = .returned (.bool true) ∧ w' = w := by
  go_enter Try.func14, Try.ntmps14
  go_wp2
  go_ret
  exact ⟨rfl, rfl⟩
theorem zb_no (p q r : ByteArray) (w : World) (hp : p.size ≤ maxLen) (hq : q.size ≤ maxLen) (hr : r.size ≤ maxLen) (hs : ¬ p.size + q.size + r.size ≤ 1048576) :
    Calls Try.prog 14 #[.string p, .string q, .string r] w fun e w' => e = .returned (.bool false) ∧ w' = w := by
  unfold maxLen at hp hq hr
  go_enter Try.func14, Try.ntmps14
  go_wp2
  all_goals
    go_ret
    exact ⟨rfl, rfl⟩

/-! ### STEP 1: THE WALK: the Go text returns true. 'Grown w w'': the world has at most new blocks (Derived/RowKit3.lean). Part the cases AHEAD of 'go_enter' where a test parts the walk; take each callee by a contract of your own. -/
theorem walk (a0 : ByteArray) (a1 : ByteArray) (a2 : ByteArray) (w0 : a0.size ≤ maxLen) (w1 : a1.size ≤ maxLen) (w2 : a2.size ≤ maxLen) (w : World) :
    Calls Try.prog 4 #[.string a0, .string a1, .string a2] w fun e w' => e = .returned (.bool true) ∧ Grown w w' := by
  by_cases hs : a0.size + a1.size + a2.size ≤ 1048576
  · have hpp : Plain.wfst a0.data.toList a0.data.toList = false := Plain.wfst_irrefl _
    by_cases e : a0 = a1
    · subst e
      go_enter Try.func4, Try.ntmps4
      go_wp2_with (first
        | (go_at_call 14; refine (zb_yes _ _ _ _ hs).mono ?_; rintro e w' ⟨rfl, rfl⟩)
        | (go_at_call 12; refine (zzWalksFirst_any _ _ _ (by assumption) (by assumption)).mono ?_; rintro e w' ⟨rfl, n, rfl⟩))
      all_goals
        go_ret
        exact ⟨rfl, grown_drewN (Grown.refl _) _⟩
    · have hne : (a0.toList == a1.toList) = false := by
        rw [ByteArray.toList_eq, ByteArray.toList_eq, beq_eq_false_iff_ne]
        exact fun x => e (bytes_inj x)
      have hne' : a0.data.toList ≠ a1.data.toList := fun x => e (bytes_inj x)
      have ht := Plain.wfst_total _ _ hne'
      cases hpq : Plain.wfst a0.data.toList a1.data.toList
      · have hqp : Plain.wfst a1.data.toList a0.data.toList = true := by simpa [hpq] using ht
        clear ht
        go_enter Try.func4, Try.ntmps4
        go_wp2_with (first
          | (go_at_call 14; refine (zb_yes _ _ _ _ hs).mono ?_; rintro e w' ⟨rfl, rfl⟩)
          | (go_at_call 12; refine (zzWalksFirst_any _ _ _ (by assumption) (by assumption)).mono ?_; rintro e w' ⟨rfl, n, rfl⟩))
        all_goals
          go_ret
          exact ⟨rfl, grown_drewN (Grown.refl _) _⟩
      · have hqp : Plain.wfst a1.data.toList a0.data.toList = false := Plain.wfst_asymm _ _ hpq
        clear ht
        cases hqr : Plain.wfst a1.data.toList a2.data.toList
        · go_enter Try.func4, Try.ntmps4
          go_wp2_with (first
            | (go_at_call 14; refine (zb_yes _ _ _ _ hs).mono ?_; rintro e w' ⟨rfl, rfl⟩)
            | (go_at_call 12; refine (zzWalksFirst_any _ _ _ (by assumption) (by assumption)).mono ?_; rintro e w' ⟨rfl, n, rfl⟩))
          all_goals
            go_ret
            exact ⟨rfl, grown_drewN (Grown.refl _) _⟩
        · have hpr : Plain.wfst a0.data.toList a2.data.toList = true := Plain.wfst_trans _ _ _ hpq hqr
          go_enter Try.func4, Try.ntmps4
          go_wp2_with (first
            | (go_at_call 14; refine (zb_yes _ _ _ _ hs).mono ?_; rintro e w' ⟨rfl, rfl⟩)
            | (go_at_call 12; refine (zzWalksFirst_any _ _ _ (by assumption) (by assumption)).mono ?_; rintro e w' ⟨rfl, n, rfl⟩))
          all_goals
            go_ret
            exact ⟨rfl, grown_drewN (Grown.refl _) _⟩
  · go_enter Try.func4, Try.ntmps4
    go_wp2_with (go_at_call 14; refine (zb_no _ _ _ _ w0 w1 w2 hs).mono ?_; rintro e w' ⟨rfl, rfl⟩)
    go_ret
    exact ⟨rfl, Grown.refl _⟩

end Go.Proofs.Qxb6002463a.fnWalksFirstStrictTotalOrder
