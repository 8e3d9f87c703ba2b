/-
  WALKS for 'Rows.FnWalksFirstIsTreeOrderSaid'.
-/
import Derived.Test.Qxb6002463aTree
import Derived.WalkKit
import Derived.ProofKit
namespace Go.Proofs.Qxb6002463a.fnWalksFirstIsTreeOrder
open Go.WideShapes Go.RowKit

theorem zb_yes (p q : ByteArray) (w : World) (hs : p.size + q.size ≤ 1048576) :
    Calls Try.prog 11 #[.string p, .string q] w fun e w' => e = .returned (.bool true) ∧ w' = w := by
  go_enter Try.func11, Try.ntmps11
  go_wp2
  go_ret
  exact ⟨rfl, rfl⟩
theorem zb_no (p q : ByteArray) (w : World) (hp : p.size ≤ maxLen) (hq : q.size ≤ maxLen) (hs : ¬ p.size + q.size ≤ 1048576) :
    Calls Try.prog 11 #[.string p, .string q] w fun e w' => e = .returned (.bool false) ∧ w' = w := by
  unfold maxLen at hp hq
  go_enter Try.func11, Try.ntmps11
  go_wp2
  all_goals
    go_ret
    exact ⟨rfl, rfl⟩

theorem walk (a0 : ByteArray) (a1 : ByteArray) (w0 : a0.size ≤ maxLen) (w1 : a1.size ≤ maxLen) (w : World) :
    Calls Try.prog 3 #[.string a0, .string a1] w fun e w' => e = .returned (.bool true) ∧ Grown w w' := by
  by_cases hs : a0.size + a1.size ≤ 1048576
  · go_enter Try.func3, Try.ntmps3
    go_wp2_with (first
      | (go_at_call 11; refine (zb_yes _ _ _ hs).mono ?_; rintro e w' ⟨rfl, rfl⟩)
      | (go_at_call 12; refine (zzWalksFirst_any _ _ _ w0 w1).mono ?_; rintro e w' ⟨rfl, n, rfl⟩)
      | (go_at_call 13; refine (treeLess_any _ _ _ w0 w1).mono ?_; rintro e w' ⟨rfl, n, rfl⟩))
    go_ret
    exact ⟨by simp, grown_drewN (Grown.refl _) _⟩
  · go_enter Try.func3, Try.ntmps3
    go_wp2_with (go_at_call 11; refine (zb_no _ _ _ w0 w1 hs).mono ?_; rintro e w' ⟨rfl, rfl⟩)
    go_ret
    exact ⟨rfl, Grown.refl _⟩

end Go.Proofs.Qxb6002463a.fnWalksFirstIsTreeOrder
