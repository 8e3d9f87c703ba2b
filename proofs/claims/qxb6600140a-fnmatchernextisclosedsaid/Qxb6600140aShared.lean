/-
  WALK: sharedPrefix (34).
-/
import Derived.Test.Qxb6600140aRows
import Derived.Test.Qxb6600140aCount
import Derived.WalkKit
import Derived.WalkSpells
import Derived.BigQuiet
import Derived.ProofKit
namespace Go.Proofs.Qxb6600140a
open Go.RowKit Go.Proofs.Qxb6600140a.Plain

theorem ret_int {k : IntKind} {a b : Int} (h : a = b) : Ending.returned (.int k a) = .returned (.int k b) := by rw [h]
theorem ret_bool {a b : Bool} (h : a = b) : Ending.returned (.bool a) = .returned (.bool b) := by rw [h]

set_option maxHeartbeats 400000 in
theorem sharedPrefix_any (p q : ByteArray) (w : World) (hp : p.size ≤ maxLen) :
    Calls Try.prog 34 #[.string p, .string q] w fun e w' => e = .returned (.int .i64 ((lcp p.data.toList q.data.toList : Nat) : Int)) ∧ ∃ n, w' = w.drewN n := by
  unfold maxLen at hp
  have lp : p.data.toList.length = p.size := by simp
  have lq : q.data.toList.length = q.size := by simp
  have LP : Hid (p.data.toList.length = p.size ∧ q.data.toList.length = q.size) := ⟨lp, lq⟩
  clear lp lq
  go_enter Try.func34, Try.ntmps34
  go_wp2
  go_loopw [5] (fun i wr => ∃ k : Nat, k ≤ p.size ∧ k ≤ q.size ∧ i = .int .i64 (k : Int) ∧ Hid (k + lcp (p.data.toList.drop k) (q.data.toList.drop k) = lcp p.data.toList q.data.toList) ∧ Hid (∃ n, wr = w.drewN n)) (fun i _ => p.size - (intOf i).toNat)
  case atStart => exact ⟨0, Nat.zero_le _, Nat.zero_le _, rfl, by show _ = _; simp, 0, rfl⟩
  case round =>
    obtain ⟨k, hk1, hk2, rfl, H1, H2⟩ := hrel
    by_cases h1 : k < p.size
    · have d1 : decide ((k : Int) < (p.size : Int)) = true := decide_eq_true (by omega)
      by_cases h2 : k < q.size
      · have d2 : decide ((k : Int) < (q.size : Int)) = true := decide_eq_true (by omega)
        by_cases e : p[k] = q[k]
        · have e1 : ((p[k].toNat : Int) == (q[k].toNat : Int)) = true := by rw [e]; simp
          have H3 : Hid ((k + 1) + lcp (p.data.toList.drop (k + 1)) (q.data.toList.drop (k + 1)) = lcp p.data.toList q.data.toList) :=
            (lcp_step _ _ k (by rw [LP.out.1]; exact h1) (by rw [LP.out.2]; exact h2) e).symm.trans H1
          clear e
          go_wp2
          go_quiet (fail)
          go_wp2
          obtain ⟨n, rfl⟩ := H2
          go_roundw
          case rel => exact ⟨k + 1, by omega, by omega, by go_num, H3, _, World.drewN_drewN _ _ _⟩
          case measure => simp [intOf]; omega
        · have e2 : p[k].toNat ≠ q[k].toNat := fun z => e (UInt8.toNat_inj.1 z)
          have e1 : ((p[k].toNat : Int) == (q[k].toNat : Int)) = false := beq_eq_false_iff_ne.2 (by omega)
          have H3 : Hid (k = lcp p.data.toList q.data.toList) :=
            (lcp_stop _ _ k (by rw [LP.out.1]; exact h1) (by rw [LP.out.2]; exact h2) e).symm.trans H1
          clear e e2
          go_wp2
          go_quiet (fail)
          go_wp2
          obtain ⟨n, rfl⟩ := H2
          go_ret
          exact ⟨ret_int (by rw [← H3.out]), _, World.drewN_drewN _ _ _⟩
      · have d2 : decide ((k : Int) < (q.size : Int)) = false := decide_eq_false (by omega)
        have H3 : Hid (k = lcp p.data.toList q.data.toList) := (lcp_end _ _ k (.inr (by rw [LP.out.2]; omega))).symm.trans H1
        go_wp2
        go_quiet (fail)
        go_wp2
        obtain ⟨n, rfl⟩ := H2
        go_ret
        exact ⟨ret_int (by rw [← H3.out]), _, World.drewN_drewN _ _ _⟩
    · have d1 : decide ((k : Int) < (p.size : Int)) = false := decide_eq_false (by omega)
      have H3 : Hid (k = lcp p.data.toList q.data.toList) := (lcp_end _ _ k (.inl (by rw [LP.out.1]; omega))).symm.trans H1
      go_wp2
      go_quiet (fail)
      go_wp2
      obtain ⟨n, rfl⟩ := H2
      go_ret
      exact ⟨ret_int (by rw [← H3.out]), _, World.drewN_drewN _ _ _⟩

end Go.Proofs.Qxb6600140a
