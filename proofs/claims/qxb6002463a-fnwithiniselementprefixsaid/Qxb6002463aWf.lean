/-
  WALKS: fstools.walksFirst (36), ZZwalksFirst (12).
-/
import Derived.Test.Qxb6002463aRows
import Derived.Test.Qxb6002463aPlain
import Derived.WalkKit
import Derived.WalkSpells
import Derived.BigQuiet
namespace Go.Proofs.Qxb6002463a
open Go.RowKit

theorem wf_same (p q : ByteArray) (k : Nat) (h1 : k < p.size) (h2 : k < q.size) (h : ((p[k].toNat : Int) != (q[k].toNat : Int)) = false) :
    Plain.wfst (p.data.toList.drop (k + 1)) (q.data.toList.drop (k + 1)) = Plain.wfst (p.data.toList.drop k) (q.data.toList.drop k) := by
  symm
  refine Plain.wfst_step _ _ k (by simpa using h1) (by simpa using h2) ?_
  have e : (p[k].toNat : Int) = q[k].toNat := by simpa using h
  have e' : p[k] = q[k] := UInt8.toNat_inj.1 (by omega)
  exact e'

theorem wf_differ (p q : ByteArray) (k : Nat) (h1 : k < p.size) (h2 : k < q.size) (h : ((p[k].toNat : Int) != (q[k].toNat : Int)) = true) :
    Plain.wfst (p.data.toList.drop k) (q.data.toList.drop k) = decide (Plain.rank p[k] < Plain.rank q[k]) := by
  refine Plain.wfst_part _ _ k (by simpa using h1) (by simpa using h2) ?_
  intro e
  have e' : p[k] = q[k] := e
  rw [e'] at h
  simp at h

theorem wf_slash (p q : ByteArray) (k : Nat) (h1 : k < p.size) (h2 : k < q.size) (h : ((p[k].toNat : Int) != (q[k].toNat : Int)) = true) (h3 : (p[k].toNat : Int) = 47) :
    Plain.wfst (p.data.toList.drop k) (q.data.toList.drop k) = true := by
  rw [wf_differ p q k h1 h2 h]
  have e : (p[k].toNat : Int) ≠ q[k].toNat := by simpa using h
  unfold Plain.rank
  rw [if_pos (by omega), if_neg (by omega)]
  simp

theorem wf_slash' (p q : ByteArray) (k : Nat) (h1 : k < p.size) (h2 : k < q.size) (h : ((p[k].toNat : Int) != (q[k].toNat : Int)) = true) (h3 : ¬ (p[k].toNat : Int) = 47) (h4 : ((p[k].toNat : Int) == 47) = true ∨ ((q[k].toNat : Int) == 47) = true) :
    Plain.wfst (p.data.toList.drop k) (q.data.toList.drop k) = ((p[k].toNat : Int) == 47) := by
  rw [wf_differ p q k h1 h2 h]
  have e4 : (q[k].toNat : Int) = 47 := by
    rcases h4 with h4 | h4
    · exact absurd (by simpa using h4) h3
    · simpa using h4
  unfold Plain.rank
  rw [if_neg (by omega), if_pos (by omega)]
  simp [h3]

theorem wf_less (p q : ByteArray) (k : Nat) (h1 : k < p.size) (h2 : k < q.size) (h : ((p[k].toNat : Int) != (q[k].toNat : Int)) = true) (h3 : ¬ (p[k].toNat : Int) = 47) (h4 : ((p[k].toNat : Int) == 47) = false ∧ ((q[k].toNat : Int) == 47) = false) :
    Plain.wfst (p.data.toList.drop k) (q.data.toList.drop k) = decide (p[k].toNat < q[k].toNat) := by
  rw [wf_differ p q k h1 h2 h]
  have e4 : ¬ (q[k].toNat : Int) = 47 := by
    have := h4.2
    simpa using this
  unfold Plain.rank
  rw [if_neg (by omega), if_neg (by omega)]
  simp

theorem wf_end (p q : ByteArray) (k : Nat) (h1 : k ≤ p.size) (h2 : k ≤ q.size) (h : ¬ k < p.size ∨ ¬ k < q.size) :
    Plain.wfst (p.data.toList.drop k) (q.data.toList.drop k) = decide (p.size < q.size) := by
  have := Plain.wfst_end p.data.toList q.data.toList k (by simpa using h1) (by simpa using h2) (by simp; show k = p.size ∨ k = q.size; omega)
  rw [this]
  simp

theorem ret_bool {a b : Bool} (h : a = b) : Ending.returned (.bool a) = .returned (.bool b) := by rw [h]

set_option maxHeartbeats 400000 in
theorem walksFirst_any (p q : ByteArray) (w : World) (hp : p.size ≤ maxLen) (_hq : q.size ≤ maxLen) :
    Calls Try.prog 36 #[.string p, .string q] w fun e w' => e = .returned (.bool (Plain.wfst p.data.toList q.data.toList)) ∧ ∃ n, w' = w.drewN n := by
  unfold maxLen at hp
  go_enter Try.func36, Try.ntmps36
  go_wp2
  go_loopw [5] (fun i wr => ∃ k : Nat, k ≤ p.size ∧ k ≤ q.size ∧ i = .int .i64 k ∧ Hid (Plain.wfst (p.data.toList.drop k) (q.data.toList.drop k) = Plain.wfst p.data.toList q.data.toList) ∧ Hid (∃ n, wr = w.drewN n)) (fun i _ => p.size - (intOf i).toNat)
  case atStart => exact ⟨0, Nat.zero_le _, Nat.zero_le _, rfl, rfl, ⟨0, rfl⟩⟩
  case round =>
    obtain ⟨k, hk1, hk2, rfl, H1, n, rfl⟩ := hrel
    by_cases h1 : k < p.size
    · by_cases h2 : k < q.size
      · go_wp2
        go_quiet (fail)
        go_wp2
        · go_ret
          exact ⟨ret_bool ((wf_slash p q k h1 h2 ‹_› ‹_›).symm.trans H1), _, rfl⟩
        · go_ret
          exact ⟨ret_bool ((wf_slash' p q k h1 h2 ‹_› ‹_› ‹_›).symm.trans H1), _, rfl⟩
        · go_quiet (fail)
          go_wp2
          go_ret
          exact ⟨ret_bool ((wf_less p q k h1 h2 ‹_› ‹_› ‹_›).symm.trans H1), _, World.drewN_drewN _ _ _⟩
        · go_roundw
          case rel => exact ⟨k + 1, by omega, by omega, by go_num, (wf_same p q k h1 h2 ‹_›).trans H1, _, rfl⟩
          case measure => simp [intOf]; omega
      · go_wp2
        go_ret
        exact ⟨ret_bool ((wf_end p q k hk1 hk2 (.inr h2)).symm.trans H1), _, rfl⟩
    · go_wp2
      go_ret
      exact ⟨ret_bool ((wf_end p q k hk1 hk2 (.inl h1)).symm.trans H1), _, rfl⟩

theorem zzWalksFirst_any (p q : ByteArray) (w : World) (hp : p.size ≤ maxLen) (hq : q.size ≤ maxLen) :
    Calls Try.prog 12 #[.string p, .string q] w fun e w' => e = .returned (.bool (Plain.wfst p.data.toList q.data.toList)) ∧ ∃ n, w' = w.drewN n := by
  go_enter Try.func12, Try.ntmps12
  go_wp2_with (go_at_call 36; refine (walksFirst_any p q _ hp hq).mono ?_; rintro e w' ⟨rfl, n, rfl⟩)
  go_ret
  exact ⟨rfl, _, rfl⟩

theorem grown_drewN {W w' : World} (h : Grown W w') (n : Nat) : Grown W (w'.drewN n) := h

end Go.Proofs.Qxb6002463a
