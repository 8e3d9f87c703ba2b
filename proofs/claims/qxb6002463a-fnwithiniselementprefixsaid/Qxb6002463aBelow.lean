/-
  WALKS: inside (16), below (39), ZZbelow (17).
-/
import Derived.Test.Qxb6002463aTree
import Derived.Test.Qxb6002463aBelowPlain
import Derived.WalkKit
import Derived.WalkSpells
import Derived.ProofKit
import Derived.Lib.Strings
namespace Go.Proofs.Qxb6002463a
open Go.RowKit Go.WideShapes

theorem str_eq (a : ByteArray) (l : List UInt8) : (a.toList == l) = decide (a.data.toList = l) := by
  rw [ByteArray.toList_eq]
  by_cases h : a.data.toList = l <;> simp [h]

theorem at_byte (n : ByteArray) (k : Nat) (h : k < n.size) : decide (n.data.toList[k]? = some 47) = ((n[k].toNat : Int) == 47) := by
  rw [List.getElem?_eq_getElem (by simpa using h)]
  have e : n.data.toList[k]'(by simpa using h) = n[k] := rfl
  rw [e]
  by_cases c : n[k] = 47
  · rw [c]; rfl
  · have : n[k].toNat ≠ 47 := fun z => c (UInt8.toNat_inj.1 (by simpa using z))
    have d : ((n[k].toNat : Int) == 47) = false := beq_eq_false_iff_ne.2 (by omega)
    rw [d]
    simp [c]

/-- 'inside', the four ways. -/
theorem in_slash (r n : ByteArray) (w : World) (h : (r.toList == [47]) = true) (h0 : 0 < n.size) :
    Calls Try.prog 16 #[.string r, .string n] w fun e w' => e = .returned (.bool ((n[0].toNat : Int) == 47)) ∧ w' = w := by
  go_enter Try.func16, Try.ntmps16
  go_wp2
  go_ret
  exact ⟨rfl, rfl⟩
theorem in_slash0 (r n : ByteArray) (w : World) (h : (r.toList == [47]) = true) (h0 : ¬ 0 < n.size) :
    Calls Try.prog 16 #[.string r, .string n] w fun e w' => e = .returned (.bool false) ∧ w' = w := by
  go_enter Try.func16, Try.ntmps16
  go_wp2
  go_ret
  exact ⟨rfl, rfl⟩
theorem in_same (r n : ByteArray) (w : World) (h : (r.toList == [47]) = false) (h1 : (n.toList == r.toList) = true) :
    Calls Try.prog 16 #[.string r, .string n] w fun e w' => e = .returned (.bool true) ∧ w' = w := by
  go_enter Try.func16, Try.ntmps16
  go_wp2
  go_ret
  exact ⟨rfl, rfl⟩
theorem in_short (r n : ByteArray) (w : World) (hr : r.size ≤ 1048576) (h : (r.toList == [47]) = false) (h1 : (n.toList == r.toList) = false) (h2 : ¬ r.size + 1 < n.size) :
    Calls Try.prog 16 #[.string r, .string n] w fun e w' => e = .returned (.bool false) ∧ w' = w := by
  go_enter Try.func16, Try.ntmps16
  go_wp2
  go_ret
  exact ⟨rfl, rfl⟩
theorem in_no (r n : ByteArray) (w : World) (hr : r.size ≤ 1048576) (h : (r.toList == [47]) = false) (h1 : (n.toList == r.toList) = false) (h2 : r.size + 1 < n.size) (h3 : ((n.extract 0 r.size).toList == r.toList) = false) :
    Calls Try.prog 16 #[.string r, .string n] w fun e w' => e = .returned (.bool false) ∧ w' = w := by
  have h4 : r.size ≤ n.size := by omega
  go_enter Try.func16, Try.ntmps16
  go_wp2
  go_ret
  exact ⟨rfl, rfl⟩
theorem in_yes (r n : ByteArray) (w : World) (hr : r.size ≤ 1048576) (h : (r.toList == [47]) = false) (h1 : (n.toList == r.toList) = false) (h2 : r.size + 1 < n.size) (h3 : ((n.extract 0 r.size).toList == r.toList) = true) :
    Calls Try.prog 16 #[.string r, .string n] w fun e w' => e = .returned (.bool ((n[r.size].toNat : Int) == 47)) ∧ w' = w := by
  have h4 : r.size ≤ n.size := by omega
  have h5 : r.size < n.size := by omega
  go_enter Try.func16, Try.ntmps16
  go_wp2
  go_ret
  exact ⟨rfl, rfl⟩

theorem inside_any (r n : ByteArray) (w : World) (hr : r.size ≤ 1048576) :
    Calls Try.prog 16 #[.string r, .string n] w fun e w' => e = .returned (.bool (Plain.ins r.data.toList n.data.toList)) ∧ w' = w := by
  have lr : r.data.toList.length = r.size := by simp
  have ln : n.data.toList.length = n.size := by simp
  have ex : (n.extract 0 r.size).data.toList = n.data.toList.take r.size := by
    rw [Lib.extract_data]; simp
  by_cases h : r.data.toList = [47]
  · have h' : (r.toList == [47]) = true := by rw [str_eq]; exact decide_eq_true h
    by_cases h0 : 0 < n.size
    · refine (in_slash r n w h' h0).mono fun e w' ⟨a, b⟩ => ⟨?_, b⟩
      rw [a]
      refine ret_bool ?_
      unfold Plain.ins
      rw [if_pos h, at_byte n 0 h0]
    · refine (in_slash0 r n w h' h0).mono fun e w' ⟨a, b⟩ => ⟨?_, b⟩
      rw [a]
      refine ret_bool ?_
      unfold Plain.ins
      rw [if_pos h, List.getElem?_eq_none (by omega)]
      rfl
  · have h' : (r.toList == [47]) = false := by rw [str_eq]; exact decide_eq_false h
    by_cases h1 : n.data.toList = r.data.toList
    · have h1' : (n.toList == r.toList) = true := by rw [str_eq, ByteArray.toList_eq]; exact decide_eq_true h1
      refine (in_same r n w h' h1').mono fun e w' ⟨a, b⟩ => ⟨?_, b⟩
      rw [a]
      refine ret_bool ?_
      unfold Plain.ins
      rw [if_neg h, if_pos h1]
    · have h1' : (n.toList == r.toList) = false := by rw [str_eq, ByteArray.toList_eq]; exact decide_eq_false h1
      by_cases h2 : r.size + 1 < n.size
      · by_cases h3 : n.data.toList.take r.size = r.data.toList
        · have h3' : ((n.extract 0 r.size).toList == r.toList) = true := by
            rw [str_eq, ByteArray.toList_eq, ex]; exact decide_eq_true h3
          refine (in_yes r n w hr h' h1' h2 h3').mono fun e w' ⟨a, b⟩ => ⟨?_, b⟩
          rw [a]
          refine ret_bool ?_
          unfold Plain.ins
          rw [if_neg h, if_neg h1, lr, ln, at_byte n r.size (by omega)]
          simp [h2, h3]
        · have h3' : ((n.extract 0 r.size).toList == r.toList) = false := by
            rw [str_eq, ByteArray.toList_eq, ex]; exact decide_eq_false h3
          refine (in_no r n w hr h' h1' h2 h3').mono fun e w' ⟨a, b⟩ => ⟨?_, b⟩
          rw [a]
          refine ret_bool ?_
          unfold Plain.ins
          rw [if_neg h, if_neg h1, lr]
          simp [h3]
      · refine (in_short r n w hr h' h1' h2).mono fun e w' ⟨a, b⟩ => ⟨?_, b⟩
        rw [a]
        refine ret_bool ?_
        unfold Plain.ins
        rw [if_neg h, if_neg h1, lr, ln]
        simp [h2]

/-- 'below', where the name lies inside. -/
theorem be_slash (r n : ByteArray) (w : World) (h : (r.toList == [47]) = true) :
    Calls Try.prog 39 #[.string r, .string n] w fun e w' => e = .returned (.string n) ∧ w' = w := by
  go_enter Try.func39, Try.ntmps39
  go_wp2
  go_ret
  exact ⟨rfl, rfl⟩
theorem be_same (r n : ByteArray) (w : World) (h : (r.toList == [47]) = false) (h1 : (n.toList == r.toList) = true) :
    Calls Try.prog 39 #[.string r, .string n] w fun e w' => e = .returned (.string ⟨#[47]⟩) ∧ w' = w := by
  go_enter Try.func39, Try.ntmps39
  go_wp2
  go_ret
  exact ⟨rfl, rfl⟩
theorem be_in (r n : ByteArray) (w : World) (h : (r.toList == [47]) = false) (h1 : (n.toList == r.toList) = false) (h2 : r.size ≤ n.size) :
    Calls Try.prog 39 #[.string r, .string n] w fun e w' => e = .returned (.string (n.extract r.size n.size)) ∧ w' = w := by
  go_enter Try.func39, Try.ntmps39
  go_wp2
  go_ret
  exact ⟨rfl, rfl⟩

theorem below_any (r n : ByteArray) (w : World) (hi : Plain.ins r.data.toList n.data.toList = true) :
    Calls Try.prog 39 #[.string r, .string n] w fun e w' => e = .returned (.string ⟨(Plain.bel r.data.toList n.data.toList).toArray⟩) ∧ w' = w := by
  have lr : r.data.toList.length = r.size := by simp
  have ln : n.data.toList.length = n.size := by simp
  rcases Plain.ins_cases _ _ hi with ⟨h1, h2, _⟩ | ⟨h1, h2, h3⟩ | ⟨h1, c, x, h2, h3⟩
  · have h' : (r.toList == [47]) = true := by rw [str_eq]; exact decide_eq_true h1
    refine (be_slash r n w h').mono fun e w' ⟨a, b⟩ => ⟨?_, b⟩
    rw [a, h2]
  · have h' : (r.toList == [47]) = false := by rw [str_eq]; exact decide_eq_false h1
    have h1' : (n.toList == r.toList) = true := by rw [str_eq, ByteArray.toList_eq]; exact decide_eq_true h2
    refine (be_same r n w h' h1').mono fun e w' ⟨a, b⟩ => ⟨?_, b⟩
    rw [a, h3]
  · have h' : (r.toList == [47]) = false := by rw [str_eq]; exact decide_eq_false h1
    have hne : n.data.toList ≠ r.data.toList := by
      rw [h2]; intro z; have := congrArg List.length z; simp at this
    have h1' : (n.toList == r.toList) = false := by rw [str_eq, ByteArray.toList_eq]; exact decide_eq_false hne
    have hl : r.size ≤ n.size := by rw [← lr, ← ln, h2]; simp
    refine (be_in r n w h' h1' hl).mono fun e w' ⟨a, b⟩ => ⟨?_, b⟩
    rw [a]
    congr 2
    refine bytes_inj ?_
    rw [Lib.extract_data, h3, h2, ← lr]
    have e2 : n.size - r.data.toList.length = (47 :: c :: x).length := by rw [← ln, h2]; simp
    rw [e2]
    simp

theorem zzBelow_at (r n s : ByteArray) (w : World) (hi : Hid (Plain.ins r.data.toList n.data.toList = true)) (hs : Hid (s.data.toList = Plain.bel r.data.toList n.data.toList)) :
    Calls Try.prog 17 #[.string r, .string n] w fun e w' => e = .returned (.string s) ∧ w' = w := by
  have e : s = ⟨(Plain.bel r.data.toList n.data.toList).toArray⟩ := bytes_inj (by rw [show s.data.toList = _ from hs])
  rw [e]
  clear e
  go_enter Try.func17, Try.ntmps17
  go_wp2_with (go_at_call 39; refine (below_any r n _ hi).mono ?_; rintro e w' ⟨rfl, rfl⟩)
  go_ret
  exact ⟨rfl, rfl⟩

end Go.Proofs.Qxb6002463a
