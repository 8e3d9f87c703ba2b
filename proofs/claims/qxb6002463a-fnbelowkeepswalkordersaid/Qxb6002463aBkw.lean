/-
  WALKS for 'Rows.FnBelowKeepsWalkOrderSaid'.
-/
import Derived.Test.Qxb6002463aBelow
import Derived.WalkKit
import Derived.ProofKit
namespace Go.Proofs.Qxb6002463a.fnBelowKeepsWalkOrder
open Go.WideShapes Go.RowKit

theorem zb_yes (p q r : ByteArray) (w : World) (hs : p.size + q.size + r.size ≤ 1048576) :
    Calls Try.prog 15 #[.string p, .string q, .string r] w fun e w' => e = .returned (.bool true) ∧ w' = w := by
  go_enter Try.func15, Try.ntmps15
  go_wp2
  go_ret
  exact ⟨rfl, rfl⟩
theorem zb_no (p q r : ByteArray) (w : World) (hp : p.size ≤ maxLen) (hq : q.size ≤ maxLen) (hr : r.size ≤ maxLen) (hs : ¬ p.size + q.size + r.size ≤ 1048576) :
    Calls Try.prog 15 #[.string p, .string q, .string r] w fun e w' => e = .returned (.bool false) ∧ w' = w := by
  unfold maxLen at hp hq hr
  go_enter Try.func15, Try.ntmps15
  go_wp2
  all_goals
    go_ret
    exact ⟨rfl, rfl⟩

theorem inside_at (r n : ByteArray) (b : Bool) (w : World) (hr : r.size ≤ 1048576) (h : Hid (Plain.ins r.data.toList n.data.toList = b)) :
    Calls Try.prog 16 #[.string r, .string n] w fun e w' => e = .returned (.bool b) ∧ w' = w :=
  (inside_any r n w hr).mono fun e w' ⟨h1, h2⟩ => ⟨by rw [h1]; exact ret_bool h, h2⟩

theorem not_a (r a b : ByteArray) (w : World) (hs : r.size + a.size + b.size ≤ 1048576) (hr : r.size ≤ 1048576) (ha : Hid (Plain.ins r.data.toList a.data.toList = false)) :
    Calls Try.prog 5 #[.string r, .string a, .string b] w fun e w' => e = .returned (.bool true) ∧ Grown w w' := by
  go_enter Try.func5, Try.ntmps5
  go_wp2_with (first
    | (go_at_call 15; refine (zb_yes _ _ _ _ hs).mono ?_; rintro e w' ⟨rfl, rfl⟩)
    | (go_at_call 16; refine (inside_at r a false _ hr ha).mono ?_; rintro e w' ⟨rfl, rfl⟩))
  go_ret
  exact ⟨rfl, Grown.refl _⟩

theorem not_b (r a b : ByteArray) (w : World) (hs : r.size + a.size + b.size ≤ 1048576) (hr : r.size ≤ 1048576) (ha : Hid (Plain.ins r.data.toList a.data.toList = true)) (hb : Hid (Plain.ins r.data.toList b.data.toList = false)) :
    Calls Try.prog 5 #[.string r, .string a, .string b] w fun e w' => e = .returned (.bool true) ∧ Grown w w' := by
  go_enter Try.func5, Try.ntmps5
  go_wp2_with fail
  refine (zb_yes _ _ _ _ hs).mono ?_
  rintro e w' ⟨rfl, rfl⟩
  go_wp2_with fail
  refine (inside_at r a true _ hr ha).mono ?_
  rintro e w' ⟨rfl, rfl⟩
  go_wp2_with fail
  refine (inside_at r b false _ hr hb).mono ?_
  rintro e w' ⟨rfl, rfl⟩
  go_wp2
  go_ret
  exact ⟨rfl, Grown.refl _⟩

/-- Both inside: ra, rb what 'below' gives. -/
theorem both (r a b ra rb : ByteArray) (w : World) (hs : r.size + a.size + b.size ≤ 1048576) (hr : r.size ≤ 1048576) (ma : a.size ≤ maxLen) (mb : b.size ≤ maxLen) (mra : ra.size ≤ maxLen) (mrb : rb.size ≤ maxLen)
    (ha : Hid (Plain.ins r.data.toList a.data.toList = true)) (hb : Hid (Plain.ins r.data.toList b.data.toList = true))
    (hra : Hid (ra.data.toList = Plain.bel r.data.toList a.data.toList)) (hrb : Hid (rb.data.toList = Plain.bel r.data.toList b.data.toList))
    (na : 0 < ra.size) (nb : 0 < rb.size) (ca : ((ra[0].toNat : Int) != 47) = false) (cb : ((rb[0].toNat : Int) != 47) = false)
    (v : Bool) (hv1 : (ra.toList == rb.toList) = v) (hv2 : (a.toList == b.toList) = v)
    (hw : Hid (Plain.wfst ra.data.toList rb.data.toList = Plain.wfst a.data.toList b.data.toList)) :
    Calls Try.prog 5 #[.string r, .string a, .string b] w fun e w' => e = .returned (.bool true) ∧ Grown w w' := by
  have na' : ((ra.size : Int) == 0) = false := beq_eq_false_iff_ne.2 (by omega)
  have nb' : ((rb.size : Int) == 0) = false := beq_eq_false_iff_ne.2 (by omega)
  go_enter Try.func5, Try.ntmps5
  go_wp2_with fail
  refine (zb_yes _ _ _ _ hs).mono ?_
  rintro e w' ⟨rfl, rfl⟩
  go_wp2_with fail
  refine (inside_at r a true _ hr ha).mono ?_
  rintro e w' ⟨rfl, rfl⟩
  go_wp2_with fail
  refine (inside_at r b true _ hr hb).mono ?_
  rintro e w' ⟨rfl, rfl⟩
  go_wp2_with fail
  refine (zzBelow_at r a ra _ ha hra).mono ?_
  rintro e w' ⟨rfl, rfl⟩
  go_wp2_with fail
  refine (zzBelow_at r b rb _ hb hrb).mono ?_
  rintro e w' ⟨rfl, rfl⟩
  go_wp2_with fail
  refine (zzWalksFirst_any ra rb _ mra mrb).mono ?_
  rintro e w' ⟨rfl, n1, rfl⟩
  go_wp2_with fail
  refine (zzWalksFirst_any a b _ ma mb).mono ?_
  rintro e w' ⟨rfl, n2, rfl⟩
  go_wp2
  go_ret
  refine ⟨?_, grown_drewN (Grown.refl _) _⟩
  have hw' : Plain.wfst ra.data.toList rb.data.toList = Plain.wfst a.data.toList b.data.toList := hw
  simp [hw']

theorem walk (a0 : ByteArray) (a1 : ByteArray) (a2 : ByteArray) (w0 : a0.size ≤ maxLen) (w1 : a1.size ≤ maxLen) (w2 : a2.size ≤ maxLen) (w : World) :
    Calls Try.prog 5 #[.string a0, .string a1, .string a2] w fun e w' => e = .returned (.bool true) ∧ Grown w w' := by
  by_cases hs : a0.size + a1.size + a2.size ≤ 1048576
  · have hr : a0.size ≤ 1048576 := by omega
    cases ha : Plain.ins a0.data.toList a1.data.toList
    · exact not_a a0 a1 a2 w hs hr ha
    · cases hb : Plain.ins a0.data.toList a2.data.toList
      · exact not_b a0 a1 a2 w hs hr ha hb
      · obtain ⟨x, hx⟩ := Plain.bel_head _ _ ha
        obtain ⟨y, hy⟩ := Plain.bel_head _ _ hb
        have hw := Plain.bel_wfst _ _ _ ha hb
        have la := Plain.bel_length a0.data.toList a1.data.toList
        have lb := Plain.bel_length a0.data.toList a2.data.toList
        have l1 : a1.data.toList.length = a1.size := by simp
        have l2 : a2.data.toList.length = a2.size := by simp
        have z1 : (⟨(Plain.bel a0.data.toList a1.data.toList).toArray⟩ : ByteArray).size = (Plain.bel a0.data.toList a1.data.toList).length := rfl
        have z2 : (⟨(Plain.bel a0.data.toList a2.data.toList).toArray⟩ : ByteArray).size = (Plain.bel a0.data.toList a2.data.toList).length := rfl
        have m1 : (1048577 : Nat) ≤ maxLen := by unfold maxLen; omega
        refine both a0 a1 a2 ⟨(Plain.bel a0.data.toList a1.data.toList).toArray⟩ ⟨(Plain.bel a0.data.toList a2.data.toList).toArray⟩ w hs hr w1 w2 (by omega) (by omega) ha hb rfl rfl
          (by rw [z1, hx]; simp) (by rw [z2, hy]; simp) ?_ ?_ (decide (a1.data.toList = a2.data.toList)) ?_ ?_ hw
        · simp [ByteArray.getElem_eq_getElem_data, hx]
        · simp [ByteArray.getElem_eq_getElem_data, hy]
        · rw [str_eq, ByteArray.toList_eq, decide_eq_decide]
          constructor
          · exact fun e => Plain.bel_inj _ _ _ ha hb e
          · intro e; rw [e]
        · rw [str_eq, ByteArray.toList_eq]
  · go_enter Try.func5, Try.ntmps5
    go_wp2_with (go_at_call 15; refine (zb_no _ _ _ _ w0 w1 w2 hs).mono ?_; rintro e w' ⟨rfl, rfl⟩)
    go_ret
    exact ⟨rfl, Grown.refl _⟩

end Go.Proofs.Qxb6002463a.fnBelowKeepsWalkOrder
