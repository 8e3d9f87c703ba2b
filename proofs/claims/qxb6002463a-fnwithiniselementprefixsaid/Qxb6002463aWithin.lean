/-
  WALKS: stringslite.HasPrefix (53), stringslite.CutPrefix (51), strings.CutPrefix (48), within (41), ZZWithin (21), cleanAbs (20).
-/
import Derived.Test.Qxb6002463aElems
import Derived.WalkKit
import Derived.WalkSpells
import Derived.ProofKit
namespace Go.Proofs.Qxb6002463a
open Go.RowKit Go.WideShapes

theorem hp_yes (s p : ByteArray) (w : World) (h : p.size ≤ s.size) (h1 : ((s.extract 0 p.size).toList == p.toList) = true) :
    Calls Try.prog 53 #[.string s, .string p] w fun e w' => e = .returned (.bool true) ∧ w' = w := by
  go_enter Try.func53, Try.ntmps53
  go_wp2
  go_ret
  exact ⟨rfl, rfl⟩
theorem hp_no (s p : ByteArray) (w : World) (h : p.size ≤ s.size) (h1 : ((s.extract 0 p.size).toList == p.toList) = false) :
    Calls Try.prog 53 #[.string s, .string p] w fun e w' => e = .returned (.bool false) ∧ w' = w := by
  go_enter Try.func53, Try.ntmps53
  go_wp2
  go_ret
  exact ⟨rfl, rfl⟩
theorem hp_short (s p : ByteArray) (w : World) (h : ¬ p.size ≤ s.size) :
    Calls Try.prog 53 #[.string s, .string p] w fun e w' => e = .returned (.bool false) ∧ w' = w := by
  go_enter Try.func53, Try.ntmps53
  go_wp2
  go_ret
  exact ⟨rfl, rfl⟩

theorem prefix_ex (s p : ByteArray) : (p.size ≤ s.size ∧ ((s.extract 0 p.size).toList == p.toList) = true) ↔ p.data.toList <+: s.data.toList := by
  have lp : p.data.toList.length = p.size := by simp
  have ls : s.data.toList.length = s.size := by simp
  rw [str_eq, ByteArray.toList_eq, Lib.extract_data, decide_eq_true_eq]
  simp only [List.drop_zero, Nat.sub_zero]
  rw [List.prefix_iff_eq_take, lp]
  constructor
  · rintro ⟨_, h⟩
    exact h.symm
  · intro h
    refine ⟨?_, h.symm⟩
    have := congrArg List.length h
    rw [List.length_take, lp, ls] at this
    omega

theorem hasPrefix_any (s p : ByteArray) (w : World) :
    Calls Try.prog 53 #[.string s, .string p] w fun e w' => e = .returned (.bool (decide (p.data.toList <+: s.data.toList))) ∧ w' = w := by
  by_cases h : p.size ≤ s.size
  · cases h1 : ((s.extract 0 p.size).toList == p.toList)
    · refine (hp_no s p w h h1).mono fun e w' ⟨a, b⟩ => ⟨?_, b⟩
      rw [a]
      refine ret_bool (decide_eq_false ?_).symm
      intro x
      have := ((prefix_ex s p).2 x).2
      rw [h1] at this
      cases this
    · refine (hp_yes s p w h h1).mono fun e w' ⟨a, b⟩ => ⟨?_, b⟩
      rw [a]
      exact ret_bool (decide_eq_true ((prefix_ex s p).1 ⟨h, h1⟩)).symm
  · refine (hp_short s p w h).mono fun e w' ⟨a, b⟩ => ⟨?_, b⟩
    rw [a]
    refine ret_bool (decide_eq_false ?_).symm
    exact fun x => h ((prefix_ex s p).2 x).1

theorem hasPrefix_at (s p : ByteArray) (b : Bool) (w : World) (h : Hid (decide (p.data.toList <+: s.data.toList) = b)) :
    Calls Try.prog 53 #[.string s, .string p] w fun e w' => e = .returned (.bool b) ∧ w' = w :=
  (hasPrefix_any s p w).mono fun e w' ⟨h1, h2⟩ => ⟨by rw [h1]; exact ret_bool h, h2⟩

theorem cut_yes (s p : ByteArray) (w : World) (h : p.size ≤ s.size) (hb : Hid (decide (p.data.toList <+: s.data.toList) = true)) :
    Calls Try.prog 48 #[.string s, .string p] w fun e w' => e = .returned (.tuple #[.string (s.extract p.size s.size), .bool true]) ∧ w' = w := by
  go_enter Try.func48, Try.ntmps48
  go_wp2_with (first | (go_at_call 53; refine (hasPrefix_at s p true _ hb).mono ?_; rintro e w' ⟨rfl, rfl⟩) | go_in)
  go_ret2
  exact ⟨rfl, rfl⟩
theorem cut_no (s p : ByteArray) (w : World) (hb : Hid (decide (p.data.toList <+: s.data.toList) = false)) :
    Calls Try.prog 48 #[.string s, .string p] w fun e w' => e = .returned (.tuple #[.string s, .bool false]) ∧ w' = w := by
  go_enter Try.func48, Try.ntmps48
  go_wp2_with (first | (go_at_call 53; refine (hasPrefix_at s p false _ hb).mono ?_; rintro e w' ⟨rfl, rfl⟩) | go_in)
  go_ret2
  exact ⟨rfl, rfl⟩

/-- ZZWithin, the root. -/
theorem wi_root (n d : ByteArray) (v : Bool) (w : World) (h : 1 ≤ n.size) (hd : (d.toList == [47]) = true) (hn : (n.toList == [47]) = v) :
    Calls Try.prog 21 #[.string n, .string d] w fun e w' => e = .returned (.tuple #[.string (n.extract 1 n.size), .bool !v]) ∧ w' = w := by
  go_enter Try.func21, Try.ntmps21
  go_wp2
  go_ret2
  exact ⟨rfl, rfl⟩
theorem wi_yes (n d : ByteArray) (w : World) (h1 : d.size ≤ 65536) (h : (d ++ ⟨#[47]⟩).size ≤ n.size) (hd : (d.toList == [47]) = false) (hb : Hid (decide ((d ++ ⟨#[47]⟩).data.toList <+: n.data.toList) = true)) :
    Calls Try.prog 21 #[.string n, .string d] w fun e w' => e = .returned (.tuple #[.string (n.extract (d.size + 1) n.size), .bool true]) ∧ w' = w := by
  go_enter Try.func21, Try.ntmps21
  go_wp2_with (first | (go_at_call 48; refine (cut_yes _ _ _ h hb).mono ?_; rintro e w' ⟨rfl, rfl⟩) | go_in)
  go_ret2
  exact ⟨rfl, rfl⟩
theorem wi_no (n d : ByteArray) (w : World) (h1 : d.size ≤ 65536) (hd : (d.toList == [47]) = false) (hb : Hid (decide ((d ++ ⟨#[47]⟩).data.toList <+: n.data.toList) = false)) :
    Calls Try.prog 21 #[.string n, .string d] w fun e w' => e = .returned (.tuple #[.string n, .bool false]) ∧ w' = w := by
  go_enter Try.func21, Try.ntmps21
  go_wp2_with (first | (go_at_call 48; refine (cut_no _ _ _ hb).mono ?_; rintro e w' ⟨rfl, rfl⟩) | go_in)
  go_ret2
  exact ⟨rfl, rfl⟩

/-- ZZWithin at two names that begin with a slash. -/
theorem within_any (n d : ByteArray) (w : World) (h1 : d.size ≤ 65536) (hn : ∃ x, n.data.toList = 47 :: x) (hd : ∃ x, d.data.toList = 47 :: x) :
    Calls Try.prog 21 #[.string n, .string d] w fun e w' => ∃ rest : ByteArray, e = .returned (.tuple #[.string rest, .bool (Plain.wOk n.data.toList d.data.toList)]) ∧ w' = w ∧
      Hid (Plain.wOk n.data.toList d.data.toList = true → rest.data.toList = Plain.joinL ((Plain.els n.data.toList).drop (Plain.els d.data.toList).length)) := by
  have ln : n.data.toList.length = n.size := by simp
  have ld : d.data.toList.length = d.size := by simp
  have hn1 : 1 ≤ n.size := by obtain ⟨x, hx⟩ := hn; rw [← ln, hx]; simp
  have ea : (d ++ ⟨#[47]⟩ : ByteArray).data.toList = d.data.toList ++ [47] := by simp
  by_cases hr : d.data.toList = [47]
  · have hr' : (d.toList == [47]) = true := by rw [str_eq]; exact decide_eq_true hr
    refine (wi_root n d _ w hn1 hr' rfl).mono fun e w' ⟨a, b⟩ => ⟨n.extract 1 n.size, ?_, b, ?_⟩
    · rw [a, hr, Plain.wOk_root, str_eq]
      simp
    · intro hw
      rw [hr] at hw ⊢
      rw [Plain.wOk_root] at hw
      rw [Plain.rest_root _ (of_decide_eq_true hw), Lib.extract_data, ← ln]
      exact List.take_of_length_le (by simp)
  · have hr' : (d.toList == [47]) = false := by rw [str_eq]; exact decide_eq_false hr
    have hw := Plain.wOk_sub _ _ hn hd hr
    by_cases hp : (d.data.toList ++ [47]) <+: n.data.toList
    · have hp' : Hid (decide ((d ++ ⟨#[47]⟩ : ByteArray).data.toList <+: n.data.toList) = true) := by
        rw [ea]; exact decide_eq_true hp
      have hs : (d ++ ⟨#[47]⟩ : ByteArray).size ≤ n.size := by
        have := hp.length_le
        rw [ln, ← ea] at this
        exact this
      refine (wi_yes n d w h1 hs hr' hp').mono fun e w' ⟨a, b⟩ => ⟨n.extract (d.size + 1) n.size, ?_, b, ?_⟩
      · rw [a, hw, decide_eq_true hp]
      · intro _
        rw [Plain.rest_sub _ _ hn hd hr hp, Lib.extract_data, ← ln, ld]
        exact List.take_of_length_le (by simp)
    · have hp' : Hid (decide ((d ++ ⟨#[47]⟩ : ByteArray).data.toList <+: n.data.toList) = false) := by
        rw [ea]; exact decide_eq_false hp
      refine (wi_no n d w h1 hr' hp').mono fun e w' ⟨a, b⟩ => ⟨n, ?_, b, ?_⟩
      · rw [a, hw, decide_eq_false hp]
      · intro h
        rw [hw, decide_eq_false hp] at h
        cases h

/-- cleanAbs: whatever it answers; yes only where the name begins with a slash. -/
theorem head_of (s : ByteArray) (h : 0 < s.size) (h1 : ((s[0].toNat : Int) != 47) = false) : ∃ x, s.data.toList = 47 :: x := by
  have ls : s.data.toList.length = s.size := by simp
  have e : (s[0].toNat : Int) = 47 := by simpa using h1
  have e2 : s[0] = 47 := UInt8.toNat_inj.1 (by simp; omega)
  have e3 := List.drop_eq_getElem_cons (l := s.data.toList) (i := 0) (by omega)
  have e4 : s.data.toList[0]'(by omega) = s[0] := rfl
  rw [e4, e2] at e3
  exact ⟨_, by simpa using e3⟩

def CleanPost (s : ByteArray) (w : World) (e : Ending) (w' : World) : Prop := ∃ b, e = .returned (.bool b) ∧ w' = w ∧ Hid (b = true → ∃ x, s.data.toList = 47 :: x)

set_option maxHeartbeats 400000 in
theorem cleanAbs_any (s : ByteArray) (w : World) (hs : s.size ≤ 65536) :
    Calls Try.prog 20 #[.string s] w fun e w' => CleanPost s w e w' := by
  by_cases h0 : 0 < s.size
  · have z0 : ((s.size : Int) == 0) = false := beq_eq_false_iff_ne.2 (by omega)
    cases h1 : ((s[0].toNat : Int) != 47)
    · have HH : Hid (∃ x, s.data.toList = 47 :: x) := head_of s h0 h1
      by_cases h2 : s.size = 1
      · have z1 : ((s.size : Int) == 1) = true := beq_iff_eq.2 (by omega)
        clear h2
        go_enter Try.func20, Try.ntmps20
        go_wp2
        go_ret
        exact ⟨_, rfl, rfl, fun _ => HH⟩
      · have z1 : ((s.size : Int) == 1) = false := beq_eq_false_iff_ne.2 (by omega)
        have hlast : s.size - 1 < s.size := by omega
        cases c0 : ((s[s.size - 1].toNat : Int) == 47)
        · go_enter Try.func20, Try.ntmps20
          go_wp2
          go_loop [3] (fun i => ∃ k : Nat, 1 ≤ k ∧ k ≤ s.size ∧ i = .int .i64 k) (fun i => s.size - (intOf i).toNat)
          case atStart => exact ⟨1, Nat.le_refl _, h0, rfl⟩
          case round =>
            obtain ⟨k, hk1, hk2, rfl⟩ := hrel
            by_cases hlt : k < s.size
            · have hk0 : k - 1 < s.size := by omega
              cases c1 : ((s[k].toNat : Int) == 47)
              · go_wp2
                go_round
                case rel => exact ⟨k + 1, by omega, by omega, by go_num⟩
                case measure => simp [intOf]; omega
              · cases c2 : ((s[k - 1].toNat : Int) == 47)
                · go_wp2
                  go_round
                  case rel => exact ⟨k + 1, by omega, by omega, by go_num⟩
                  case measure => simp [intOf]; omega
                · go_wp2
                  go_ret
                  exact ⟨_, rfl, rfl, fun h => by cases h⟩
            · go_wp2
              go_ret
              exact ⟨_, rfl, rfl, fun _ => HH⟩
        · go_enter Try.func20, Try.ntmps20
          go_wp2
          go_ret
          exact ⟨_, rfl, rfl, fun h => by cases h⟩
    · go_enter Try.func20, Try.ntmps20
      go_wp2
      go_ret
      exact ⟨_, rfl, rfl, fun h => by cases h⟩
  · have z0 : ((s.size : Int) == 0) = true := beq_iff_eq.2 (by omega)
    go_enter Try.func20, Try.ntmps20
    go_wp2
    go_ret
    exact ⟨_, rfl, rfl, fun h => by cases h⟩

end Go.Proofs.Qxb6002463a
