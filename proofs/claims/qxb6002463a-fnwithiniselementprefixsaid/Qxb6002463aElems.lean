/-
  WALKS: elemsOf (22), joinElems (23).
-/
import Derived.Test.Qxb6002463aBelow
import Derived.Test.Qxb6002463aElemPlain
import Derived.WalkKit
import Derived.WalkSpells
import Derived.ProofKit
import Derived.Lib.Strings
namespace Go.Proofs.Qxb6002463a
open Go.RowKit Go.WideShapes

/-- A piece as a value. -/
def sv (e : List UInt8) : Value := .string ⟨e.toArray⟩

theorem info9 : (Try.prog.info? 9).map (fun i => (i.zero, i.size, i.bytes)) = some (some (.string ByteArray.empty), 1, 16) := by kernel_rfl

theorem seg_ex (s : ByteArray) (st k : Nat) : s.extract st k = ⟨(Plain.seg s.data.toList st k).toArray⟩ :=
  bytes_inj (by rw [Lib.extract_data]; rfl)

theorem elemsOf_root (s : ByteArray) (w : World) (h : (s.toList == [47]) = true) :
    Calls Try.prog 22 #[.string s] w fun e w' => e = .returned (.slice none 0 0) ∧ w' = w := by
  go_enter Try.func22, Try.ntmps22
  go_wp2
  go_ret
  exact ⟨rfl, rfl⟩

theorem rel_app {w wr w3 : World} {s : ByteArray} {v v' : Value} {out : List (List UInt8)} {st k : Nat}
    (hown' : w3.ownsRow w.heap.size 9 1 v' (out.length + 1) (out.map sv ++ [Value.string (s.extract st k)]))
    (hgrow : (wr.alloc (.cells #[Value.string (s.extract st k)] 9)).grownBy w3 v.ownBlock) (hown : wr.ownsRow w.heap.size 9 1 v out.length (out.map sv)) (hb : Below w.heap.size w wr) :
    w3.ownsRow w.heap.size 9 1 v' (out ++ [Plain.seg s.data.toList st k]).length ((out ++ [Plain.seg s.data.toList st k]).map sv) ∧ Below w.heap.size w w3 := by
  constructor
  · rw [seg_ex] at hown'
    simpa [sv] using hown'
  · have h1 : w.heap.size ≤ wr.heap.size := hb.size
    exact (hb.alloc h1 _).grown hgrow (by simp; omega) (fun k hk => (hown.lt k hk).1)

set_option maxHeartbeats 1000000 in
theorem elemsOf_sub (s : ByteArray) (w : World) (h1 : 1 ≤ s.size) (h2 : s.size ≤ 65536) (h : (s.toList == [47]) = false) :
    Calls Try.prog 22 #[.string s] w fun e w' => ∃ v, e = .returned v ∧ w'.ownsRow w.heap.size 9 1 v (Plain.els s.data.toList).length ((Plain.els s.data.toList).map sv) ∧ Below w.heap.size w w' := by
  have hne : s.data.toList ≠ [47] := by rw [str_eq] at h; exact of_decide_eq_false h
  have ls : s.data.toList.length = s.size := by simp
  have H0 : Hid (Plain.At s.data.toList [] 1 1) := Plain.at_start _ hne
  have LS : Hid (s.data.toList.length = s.size) := ls
  clear hne ls
  obtain ⟨i0, hi, hz0, hz1, hz2⟩ := info_parts info9
  go_enter Try.func22, Try.ntmps22
  go_wp2
  go_loopw [3, 4, 5] (fun v t i wr => ∃ (out : List (List UInt8)) (st k : Nat), i = .int .i64 k ∧ t = .int .i64 st ∧ wr.ownsRow w.heap.size 9 1 v out.length (out.map sv) ∧ Below w.heap.size w wr ∧
      ((k ≤ s.size ∧ 1 ≤ st ∧ st ≤ k ∧ Hid (Plain.At s.data.toList out st k)) ∨ (k = s.size + 1 ∧ Hid (out = Plain.els s.data.toList)))) (fun _ _ i _ => s.size + 1 - (intOf i).toNat)
  case atStart => exact ⟨[], 1, 1, rfl, rfl, World.ownsRow_nil _ _ _ _, Below.refl _ _, .inl ⟨h1, Nat.le_refl _, Nat.le_refl _, H0⟩⟩
  case round =>
    obtain ⟨out, st, k, rfl, rfl, hown, hb, hk | ⟨hk, HA⟩⟩ := hrel
    · obtain ⟨hk, hst1, hst, HA⟩ := hk
      have hol : out.length ≤ s.size := by have := Plain.at_out_len _ _ _ _ HA; rw [LS.out] at this; exact this
      have hbs := hb.size
      by_cases hlt : k < s.size
      · have e1 : ((k : Int) == (s.size : Int)) = false := beq_eq_false_iff_ne.2 (by omega)
        by_cases hc : s[k].toNat = 47
        · have hc1 : ((s[k].toNat : Int) == 47) = true := beq_iff_eq.2 (by omega)
          have HB : Hid (Plain.At s.data.toList (out ++ [Plain.seg s.data.toList st k]) (k + 1) (k + 1)) :=
            Plain.at_slash _ _ _ _ (by rw [LS.out]; exact hlt) (by have e : s[k] = 47 := UInt8.toNat_inj.1 (by simpa using hc); exact e) HA
          clear hc
          go_wp2_with (first
            | (at_builtin; refine wpList_append_own _ rfl _ _ 33 rfl w.heap.size 9 i0 (.string ByteArray.empty) 1 16 Try.underlying33 hi hz0 hz1 hz2 rfl (by decide) _ _ _ rfl (hown.alloc _) ⟨wr.heap.size, 0, none⟩ 1 1 [.string (s.extract st k)] rfl rfl (cell_one_new _ _ _) (fun x hx => by simp at hx; subst hx; rfl) (by unfold maxLen; omega) (by omega) (by simp; omega) ?_; intro v' w3 hown' hgrow3 hnil3))
          have R := rel_app hown' hgrow3 hown hb
          clear hown' hgrow3 hown
          go_wp2
          go_roundw
          case rel => exact ⟨out ++ [Plain.seg s.data.toList st k], k + 1, k + 1, by go_num, by go_num, R.1, R.2, .inl ⟨by omega, by omega, by omega, HB⟩⟩
          case measure => simp [intOf]; omega
        · have hc1 : ((s[k].toNat : Int) == 47) = false := beq_eq_false_iff_ne.2 (by omega)
          have HB : Hid (Plain.At s.data.toList out st (k + 1)) :=
            Plain.at_other _ _ _ _ hst (by rw [LS.out]; exact hlt) (by intro e; have e' : s[k] = 47 := e; exact hc (by rw [e']; rfl)) HA
          clear hc
          go_wp2
          go_roundw
          case rel => exact ⟨out, st, k + 1, by go_num, by go_num, hown, hb, .inl ⟨by omega, by omega, by omega, HB⟩⟩
          case measure => simp [intOf]; omega
      · have hke : k = s.size := by omega
        subst hke
        have e1 : ((s.size : Int) == (s.size : Int)) = true := by simp
        go_wp2_with (first
          | (at_builtin; refine wpList_append_own _ rfl _ _ 33 rfl w.heap.size 9 i0 (.string ByteArray.empty) 1 16 Try.underlying33 hi hz0 hz1 hz2 rfl (by decide) _ _ _ rfl (hown.alloc _) ⟨wr.heap.size, 0, none⟩ 1 1 [.string (s.extract st s.size)] rfl rfl (cell_one_new _ _ _) (fun x hx => by simp at hx; subst hx; rfl) (by unfold maxLen; omega) (by omega) (by simp; omega) ?_; intro v' w3 hown' hgrow3 hnil3))
        have R := rel_app hown' hgrow3 hown hb
        clear hown' hgrow3 hown
        go_wp2
        go_roundw
        case rel => exact ⟨out ++ [Plain.seg s.data.toList st s.size], s.size + 1, s.size + 1, by go_num, by go_num, R.1, R.2, .inr ⟨rfl, by have := Plain.at_end s.data.toList out st (by rw [LS.out]; exact HA); rw [LS.out] at this; exact this⟩⟩
        case measure => simp [intOf]
    · subst hk
      go_wp2
      go_ret
      have e : out = Plain.els s.data.toList := HA
      rw [e] at hown
      exact ⟨_, rfl, hown, hb⟩

/-- elemsOf, whatever the name. -/
theorem elemsOf_any (s : ByteArray) (w : World) (h1 : 1 ≤ s.size) (h2 : s.size ≤ 65536) :
    Calls Try.prog 22 #[.string s] w fun e w' => ∃ v, e = .returned v ∧ w'.ownsRow w.heap.size 9 1 v (Plain.els s.data.toList).length ((Plain.els s.data.toList).map sv) ∧ Below w.heap.size w w' := by
  cases h : (s.toList == [47])
  · exact elemsOf_sub s w h1 h2 h
  · refine (elemsOf_root s w h).mono fun e w' ⟨h3, h4⟩ => ⟨_, h3, ?_, by rw [h4]; exact Below.refl _ _⟩
    have he : Plain.els s.data.toList = [] := by
      rw [str_eq] at h
      unfold Plain.els
      rw [if_pos (of_decide_eq_true h)]
    rw [he]
    exact World.ownsRow_nil _ _ _ _

set_option maxHeartbeats 1000000 in
theorem joinElems_any (g o c : Nat) (es : List (List UInt8)) (w : World) (hl : (Plain.joinL es).length ≤ 65536) (hn : es.length ≤ 65537) (hcell : ∀ j, j < es.length → w.cell? ⟨g, o + j, none⟩ = some (sv (es.getD j []))) :
    Calls Try.prog 23 #[.slice (some ⟨g, o, none⟩) es.length c] w fun e w' => e = .returned (sv (Plain.joinL es)) ∧ w' = w := by
  have HC : Hid (∀ j, j < es.length → w.cell? ⟨g, o + j, none⟩ = some (sv (es.getD j []))) := hcell
  have HL : Hid ((Plain.joinL es).length ≤ 65536) := hl
  clear hcell hl
  go_enter Try.func23, Try.ntmps23
  go_wp2
  go_loop [3, 4] (fun v i => ∃ (k : Nat) (t : ByteArray), k ≤ es.length ∧ i = .int .i64 k ∧ v = .string t ∧ Hid (t.data.toList = Plain.joinL (es.take k))) (fun _ i => es.length - (intOf i).toNat)
  case atStart => exact ⟨0, ⟨#[]⟩, Nat.zero_le _, rfl, rfl, rfl⟩
  case round =>
    obtain ⟨k, t, hk, rfl, rfl, HT⟩ := hrel
    by_cases hlt : k < es.length
    · have hck := HC.out k hlt
      have ht : t.size ≤ 65536 := by
        have e1 : t.data.toList.length = t.size := by simp
        have e2 := Plain.joinL_take_le es k
        have e3 : t.data.toList = Plain.joinL (es.take k) := HT
        rw [e3] at e1
        have := HL.out
        omega
      have hek : es[k].length ≤ 65536 := by
        have e2 := Plain.joinL_take_le es (k + 1)
        have e3 := Plain.joinL_last_le es k hlt
        have := HL.out
        omega
      have HJ : Hid (Plain.joinL (es.take (k + 1)) = (if 0 < k then Plain.joinL (es.take k) ++ [47] else []) ++ es[k]) := Plain.joinL_more es k hlt
      unfold sv at hck
      by_cases h0 : 0 < k
      · go_wp2
        go_round
        case rel => exact ⟨k + 1, _, by omega, by go_num, rfl, by
          have e1 : t.data.toList = Plain.joinL (es.take k) := HT
          have e2 := HJ.out
          rw [if_pos h0] at e2
          show (t ++ (⟨#[47]⟩ : ByteArray) ++ ⟨es[k].toArray⟩).data.toList = _
          rw [e2, ← e1]
          simp⟩
        case measure => simp [intOf]; omega
      · go_wp2
        go_round
        case rel => exact ⟨k + 1, _, by omega, by go_num, rfl, by
          have e1 : t.data.toList = Plain.joinL (es.take k) := HT
          have e2 := HJ.out
          rw [if_neg h0] at e2
          have e3 : k = 0 := by omega
          have e4 : t.data.toList = [] := by rw [e1, e3]; rfl
          show (t ++ ⟨es[k].toArray⟩).data.toList = _
          rw [e2]
          simp [e4]⟩
        case measure => simp [intOf]; omega
    · have hke : k = es.length := by omega
      subst hke
      go_wp2
      go_ret
      refine ⟨?_, rfl⟩
      have e1 : t.data.toList = Plain.joinL (es.take es.length) := HT
      rw [List.take_length] at e1
      have e2 : t = ⟨(Plain.joinL es).toArray⟩ := bytes_inj (by rw [e1])
      exact congrArg (fun x => Ending.returned (Value.string x)) e2

end Go.Proofs.Qxb6002463a
