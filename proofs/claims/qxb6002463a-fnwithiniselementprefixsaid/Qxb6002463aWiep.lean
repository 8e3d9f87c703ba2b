/-
  WALKS for 'Rows.FnWithinIsElementPrefixSaid'.
-/
import Derived.Test.Qxb6002463aWithin
import Derived.WalkKit
import Derived.ProofKit
import Derived.BigQuiet
import Derived.WalkSmall
namespace Go.Proofs.Qxb6002463a.fnWithinIsElementPrefix
open Go.WideShapes Go.RowKit

theorem zb_yes (p q : ByteArray) (w : World) (hs : p.size + q.size ≤ 1048576) :
    Calls Try.prog 19 #[.string p, .string q] w fun e w' => e = .returned (.bool true) ∧ w' = w := by
  go_enter Try.func19, Try.ntmps19
  go_wp2
  go_ret
  exact ⟨rfl, rfl⟩
theorem zb_no (p q : ByteArray) (w : World) (hp : p.size ≤ maxLen) (hq : q.size ≤ maxLen) (hs : ¬ p.size + q.size ≤ 1048576) :
    Calls Try.prog 19 #[.string p, .string q] w fun e w' => e = .returned (.bool false) ∧ w' = w := by
  unfold maxLen at hp hq
  go_enter Try.func19, Try.ntmps19
  go_wp2
  all_goals
    go_ret
    exact ⟨rfl, rfl⟩

/-- What a row of pieces reads as. -/
def Row (w : World) (ao : Option Addr) (cap : Nat) (xs : List (List UInt8)) : Prop :=
  xs.length ≤ cap ∧ cap ≤ maxLen ∧ (0 < xs.length → ∃ g, ao = some ⟨g, 0, none⟩ ∧ ∀ j, j < xs.length → w.cell? ⟨g, j, none⟩ = some (sv (xs.getD j [])))

theorem row_of {w : World} {base : Nat} {v : Value} {xs : List (List UInt8)} (h : w.ownsRow base 9 1 v xs.length (xs.map sv)) : ∃ ao cap, v = .slice ao xs.length cap ∧ Row w ao cap xs := by
  rcases h.2 with ⟨h1, h2⟩ | ⟨g, cap, cur, h1, h2, h3, h4, h5, h6, h7⟩
  · exact ⟨none, 0, by rw [h1, h2], by omega, Nat.zero_le _, fun z => by omega⟩
  · refine ⟨some ⟨g, 0, none⟩, cap, h1, h4, h5, fun _ => ⟨g, rfl, fun j hj => ?_⟩⟩
    have := h.cells (g := g) (by rw [h1]; rfl) j (sv xs[j]) (by simp [hj])
    rw [show (⟨g, 0, none⟩ : Addr).add j = ⟨g, j, none⟩ from by unfold Addr.add; split <;> simp_all] at this
    rw [this]
    simp [hj]

theorem own_below {w w' : World} {base : Nat} {v : Value} {n : Nat} {xs : List Value} (h : w.ownsRow base 9 1 v n xs) (hb : Below w.heap.size w w') : w'.ownsRow base 9 1 v n xs :=
  h.kept (row := none) ⟨hb.os, hb.tape, hb.output, hb.size, fun k hk _ => hb.block k hk⟩ (by cases v.ownBlock <;> simp)

/-- The loop over the elements. -/
def WRel (ne de : List (List UInt8)) (ok : Bool) (w : World) (t i : Value) (wr : World) : Prop :=
  ∃ (k : Nat) (b : Bool), i = .int .i64 k ∧ t = .bool b ∧ k ≤ de.length ∧ (b = true → de.length < ne.length ∧ ne.take k = de.take k) ∧ (b = false → ok = false) ∧ ∃ n, wr = w.drewN n

theorem ok_no (ne de : List (List UInt8)) (ok : Bool) (k : Nat) (hk : k < de.length) (hdef : ok = (decide (de.length < ne.length) && decide (ne.take de.length = de)))
    (h : (!ne[k]?.getD [] == de[k]) = true) : ok = false := by
  rw [hdef, Bool.and_eq_false_iff]
  right
  refine decide_eq_false ?_
  intro e
  have h2 : de[k] = ne[k]?.getD [] := by
    have e2 : de[k] = (ne.take de.length)[k]'(by rw [e]; exact hk) := by simp only [e]
    rw [e2, List.getElem_take]
    have hkn : k < ne.length := by
      have := congrArg List.length e
      rw [List.length_take] at this
      omega
    rw [List.getElem?_eq_getElem hkn]
    rfl
  rw [h2] at h
  simp at h

theorem take_yes (ne de : List (List UInt8)) (k : Nat) (hk : k < de.length) (hlt : de.length < ne.length) (ht : ne.take k = de.take k) (h : (!ne[k]?.getD [] == de[k]) = false) : ne.take (k + 1) = de.take (k + 1) := by
  have hkn : k < ne.length := by omega
  rw [List.take_succ_eq_append_getElem hkn, List.take_succ_eq_append_getElem hk, ht]
  rw [List.getElem?_eq_getElem hkn] at h
  have : ne[k] = de[k] := by simpa using h
  rw [this]

theorem within_at (n d : ByteArray) (ne de : List (List UInt8)) (ok : Bool) (w : World) (h1 : d.size ≤ 65536) (hn : Hid (∃ x, n.data.toList = 47 :: x)) (hd : Hid (∃ x, d.data.toList = 47 :: x)) (hne : Hid (Plain.els n.data.toList = ne)) (hde : Hid (Plain.els d.data.toList = de))
    (hok : Hid (Plain.wOk n.data.toList d.data.toList = ok)) :
    Calls Try.prog 21 #[.string n, .string d] w fun e w' => ∃ rest : ByteArray, e = .returned (.tuple #[.string rest, .bool ok]) ∧ w' = w ∧ Hid (ok = true → rest.data.toList = Plain.joinL (ne.drop de.length)) := by
  refine (within_any n d w h1 hn hd).mono fun e w' ⟨r, a, b, c⟩ => ⟨r, ?_, b, ?_⟩
  · rw [a, hok.out]
  · have c' := c.out
    rw [hok.out, hne.out, hde.out] at c'
    exact c'

theorem elemsOf_at (s : ByteArray) (es : List (List UInt8)) (w : World) (h1 : 1 ≤ s.size) (h2 : s.size ≤ 65536) (h : Hid (Plain.els s.data.toList = es)) :
    Calls Try.prog 22 #[.string s] w fun e w' => ∃ v, e = .returned v ∧ w'.ownsRow w.heap.size 9 1 v es.length (es.map sv) ∧ Below w.heap.size w w' := by
  have := elemsOf_any s w h1 h2
  rw [h.out] at this
  exact this

theorem joinElems_at (g o m c : Nat) (es : List (List UInt8)) (r : ByteArray) (w : World) (hm : Hid (es.length = m)) (hl : Hid ((Plain.joinL es).length ≤ 65536)) (hn : Hid (es.length ≤ 65537)) (hcell : Hid (∀ j, j < es.length → w.cell? ⟨g, o + j, none⟩ = some (sv (es.getD j []))))
    (hr : Hid (r.data.toList = Plain.joinL es)) :
    Calls Try.prog 23 #[.slice (some ⟨g, o, none⟩) m c] w fun e w' => e = .returned (.string r) ∧ w' = w := by
  have hm' := hm.out
  subst hm'
  refine (joinElems_any g o c es w hl hn hcell).mono fun e w' ⟨a, b⟩ => ⟨?_, b⟩
  rw [a]
  have e2 : r = ⟨(Plain.joinL es).toArray⟩ := bytes_inj (by rw [hr.out])
  exact congrArg (fun x => Ending.returned (Value.string x)) e2.symm

set_option maxHeartbeats 2000000 in
theorem main (n d : ByteArray) (ne de : List (List UInt8)) (ok : Bool) (w : World) (hs : n.size + d.size ≤ 1048576) (n1 : 1 ≤ n.size) (n2 : n.size ≤ 65536) (d1 : 1 ≤ d.size) (d2 : d.size ≤ 65536)
    (hn : Hid (∃ x, n.data.toList = 47 :: x)) (hd : Hid (∃ x, d.data.toList = 47 :: x)) (hne : Hid (Plain.els n.data.toList = ne)) (hde : Hid (Plain.els d.data.toList = de)) (hok : Hid (Plain.wOk n.data.toList d.data.toList = ok))
    (hdef : Hid (ok = (decide (de.length < ne.length) && decide (ne.take de.length = de)))) (ln : ne.length ≤ 65537) (ld : de.length ≤ 65537) (hjl : Hid ((Plain.joinL (ne.drop de.length)).length ≤ 65536)) :
    Calls Try.prog 8 #[.string n, .string d] w fun e w' => e = .returned (.bool true) ∧ Below w.heap.size w w' := by
  have q1 : decide (65536 < (n.size : Int)) = false := decide_eq_false (by omega)
  have q2 : decide (65536 < (d.size : Int)) = false := decide_eq_false (by omega)
  go_enter Try.func8, Try.ntmps8
  go_wp2_with fail
  refine (zb_yes _ _ _ hs).mono ?_
  rintro e w' ⟨rfl, rfl⟩
  go_wp2_with fail
  refine (cleanAbs_any n _ n2).mono ?_
  rintro e w'' ⟨b, rfl, rfl, HB⟩
  cases b
  · go_wp2
    go_ret
    exact ⟨rfl, Below.refl _ _⟩
  clear HB
  go_wp2_with fail
  refine (cleanAbs_any d _ d2).mono ?_
  rintro e w'' ⟨b, rfl, rfl, HB⟩
  cases b
  · go_wp2
    go_ret
    exact ⟨rfl, Below.refl _ _⟩
  clear HB
  go_wp2_with fail
  refine (within_at n d ne de ok _ d2 hn hd hne hde hok).mono ?_
  rintro e w'' ⟨rest, rfl, rfl, HR⟩
  go_wp2_with fail
  refine (elemsOf_at n ne _ n1 n2 hne).mono ?_
  rintro e w1 ⟨v1, rfl, own1, bel1⟩
  go_wp2_with fail
  refine (elemsOf_at d de _ d1 d2 hde).mono ?_
  rintro e w2 ⟨v2, rfl, own2, bel2⟩
  have own1' := own_below own1 bel2
  obtain ⟨a1, c1, e1, r1⟩ := row_of own1'
  obtain ⟨a2, c2, e2, r2⟩ := row_of own2
  rw [e1, e2]
  have BEL : Hid (Below w''.heap.size w'' w2) := bel1.trans (bel2.mono bel1.size)
  have R1 : Hid (Row w2 a1 c1 ne) := r1
  have R2 : Hid (Row w2 a2 c2 de) := r2
  clear own1 own2 own1' bel1 bel2 e1 e2 r1 r2
  go_wp2
  go_loopw [9, 10] (fun t i wr => WRel ne de ok w2 t i wr) (fun _ i _ => de.length - (intOf i).toNat)
  case atStart =>
    refine ⟨0, _, rfl, rfl, Nat.zero_le _, fun h => ⟨of_decide_eq_true h, rfl⟩, fun h => ?_, 0, rfl⟩
    rw [hdef.out, h]
    rfl
  case round =>
    obtain ⟨k, b, rfl, rfl, hk, hb1, hb0, H2⟩ := hrel
    cases b
    · have hok0 : ok = false := hb0 rfl
      clear hb0 hb1
      subst hok0
      obtain ⟨nq, rfl⟩ := H2
      go_wp2
      go_ret
      exact ⟨rfl, below_drewN BEL.out _⟩
    · obtain ⟨hlt, htake⟩ := hb1 rfl
      have HT : Hid (ne.take k = de.take k) := htake
      clear hb0 hb1 htake
      by_cases hkd : k < de.length
      · obtain ⟨g1, rfl, hc1⟩ := R1.out.2.2 (by omega)
        obtain ⟨g2, rfl, hc2⟩ := R2.out.2.2 (by omega)
        have x1 := hc1 k (by omega)
        have x2 := hc2 k hkd
        clear hc1 hc2
        unfold sv at x1 x2
        obtain ⟨m, rfl⟩ := H2
        go_wp2
        go_quiet (fail)
        go_wp2
        · have hno : Hid (ok = false) := ok_no ne de ok k hkd hdef.out ‹_›
          go_roundw
          case rel => exact ⟨k + 1, false, by go_num, rfl, by omega, fun h => (by cases h), fun _ => hno.out, _, rfl⟩
          case measure => simp [intOf]; omega
        · have hyes : Hid (ne.take (k + 1) = de.take (k + 1)) := take_yes ne de k hkd hlt HT.out ‹_›
          go_roundw
          case rel => exact ⟨k + 1, true, by go_num, rfl, by omega, fun _ => ⟨hlt, hyes.out⟩, fun h => (by cases h), _, rfl⟩
          case measure => simp [intOf]; omega
      · have hke : k = de.length := by omega
        subst hke
        have hok1 : ok = true := by
          have := HT.out
          rw [List.take_length] at this
          rw [hdef.out]
          simp [hlt, this]
        subst hok1
        obtain ⟨g1, rfl, hc1⟩ := R1.out.2.2 (by omega)
        have HC : Hid (∀ j, j < (ne.drop de.length).length → w2.cell? ⟨g1, de.length + j, none⟩ = some (sv ((ne.drop de.length).getD j []))) := by
          intro j hj
          rw [List.length_drop] at hj
          rw [hc1 (de.length + j) (by omega)]
          simp
        have hcap := R1.out.1
        have hcm := R1.out.2.1
        have HM : Hid ((ne.drop de.length).length = ne.length - de.length) := List.length_drop
        have HN : Hid ((ne.drop de.length).length ≤ 65537) := by have := HM.out; show _ ≤ _; omega
        clear hc1
        obtain ⟨m, rfl⟩ := H2
        go_wp2_with fail
        refine (joinElems_at g1 de.length (ne.length - de.length) (c1 - de.length) (ne.drop de.length) rest _ HM hjl HN (by exact HC.out) (HR.out trivial)).mono ?_
        rintro e w3 ⟨rfl, rfl⟩
        go_wp2
        go_ret
        exact ⟨by simp, below_drewN BEL.out _⟩

theorem els_some (s : ByteArray) (hs : s.size ≤ 65536) : (Plain.els s.data.toList).length ≤ 65537 := by
  have := Plain.els_len s.data.toList
  have ls : s.data.toList.length = s.size := by simp
  omega

/-- One of the two is not clean: what begins without a slash is not. -/
theorem not_n (n d : ByteArray) (w : World) (hs : n.size + d.size ≤ 1048576) (n2 : n.size ≤ 65536) (d2 : d.size ≤ 65536) (hn : Hid (¬ ∃ x, n.data.toList = 47 :: x)) :
    Calls Try.prog 8 #[.string n, .string d] w fun e w' => e = .returned (.bool true) ∧ Below w.heap.size w w' := by
  have q1 : decide (65536 < (n.size : Int)) = false := decide_eq_false (by omega)
  have q2 : decide (65536 < (d.size : Int)) = false := decide_eq_false (by omega)
  go_enter Try.func8, Try.ntmps8
  go_wp2_with fail
  refine (zb_yes _ _ _ hs).mono ?_
  rintro e w' ⟨rfl, rfl⟩
  go_wp2_with fail
  refine (cleanAbs_any n _ n2).mono ?_
  rintro e w'' ⟨b, rfl, rfl, HB⟩
  cases b
  · go_wp2
    go_ret
    exact ⟨rfl, Below.refl _ _⟩
  · exact absurd (HB.out rfl) hn.out
theorem not_d (n d : ByteArray) (w : World) (hs : n.size + d.size ≤ 1048576) (n2 : n.size ≤ 65536) (d2 : d.size ≤ 65536) (hd : Hid (¬ ∃ x, d.data.toList = 47 :: x)) :
    Calls Try.prog 8 #[.string n, .string d] w fun e w' => e = .returned (.bool true) ∧ Below w.heap.size w w' := by
  have q1 : decide (65536 < (n.size : Int)) = false := decide_eq_false (by omega)
  have q2 : decide (65536 < (d.size : Int)) = false := decide_eq_false (by omega)
  go_enter Try.func8, Try.ntmps8
  go_wp2_with fail
  refine (zb_yes _ _ _ hs).mono ?_
  rintro e w' ⟨rfl, rfl⟩
  go_wp2_with fail
  refine (cleanAbs_any n _ n2).mono ?_
  rintro e w'' ⟨b, rfl, rfl, HB⟩
  cases b
  · go_wp2
    go_ret
    exact ⟨rfl, Below.refl _ _⟩
  clear HB
  go_wp2_with fail
  refine (cleanAbs_any d _ d2).mono ?_
  rintro e w'' ⟨b, rfl, rfl, HB⟩
  cases b
  · go_wp2
    go_ret
    exact ⟨rfl, Below.refl _ _⟩
  · exact absurd (HB.out rfl) hd.out

theorem walk (a0 : ByteArray) (a1 : ByteArray) (w0 : a0.size ≤ maxLen) (w1 : a1.size ≤ maxLen) (w : World) :
    Calls Try.prog 8 #[.string a0, .string a1] w fun e w' => e = .returned (.bool true) ∧ Below w.heap.size w w' := by
  by_cases hs : a0.size + a1.size ≤ 1048576
  · by_cases n2 : a0.size ≤ 65536
    · by_cases d2 : a1.size ≤ 65536
      · have l0 : a0.data.toList.length = a0.size := by simp
        have l1 : a1.data.toList.length = a1.size := by simp
        by_cases hn : ∃ x, a0.data.toList = 47 :: x
        · by_cases hd : ∃ x, a1.data.toList = 47 :: x
          · refine main a0 a1 _ _ _ w hs ?_ n2 ?_ d2 hn hd rfl rfl rfl rfl (els_some a0 n2) (els_some a1 d2) ?_
            · obtain ⟨x, hx⟩ := hn; rw [← l0, hx]; simp
            · obtain ⟨x, hx⟩ := hd; rw [← l1, hx]; simp
            · have e1 := Plain.joinL_drop_le (Plain.els a0.data.toList) (Plain.els a1.data.toList).length
              have e2 := Plain.joinL_els a0.data.toList
              show _ ≤ _
              omega
          · exact not_d a0 a1 w hs n2 d2 hd
        · exact not_n a0 a1 w hs n2 d2 hn
      · have q1 : decide (65536 < (a0.size : Int)) = false := decide_eq_false (by omega)
        go_enter Try.func8, Try.ntmps8
        go_wp2_with (go_at_call 19; refine (zb_yes _ _ _ hs).mono ?_; rintro e w' ⟨rfl, rfl⟩)
        go_ret
        exact ⟨rfl, Below.refl _ _⟩
    · have q1 : decide (65536 < (a0.size : Int)) = true := decide_eq_true (by omega)
      go_enter Try.func8, Try.ntmps8
      go_wp2_with (go_at_call 19; refine (zb_yes _ _ _ hs).mono ?_; rintro e w' ⟨rfl, rfl⟩)
      go_ret
      exact ⟨rfl, Below.refl _ _⟩
  · go_enter Try.func8, Try.ntmps8
    go_wp2_with (go_at_call 19; refine (zb_no _ _ _ w0 w1 hs).mono ?_; rintro e w' ⟨rfl, rfl⟩)
    go_ret
    exact ⟨rfl, Below.refl _ _⟩

end Go.Proofs.Qxb6002463a.fnWithinIsElementPrefix
