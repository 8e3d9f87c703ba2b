/-
  WALKS: byteLess (30), formsFit (16), formsSound (17), copyForms (18), longestForm (25), longestFormEnding (23).
-/
import Derived.Test.Qxb6600140aShared
import Derived.WalkKit
import Derived.WalkSpells
import Derived.BigQuiet
import Derived.ProofKit
import Derived.Deep.OwnRows
import Derived.Lib.Strings
namespace Go.Proofs.Qxb6600140a
open Go.RowKit Go.WideShapes Go.Proofs.Qxb6600140a.Plain

theorem str_eq (a : ByteArray) (l : List UInt8) : (a.toList == l) = decide (a.data.toList = l) := by
  rw [ByteArray.toList_eq]
  by_cases h : a.data.toList = l <;> simp [h]

theorem bl_same (p q : ByteArray) (k : Nat) (h1 : k < p.size) (h2 : k < q.size) (h : ((p[k].toNat : Int) != (q[k].toNat : Int)) = false) :
    bl (p.data.toList.drop (k + 1)) (q.data.toList.drop (k + 1)) = bl (p.data.toList.drop k) (q.data.toList.drop k) := by
  symm
  refine bl_step _ _ k (by simpa using h1) (by simpa using h2) ?_
  have e : (p[k].toNat : Int) = q[k].toNat := by simpa using h
  have e' : p[k] = q[k] := UInt8.toNat_inj.1 (by omega)
  exact e'
theorem bl_differ (p q : ByteArray) (k : Nat) (h1 : k < p.size) (h2 : k < q.size) (h : ((p[k].toNat : Int) != (q[k].toNat : Int)) = true) :
    bl (p.data.toList.drop k) (q.data.toList.drop k) = decide (p[k].toNat < q[k].toNat) := by
  refine bl_part _ _ k (by simpa using h1) (by simpa using h2) ?_
  intro e
  have e' : p[k] = q[k] := e
  rw [e'] at h
  simp at h
theorem bl_over (p q : ByteArray) (k : Nat) (h1 : k ≤ p.size) (h2 : k ≤ q.size) (h : k = p.size ∨ k = q.size) :
    bl (p.data.toList.drop k) (q.data.toList.drop k) = decide (p.size < q.size) := by
  have := bl_end p.data.toList q.data.toList k (by simpa using h1) (by simpa using h2) (by simpa using h)
  rw [this]
  simp

/-- byteLess, from the loop on: m the less of the two lengths. -/
def BPost (p q : ByteArray) (w : World) (e : Ending) (w' : World) : Prop := e = .returned (.bool (bl p.data.toList q.data.toList)) ∧ ∃ n, w' = w.drewN n

set_option maxHeartbeats 1000000 in
theorem byteLess_any (p q : ByteArray) (w : World) (hp : p.size ≤ maxLen) (hq : q.size ≤ maxLen) :
    Calls Try.prog 30 #[.string p, .string q] w fun e w' => BPost p q w e w' := by
  unfold maxLen at hp hq
  by_cases h : q.size < p.size
  · have d1 : decide ((q.size : Int) < (p.size : Int)) = true := decide_eq_true (by omega)
    go_enter Try.func30, Try.ntmps30
    go_wp2
    go_loopw [6] (fun i wr => ∃ k : Nat, k ≤ q.size ∧ i = .int .i64 (k : Int) ∧ Hid (bl (p.data.toList.drop k) (q.data.toList.drop k) = bl p.data.toList q.data.toList) ∧ Hid (∃ n, wr = w.drewN n)) (fun i _ => q.size - (intOf i).toNat)
    case atStart => exact ⟨0, Nat.zero_le _, rfl, rfl, 0, rfl⟩
    case round =>
      obtain ⟨k, hk, rfl, H1, H2⟩ := hrel
      by_cases hlt : k < q.size
      · have h1 : k < p.size := by omega
        cases e1 : ((p[k].toNat : Int) != (q[k].toNat : Int))
        · have H3 : Hid (bl (p.data.toList.drop (k + 1)) (q.data.toList.drop (k + 1)) = bl p.data.toList q.data.toList) := (bl_same p q k h1 hlt e1).trans H1
          go_wp2
          go_quiet (fail)
          go_wp2
          obtain ⟨n, rfl⟩ := H2
          go_roundw
          case rel => exact ⟨k + 1, by omega, by go_num, H3, _, World.drewN_drewN _ _ _⟩
          case measure => simp [intOf]; omega
        · have H3 : Hid (decide (p[k].toNat < q[k].toNat) = bl p.data.toList q.data.toList) := (bl_differ p q k h1 hlt e1).symm.trans H1
          go_wp2
          go_quiet (fail)
          go_wp2
          go_quiet (fail)
          go_wp2
          obtain ⟨n, rfl⟩ := H2
          go_ret
          exact ⟨ret_bool (by rw [← H3.out]), _, by rw [World.drewN_drewN, World.drewN_drewN]⟩
      · have hke : k = q.size := by omega
        have H3 : Hid (decide (p.size < q.size) = bl p.data.toList q.data.toList) := (bl_over p q k (by omega) (by omega) (.inr hke)).symm.trans H1
        clear hke
        go_wp2
        obtain ⟨n, rfl⟩ := H2
        go_ret
        exact ⟨ret_bool (by rw [← H3.out]), _, rfl⟩
  · have d1 : decide ((q.size : Int) < (p.size : Int)) = false := decide_eq_false (by omega)
    go_enter Try.func30, Try.ntmps30
    go_wp2
    go_loopw [6] (fun i wr => ∃ k : Nat, k ≤ p.size ∧ i = .int .i64 (k : Int) ∧ Hid (bl (p.data.toList.drop k) (q.data.toList.drop k) = bl p.data.toList q.data.toList) ∧ Hid (∃ n, wr = w.drewN n)) (fun i _ => p.size - (intOf i).toNat)
    case atStart => exact ⟨0, Nat.zero_le _, rfl, rfl, 0, rfl⟩
    case round =>
      obtain ⟨k, hk, rfl, H1, H2⟩ := hrel
      by_cases h1 : k < p.size
      · have hlt : k < q.size := by omega
        cases e1 : ((p[k].toNat : Int) != (q[k].toNat : Int))
        · have H3 : Hid (bl (p.data.toList.drop (k + 1)) (q.data.toList.drop (k + 1)) = bl p.data.toList q.data.toList) := (bl_same p q k h1 hlt e1).trans H1
          go_wp2
          go_quiet (fail)
          go_wp2
          obtain ⟨n, rfl⟩ := H2
          go_roundw
          case rel => exact ⟨k + 1, by omega, by go_num, H3, _, World.drewN_drewN _ _ _⟩
          case measure => simp [intOf]; omega
        · have H3 : Hid (decide (p[k].toNat < q[k].toNat) = bl p.data.toList q.data.toList) := (bl_differ p q k h1 hlt e1).symm.trans H1
          go_wp2
          go_quiet (fail)
          go_wp2
          go_quiet (fail)
          go_wp2
          obtain ⟨n, rfl⟩ := H2
          go_ret
          exact ⟨ret_bool (by rw [← H3.out]), _, by rw [World.drewN_drewN, World.drewN_drewN]⟩
      · have hke : k = p.size := by omega
        have H3 : Hid (decide (p.size < q.size) = bl p.data.toList q.data.toList) := (bl_over p q k (by omega) (by omega) (.inl hke)).symm.trans H1
        clear hke
        go_wp2
        obtain ⟨n, rfl⟩ := H2
        go_ret
        exact ⟨ret_bool (by rw [← H3.out]), _, rfl⟩

/-! ### The forms, as they came in -/
/-- The forms as lists of bytes. -/
def frm (n : Nat) (fs : Nat → ByteArray) : List Str := (List.range n).map (fun t => (fs t).data.toList)
theorem frm_len (n : Nat) (fs : Nat → ByteArray) : (frm n fs).length = n := by simp [frm]
theorem frm_fm (n : Nat) (fs : Nat → ByteArray) (t : Nat) (h : t < n) : fm (frm n fs) t = (fs t).data.toList := by
  unfold fm frm
  rw [List.getD_eq_getElem?_getD, List.getElem?_map, List.getElem?_range h]
  rfl

/-- A slice of strings: its cells, where it has any. -/
def FRow (w : World) (ad : Option Addr) (n : Nat) (fs : Nat → ByteArray) : Prop :=
  0 < n → ∃ gf o, ad = some ⟨gf, o, none⟩ ∧ gf < w.heap.size ∧ ∀ t, t < n → w.cell? ⟨gf, o + t, none⟩ = some (.string (fs t))

/-- zzBytes: what it answers; yes only where all is small. -/
def ZPost (n : Nat) (fs : Nat → ByteArray) (w : World) (e : Ending) (w' : World) : Prop := ∃ b : Bool, e = .returned (.bool b) ∧ w' = w ∧ Hid (b = true → n ≤ 1048576 ∧ ∀ t, t < n → (fs t).size ≤ 1048576)

set_option maxHeartbeats 1000000 in
theorem zz27_any (ad : Option Addr) (n cap : Nat) (fs : Nat → ByteArray) (w : World) (hn : n ≤ maxLen) (HR : Hid (FRow w ad n fs)) (HM : Hid (∀ t, t < n → (fs t).size ≤ maxLen)) :
    Calls Try.prog 27 #[.slice ad n cap] w fun e w' => ZPost n fs w e w' := by
  unfold maxLen at hn
  by_cases hb : n ≤ 1048576
  · have d1 : decide ((1048576 : Int) < (n : Int)) = false := decide_eq_false (by omega)
    go_enter Try.func27, Try.ntmps27
    go_wp2
    go_loop [3, 4] (fun z i => ∃ k q : Nat, k ≤ n ∧ i = .int .i64 (k : Int) ∧ z = .int .i64 (q : Int) ∧ q ≤ 1048576 ∧ Hid (∀ t, t < k → (fs t).size ≤ 1048576)) (fun _ i => n - (intOf i).toNat)
    case atStart => exact ⟨0, n, Nat.zero_le _, rfl, by go_num, hb, fun t ht => by omega⟩
    case round =>
      obtain ⟨k, q, hk, rfl, rfl, hq, HK⟩ := hrel
      by_cases hlt : k < n
      · obtain ⟨gf, o, rfl, _, hc⟩ := HR.out (by omega)
        have x1 := hc k hlt
        have hmx := HM.out k hlt
        unfold maxLen at hmx
        clear hc
        by_cases h1 : (fs k).size ≤ 1048576
        · have e1 : decide ((1048576 : Int) < ((fs k).size : Int)) = false := decide_eq_false (by omega)
          by_cases h2 : q + (fs k).size ≤ 1048576
          · have HK' : Hid (∀ t, t < k + 1 → (fs t).size ≤ 1048576) := by
              intro t ht
              by_cases e : t = k
              · rw [e]; exact h1
              · exact HK.out t (by omega)
            go_wp2
            go_round
            case rel => exact ⟨k + 1, q + (fs k).size, by omega, by go_num, by go_num, by omega, HK'⟩
            case measure => simp [intOf]; omega
          · go_wp2
            go_ret
            exact ⟨_, rfl, rfl, fun h => by cases h⟩
        · go_wp2
          go_ret
          exact ⟨_, rfl, rfl, fun h => by cases h⟩
      · have HZ : Hid (n ≤ 1048576 ∧ ∀ t, t < n → (fs t).size ≤ 1048576) := ⟨hb, fun t ht => HK.out t (by omega)⟩
        go_wp2
        go_ret
        exact ⟨_, rfl, rfl, fun _ => HZ.out⟩
  · go_enter Try.func27, Try.ntmps27
    go_wp2
    go_ret
    exact ⟨_, rfl, rfl, fun h => by cases h⟩

/-- formsFit. -/
def FPost (n : Nat) (fs : Nat → ByteArray) (x l : Nat) (w : World) (e : Ending) (w' : World) : Prop := ∃ b : Bool, e = .returned (.bool b) ∧ w' = w ∧ Hid (b = true → x + 16 * n + tot (frm n fs) n ≤ l)

set_option maxHeartbeats 1000000 in
theorem formsFit_any (ad : Option Addr) (n cap x l : Nat) (fs : Nat → ByteArray) (w : World) (hn : n ≤ 1048576) (hx : x ≤ 4194304) (hl : l ≤ 1048576) (HR : Hid (FRow w ad n fs)) (HM : Hid (∀ t, t < n → (fs t).size ≤ 1048576)) :
    Calls Try.prog 16 #[.slice ad n cap, .int .i64 (x : Int), .int .i64 (l : Int)] w fun e w' => FPost n fs x l w e w' := by
  by_cases h1 : n ≤ l
  · have d1 : decide ((l : Int) < (n : Int)) = false := decide_eq_false (by omega)
    by_cases h2 : x ≤ l
    · have d2 : decide ((l : Int) < (x : Int)) = false := decide_eq_false (by omega)
      by_cases h3 : x + 16 * n ≤ l
      · have d3 : decide ((l : Int) < (x : Int) + 16 * (n : Int)) = false := decide_eq_false (by omega)
        go_enter Try.func16, Try.ntmps16
        go_wp2
        go_loop [7, 8] (fun z i => ∃ k q : Nat, k ≤ n ∧ i = .int .i64 (k : Int) ∧ z = .int .i64 (q : Int) ∧ q ≤ l ∧ Hid (q = x + 16 * n + tot (frm n fs) k)) (fun _ i => n - (intOf i).toNat)
        case atStart => exact ⟨0, x + 16 * n, Nat.zero_le _, rfl, by go_num, h3, rfl⟩
        case round =>
          obtain ⟨k, q, hk, rfl, rfl, hq, HK⟩ := hrel
          by_cases hlt : k < n
          · obtain ⟨gf, o, rfl, _, hc⟩ := HR.out (by omega)
            have x1 := hc k hlt
            have hmx := HM.out k hlt
            clear hc
            have HK' : Hid (q + (fs k).size = x + 16 * n + tot (frm n fs) (k + 1)) := by
              have e1 : tot (frm n fs) (k + 1) = tot (frm n fs) k + (fm (frm n fs) k).length := rfl
              have e2 : (fm (frm n fs) k).length = (fs k).size := by rw [frm_fm n fs k hlt]; simp
              have := HK.out
              show _ = _
              omega
            by_cases h4 : q + (fs k).size ≤ l
            · go_wp2
              go_round
              case rel => exact ⟨k + 1, q + (fs k).size, by omega, by go_num, by go_num, by omega, HK'⟩
              case measure => simp [intOf]; omega
            · go_wp2
              go_ret
              exact ⟨_, rfl, rfl, fun h => by cases h⟩
          · have HZ : Hid (x + 16 * n + tot (frm n fs) n ≤ l) := by
              have := HK.out
              rw [show k = n from by omega] at this
              show _ ≤ _
              omega
            go_wp2
            go_ret
            exact ⟨_, rfl, rfl, fun _ => HZ.out⟩
      · go_enter Try.func16, Try.ntmps16
        go_wp2
        go_ret
        exact ⟨_, rfl, rfl, fun h => by cases h⟩
    · have d2 : decide ((l : Int) < (x : Int)) = true := decide_eq_true (by omega)
      go_enter Try.func16, Try.ntmps16
      go_wp2
      go_ret
      exact ⟨_, rfl, rfl, fun h => by cases h⟩
  · have d1 : decide ((l : Int) < (n : Int)) = true := decide_eq_true (by omega)
    go_enter Try.func16, Try.ntmps16
    go_wp2
    go_ret
    exact ⟨_, rfl, rfl, fun h => by cases h⟩

end Go.Proofs.Qxb6600140a
