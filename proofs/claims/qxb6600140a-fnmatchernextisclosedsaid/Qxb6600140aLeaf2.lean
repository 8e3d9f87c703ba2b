/-
  WALKS: the other two zzBytes (15, 24), formsSound (17), longestForm (25).
-/
import Derived.Test.Qxb6600140aLeaf
import Derived.WalkKit
import Derived.WalkSpells
import Derived.BigQuiet
import Derived.ProofKit
import Derived.Deep.DeepCutAuto
namespace Go.Proofs.Qxb6600140a
open Go.RowKit Go.WideShapes Go.Proofs.Qxb6600140a.Plain

set_option maxHeartbeats 1000000 in
theorem zz15_any (ad : Option Addr) (n cap : Nat) (fs : Nat → ByteArray) (s : ByteArray) (w : World) (hn : n ≤ maxLen) (hs : s.size ≤ maxLen) (HR : Hid (FRow w ad n fs)) (HM : Hid (∀ t, t < n → (fs t).size ≤ maxLen)) :
    Calls Try.prog 15 #[.slice ad n cap, .string s] w fun e w' => ZPost n fs w e w' := by
  unfold maxLen at hn hs
  by_cases hb : n ≤ 1048576
  · have d1 : decide ((1048576 : Int) < (n : Int)) = false := decide_eq_false (by omega)
    go_enter Try.func15, Try.ntmps15
    go_wp2
    go_loop [5, 6] (fun z i => ∃ k q : Nat, k ≤ n ∧ i = .int .i64 (k : Int) ∧ z = .int .i64 (q : Int) ∧ q ≤ 1048576 ∧ Hid (∀ t, t < k → (fs t).size ≤ 1048576)) (fun _ i => n - (intOf i).toNat)
    case atStart => exact ⟨0, n, Nat.zero_le _, rfl, by go_num, hb, fun t ht => by omega⟩
    case round =>
      obtain ⟨k, q, hk, rfl, rfl, hq, HK⟩ := hrel
      by_cases hlt : k < n
      · obtain ⟨gf, o, rfl, _, hc⟩ := HR.out (by omega)
        have x1 := hc k hlt
        have hmx := HM.out k hlt
        unfold maxLen at hmx
        clear hc
        by_cases h1 : (fs k).size ≤ 1048576
        · have e1 : decide ((1048576 : Int) < ((fs k).size : Int)) = false := decide_eq_false (by omega)
          by_cases h2 : q + (fs k).size ≤ 1048576
          · have HK' : Hid (∀ t, t < k + 1 → (fs t).size ≤ 1048576) := by
              intro t ht
              by_cases e : t = k
              · rw [e]; exact h1
              · exact HK.out t (by omega)
            go_wp2
            go_round
            case rel => exact ⟨k + 1, q + (fs k).size, by omega, by go_num, by go_num, by omega, HK'⟩
            case measure => simp [intOf]; omega
          · go_wp2
            go_ret
            exact ⟨_, rfl, rfl, fun h => by cases h⟩
        · go_wp2
          go_ret
          exact ⟨_, rfl, rfl, fun h => by cases h⟩
      · have HZ : Hid (n ≤ 1048576 ∧ ∀ t, t < n → (fs t).size ≤ 1048576) := ⟨hb, fun t ht => HK.out t (by omega)⟩
        go_wp2
        all_goals
          go_ret
          exact ⟨_, rfl, rfl, fun _ => HZ.out⟩
  · go_enter Try.func15, Try.ntmps15
    go_wp2
    go_ret
    exact ⟨_, rfl, rfl, fun h => by cases h⟩

set_option maxHeartbeats 1000000 in
theorem zz24_any (ad : Option Addr) (n cap : Nat) (fs : Nat → ByteArray) (s r : ByteArray) (w : World) (hn : n ≤ maxLen) (hs : s.size ≤ maxLen) (hr : r.size ≤ maxLen) (HR : Hid (FRow w ad n fs)) (HM : Hid (∀ t, t < n → (fs t).size ≤ maxLen)) :
    Calls Try.prog 24 #[.slice ad n cap, .string s, .string r] w fun e w' => ZPost n fs w e w' := by
  unfold maxLen at hn hs hr
  by_cases hb : n ≤ 1048576
  · have d1 : decide ((1048576 : Int) < (n : Int)) = false := decide_eq_false (by omega)
    go_enter Try.func24, Try.ntmps24
    go_wp2
    go_loop [7, 8] (fun z i => ∃ k q : Nat, k ≤ n ∧ i = .int .i64 (k : Int) ∧ z = .int .i64 (q : Int) ∧ q ≤ 1048576 ∧ Hid (∀ t, t < k → (fs t).size ≤ 1048576)) (fun _ i => n - (intOf i).toNat)
    case atStart => exact ⟨0, n, Nat.zero_le _, rfl, by go_num, hb, fun t ht => by omega⟩
    case round =>
      obtain ⟨k, q, hk, rfl, rfl, hq, HK⟩ := hrel
      by_cases hlt : k < n
      · obtain ⟨gf, o, rfl, _, hc⟩ := HR.out (by omega)
        have x1 := hc k hlt
        have hmx := HM.out k hlt
        unfold maxLen at hmx
        clear hc
        by_cases h1 : (fs k).size ≤ 1048576
        · have e1 : decide ((1048576 : Int) < ((fs k).size : Int)) = false := decide_eq_false (by omega)
          by_cases h2 : q + (fs k).size ≤ 1048576
          · have HK' : Hid (∀ t, t < k + 1 → (fs t).size ≤ 1048576) := by
              intro t ht
              by_cases e : t = k
              · rw [e]; exact h1
              · exact HK.out t (by omega)
            go_wp2
            go_round
            case rel => exact ⟨k + 1, q + (fs k).size, by omega, by go_num, by go_num, by omega, HK'⟩
            case measure => simp [intOf]; omega
          · go_wp2
            go_ret
            exact ⟨_, rfl, rfl, fun h => by cases h⟩
        · go_wp2
          go_ret
          exact ⟨_, rfl, rfl, fun h => by cases h⟩
      · have HZ : Hid (n ≤ 1048576 ∧ ∀ t, t < n → (fs t).size ≤ 1048576) := ⟨hb, fun t ht => HK.out t (by omega)⟩
        go_wp2
        all_goals
          go_ret
          exact ⟨_, rfl, rfl, fun _ => HZ.out⟩
  · go_enter Try.func24, Try.ntmps24
    go_wp2
    go_ret
    exact ⟨_, rfl, rfl, fun h => by cases h⟩

/-- longestForm. -/
def LPost (n : Nat) (fs : Nat → ByteArray) (w : World) (e : Ending) (w' : World) : Prop := ∃ q : Nat, e = .returned (.int .i64 (q : Int)) ∧ w' = w ∧ Hid (q ≤ 1048576 ∧ ∀ t, t < n → (fs t).size ≤ q)

set_option maxHeartbeats 1000000 in
theorem longestForm_any (ad : Option Addr) (n cap : Nat) (fs : Nat → ByteArray) (w : World) (hn : n ≤ 1048576) (HR : Hid (FRow w ad n fs)) (HM : Hid (∀ t, t < n → (fs t).size ≤ 1048576)) :
    Calls Try.prog 25 #[.slice ad n cap] w fun e w' => LPost n fs w e w' := by
  go_enter Try.func25, Try.ntmps25
  go_wp2
  go_loop [3, 4] (fun z i => ∃ k q : Nat, k ≤ n ∧ i = .int .i64 (k : Int) ∧ z = .int .i64 (q : Int) ∧ q ≤ 1048576 ∧ Hid (∀ t, t < k → (fs t).size ≤ q)) (fun _ i => n - (intOf i).toNat)
  case atStart => exact ⟨0, 0, Nat.zero_le _, rfl, rfl, by omega, fun t ht => by omega⟩
  case round =>
    obtain ⟨k, q, hk, rfl, rfl, hq, HK⟩ := hrel
    by_cases hlt : k < n
    · obtain ⟨gf, o, rfl, _, hc⟩ := HR.out (by omega)
      have x1 := hc k hlt
      have hmx := HM.out k hlt
      clear hc
      by_cases h1 : q < (fs k).size
      · have HK' : Hid (∀ t, t < k + 1 → (fs t).size ≤ (fs k).size) := by
          intro t ht
          by_cases e : t = k
          · rw [e]; exact Nat.le_refl _
          · have := HK.out t (by omega); omega
        go_wp2
        go_round
        case rel => exact ⟨k + 1, (fs k).size, by omega, by go_num, by go_num, by omega, HK'⟩
        case measure => simp [intOf]; omega
      · have HK' : Hid (∀ t, t < k + 1 → (fs t).size ≤ q) := by
          intro t ht
          by_cases e : t = k
          · rw [e]; omega
          · exact HK.out t (by omega)
        go_wp2
        go_round
        case rel => exact ⟨k + 1, q, by omega, by go_num, by go_num, by omega, HK'⟩
        case measure => simp [intOf]; omega
    · have HZ : Hid (q ≤ 1048576 ∧ ∀ t, t < n → (fs t).size ≤ q) := ⟨hq, fun t ht => HK.out t (by omega)⟩
      go_wp2
      go_ret
      exact ⟨q, rfl, rfl, HZ⟩

theorem byteLess_at (p q : ByteArray) (b : Bool) (w : World) (hp : p.size ≤ maxLen) (hq : q.size ≤ maxLen) (h : Hid (bl p.data.toList q.data.toList = b)) :
    Calls Try.prog 30 #[.string p, .string q] w fun e w' => e = .returned (.bool b) ∧ ∃ n, w' = w.drewN n :=
  (byteLess_any p q w hp hq).mono fun e w' ⟨h1, h2⟩ => ⟨by rw [h1]; exact ret_bool h, h2⟩

/-- formsSound. -/
def SPost (n : Nat) (fs : Nat → ByteArray) (w : World) (e : Ending) (w' : World) : Prop := ∃ b : Bool, e = .returned (.bool b) ∧ (∃ m, w' = w.drewN m) ∧ Hid (b = true → Sound (frm n fs))

set_option maxHeartbeats 2000000 in
theorem formsSound_any (ad : Option Addr) (n cap : Nat) (fs : Nat → ByteArray) (w : World) (hn : n ≤ 1048576) (HR : Hid (FRow w ad n fs)) (HM : Hid (∀ t, t < n → (fs t).size ≤ maxLen)) :
    Calls Try.prog 17 #[.slice ad n cap] w fun e w' => SPost n fs w e w' := by
  by_cases h0 : n = 0
  · have d0 : ((n : Int) == 0) = true := beq_iff_eq.2 (by omega)
    clear h0
    go_enter Try.func17, Try.ntmps17
    go_wp2
    go_ret
    exact ⟨_, rfl, ⟨0, rfl⟩, fun h => by cases h⟩
  · have d0 : ((n : Int) == 0) = false := beq_eq_false_iff_ne.2 (by omega)
    go_enter Try.func17, Try.ntmps17
    go_wp2
    go_loopw [3] (fun i wr => ∃ k : Nat, k ≤ n ∧ i = .int .i64 (k : Int) ∧ Hid ((∀ t, t < k → (fs t).data.toList ≠ []) ∧ (∀ t, t + 1 < k → bl (fs t).data.toList (fs (t + 1)).data.toList = true)) ∧ Hid (∃ m, wr = w.drewN m)) (fun i _ => n - (intOf i).toNat)
    case atStart => exact ⟨0, Nat.zero_le _, rfl, ⟨fun t ht => by omega, fun t ht => by omega⟩, 0, rfl⟩
    case round =>
      obtain ⟨k, hk, rfl, HK, H2⟩ := hrel
      by_cases hlt : k < n
      · obtain ⟨gf, o, rfl, _, hc⟩ := HR.out (by omega)
        have hmk := HM.out k hlt
        have HC : Hid (∀ t, t < n → wr.cell? ⟨gf, o + t, none⟩ = some (.string (fs t))) := by
          obtain ⟨m, rfl⟩ := H2
          exact hc
        have x1 := HC.out k hlt
        clear hc
        cases hem : (fs k).toList.isEmpty
        · have hne : (fs k).data.toList ≠ [] := by
            intro z
            rw [ByteArray.toList_eq, z] at hem
            cases hem
          have HE : Hid ((fs k).data.toList ≠ []) := hne
          clear hne
          by_cases hk0 : 0 < k
          · have g1 : decide ((0 : Int) < (k : Int)) = true := decide_eq_true (by omega)
            have x2 := HC.out (k - 1) (by omega)
            have hmk1 := HM.out (k - 1) (by omega)
            have hw : IntKind.i64.wrap ((k : Int) - 1) = ((k - 1 : Nat) : Int) := by rw [IntKind.wrap_i64]; omega
            have i1 : ((k - 1 : Nat) : Int) < (n : Int) := by omega
            have i2 : (0 : Int) ≤ ((k - 1 : Nat) : Int) := by omega
            have i3 : (k : Int) < (n : Int) := by omega
            cases hbl : bl (fs (k - 1)).data.toList (fs k).data.toList
            · have HB : Hid (bl (fs (k - 1)).data.toList (fs k).data.toList = false) := hbl
              clear hbl
              go_wp2
              go_quiet ((go_at_call 30; refine Calls.quiet_of (byteLess_at _ _ false _ hmk1 hmk HB)))
              go_wp2
              obtain ⟨m, rfl⟩ := H2
              go_ret
              exact ⟨_, rfl, ⟨_, World.drewN_drewN _ _ _⟩, fun h => by cases h⟩
            · have HB : Hid (bl (fs (k - 1)).data.toList (fs k).data.toList = true) := hbl
              clear hbl
              have HK' : Hid ((∀ t, t < k + 1 → (fs t).data.toList ≠ []) ∧ (∀ t, t + 1 < k + 1 → bl (fs t).data.toList (fs (t + 1)).data.toList = true)) := by
                refine ⟨fun t ht => ?_, fun t ht => ?_⟩
                · by_cases e : t = k
                  · rw [e]; exact HE.out
                  · exact HK.out.1 t (by omega)
                · by_cases e : t + 1 = k
                  · rw [e, show t = k - 1 from by omega]; exact HB.out
                  · exact HK.out.2 t (by omega)
              go_wp2
              go_quiet ((go_at_call 30; refine Calls.quiet_of (byteLess_at _ _ true _ hmk1 hmk HB)))
              go_wp2
              obtain ⟨m, rfl⟩ := H2
              go_roundw
              case rel => exact ⟨k + 1, by omega, by go_num, HK', _, World.drewN_drewN _ _ _⟩
              case measure => simp [intOf]; omega
          · have g1 : decide ((0 : Int) < (k : Int)) = false := decide_eq_false (by omega)
            have HK' : Hid ((∀ t, t < k + 1 → (fs t).data.toList ≠ []) ∧ (∀ t, t + 1 < k + 1 → bl (fs t).data.toList (fs (t + 1)).data.toList = true)) := by
              refine ⟨fun t ht => ?_, fun t ht => by omega⟩
              rw [show t = k from by omega]; exact HE.out
            go_wp2
            go_quiet (fail)
            go_wp2
            obtain ⟨m, rfl⟩ := H2
            go_roundw
            case rel => exact ⟨k + 1, by omega, by go_num, HK', _, World.drewN_drewN _ _ _⟩
            case measure => simp [intOf]; omega
        · go_wp2
          obtain ⟨m, rfl⟩ := H2
          go_ret
          exact ⟨_, rfl, ⟨_, rfl⟩, fun h => by cases h⟩
      · have HZ : Hid (Sound (frm n fs)) := by
          have e : k = n := by omega
          obtain ⟨a, b⟩ := HK.out
          rw [e] at a b
          refine ⟨by rw [frm_len]; omega, fun i hi => ?_, fun i hi => ?_⟩
          · rw [frm_len] at hi; rw [frm_fm n fs i hi]; exact a i hi
          · rw [frm_len] at hi; rw [frm_fm n fs i (by omega), frm_fm n fs (i + 1) hi]; exact b i hi
        obtain ⟨m, rfl⟩ := H2
        go_wp2
        go_ret
        exact ⟨_, rfl, ⟨m, rfl⟩, fun _ => HZ.out⟩

end Go.Proofs.Qxb6600140a
