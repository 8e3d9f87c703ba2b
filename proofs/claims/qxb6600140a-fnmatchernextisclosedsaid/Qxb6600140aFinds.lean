/-
  THE WALK of FnMatcherFindsLongestFormEnding (6).
-/
import Derived.Test.Qxb6600140aHead
import Derived.WalkKit
import Derived.WalkSpells
import Derived.BigQuiet
import Derived.ProofKit
import Derived.WalkSmall
namespace Go.Proofs.Qxb6600140a
open Go.RowKit Go.WideShapes Go.Proofs.Qxb6600140a.Plain

/-- ZZMatchLen at a matcher that is made. -/
theorem matchLen_at {b : Blk} {N : Nat} {T : Tab} {F : List Str} {ps : Nat → Str} {w : World} (H : Hid (Mt b N T F ps w)) (k : Nat) (hk : k < N) (w' : World) (hw : w'.heap = w.heap) :
    Calls Try.prog 22 #[.pointer (some ⟨b.B, 0, none⟩), .int .i32 (k : Int)] w' fun e w'' => e = .returned (.int .i32 (T.mt k : Int)) ∧ w'' = w' := by
  have hc : ∀ a, w'.cell? a = w.cell? a := fun a => by unfold World.cell?; rw [hw]
  exact zzMatchLen_any b.B b.g4 k N (T.mt k) w' hk (by rw [hc]; exact H.out.m.s4) (by rw [hc]; exact H.out.m.c4 k hk)

theorem take_extract (s : ByteArray) (q : Nat) : (s.extract 0 q).data.toList = s.data.toList.take q := by
  rw [Lib.extract_data]
  simp

set_option maxHeartbeats 2000000 in
theorem finds_any (ad : Option Addr) (n cap : Nat) (fs : Nat → ByteArray) (s : ByteArray) (w : World) (hn : n ≤ maxLen) (hs : s.size ≤ maxLen) (HR : Hid (FRow w ad n fs)) (HM : Hid (∀ i, i < n → (fs i).size ≤ maxLen)) :
    Calls Try.prog 6 #[.slice ad n cap, .string s] w fun e w' => LawOk w e w' := by
  have HB0 : Hid (Below w.heap.size w w) := Below.refl _ _
  have C1 := zz15_any ad n cap fs s w hn hs HR HM
  unfold maxLen at hn hs
  go_enter Try.func6, Try.ntmps6
  go_wp2_with fail
  refine C1.mono ?_
  rintro e w' ⟨b1, rfl, rfl, HZ⟩
  cases b1
  · go_wp2
    go_ret
    exact ⟨rfl, HB0.out⟩
  obtain ⟨hn1, HM1⟩ := HZ.out rfl
  have HM2 : Hid (∀ i, i < n → (fs i).size ≤ 1048576) := HM1
  clear HM1 HZ C1
  by_cases h1 : s.size ≤ 65536
  · have d1 : decide ((65536 : Int) < (s.size : Int)) = false := decide_eq_false (by omega)
    have hx : s.size ≤ 4194304 := by omega
    go_wp2_with fail
    refine (formsFit_any ad n cap s.size 65536 fs _ hn1 hx (by omega) HR HM2).mono ?_
    rintro e w2 ⟨b2, rfl, rfl, HF⟩
    cases b2
    · go_wp2
      go_ret
      exact ⟨rfl, HB0.out⟩
    have HT : Hid (tot (frm n fs) n ≤ 1048576) := by
      have := HF.out rfl
      show _ ≤ _
      omega
    clear HF
    go_wp2_with fail
    refine (formsSound_any ad n cap fs _ hn1 HR HM).mono ?_
    rintro e w3 ⟨b3, rfl, ⟨m, rfl⟩, HS⟩
    have HB1 : Hid (Below w2.heap.size w2 (w2.drewN m)) := below_drewN HB0.out m
    cases b3
    · go_wp2
      go_ret
      exact ⟨rfl, HB1.out⟩
    have HS1 : Hid (Sound (frm n fs)) := HS.out rfl
    clear HS
    go_wp2_with fail
    refine (copy_at ad n cap m fs w2 hn1 HR HS1).mono ?_
    rintro e wc ⟨rfl, HC⟩
    go_wp2_with fail
    refine (new_at w2 wc n fs hn1 HC HS1 HT).mono ?_
    rintro e wm ⟨b, N, T, ps, rfl, HY⟩
    clear HC
    have hN := HY.out.mt.le
    have h0 : 0 < N := HY.out.mt.b.pos
    have x1 : wm.cell? ⟨b.B, 256, none⟩ = some (.slice (some ⟨b.g1, 0, none⟩) N N) := HY.out.mt.m.nx.s1
    have HP0 : Hid (ps 0 = ls (frm n fs) (s.data.toList.take 0)) := by
      show _ = _
      rw [List.take_zero, HY.out.mt.b.zero]
      rfl
    go_wp2_with fail
    refine (zzNodes_any b.B b.g1 N _ x1).mono ?_
    rintro e wn ⟨rfl, rfl⟩
    go_wp2_with fail
    go_loopw [7, 8] (fun v i wr => ∃ q j : Nat, i = .int .i64 (q : Int) ∧ v = .int .i32 (j : Int) ∧ q ≤ s.size ∧ j < N ∧ Hid (ps j = ls (frm n fs) (s.data.toList.take q)) ∧ Hid (Rdy w2 n fs b N T ps wr)) (fun _ i _ => s.size - (intOf i).toNat)
    case atStart => exact ⟨0, 0, rfl, rfl, Nat.zero_le _, h0, HP0, HY⟩
    case round =>
      obtain ⟨q, j, rfl, rfl, hq, hj, HJ, HYr⟩ := hrel
      by_cases hlt : q < s.size
      · have HMT : Hid (Mt b N T (frm n fs) ps wr) := HYr.out.mt
        go_wp2_with fail
        refine (zzNext_at HMT j hj s[q] _ rfl).mono ?_
        rintro e w5 ⟨j2, rfl, HJ2, m2, e5⟩
        have hj2 : j2 < N := HJ2.out.1
        have HY2 : Hid (Rdy w2 n fs b N T ps w5) := by
          have h := HYr.out.drewN m2
          rw [← e5] at h
          exact h
        clear e5
        have HJ3 : Hid (ps j2 = ls (frm n fs) (s.data.toList.take (q + 1))) := by
          show _ = _
          have e1 : s.data.toList.take (q + 1) = s.data.toList.take q ++ [s[q]] := by
            rw [List.take_succ_eq_append_getElem (by simpa using hlt)]; rfl
          rw [HJ2.out.2, HJ.out, e1]
          exact (ls_snoc _ _ _).symm
        clear HJ2
        have HV : Hid (T.mt j2 = lf (frm n fs) (s.extract 0 (q + 1)).data.toList) := by
          show _ = _
          rw [HY2.out.mt.b.mtc j2 hj2, HJ3.out, lf_ls, take_extract]
        have hv : T.mt j2 ≤ 65536 := by
          rw [HV.out]
          have := lf_len (frm n fs) (s.extract 0 (q + 1)).data.toList
          rw [take_extract] at this ⊢
          simp at this
          omega
        have hse : (s.extract 0 (q + 1)).size ≤ 1048576 := by
          simp
          omega
        have HMT2 : Hid (Mt b N T (frm n fs) ps w5) := HY2.out.mt
        have C22 : Hid (∀ k, Calls Try.prog 22 #[.pointer (some ⟨b.B, 0, none⟩), .int .i32 (j2 : Int)] (w5.drewN k) fun e w'' => e = .returned (.int .i32 (T.mt j2 : Int)) ∧ w'' = w5.drewN k) := fun k => matchLen_at HMT2 j2 hj2 _ rfl
        have C23 : Hid (∀ k, Calls Try.prog 23 #[.slice (some ⟨w2.heap.size, 0, none⟩) n n, .string (s.extract 0 (q + 1))] (w5.drewN k) fun e w'' => e = .returned (.int .i64 (T.mt j2 : Int)) ∧ w'' = w5.drewN k) := fun k => by
          refine (lfe_any (some ⟨w2.heap.size, 0, none⟩) n n fs (s.extract 0 (q + 1)) (w5.drewN k) hn1 hse HY2.out.row HM2).mono ?_
          rintro e w'' ⟨he, hw⟩
          exact ⟨by rw [he, HV.out], hw⟩
        generalize T.mt j2 = v at hv C22 C23
        have d2 : decide ((j2 : Int) < 0) = false := decide_eq_false (by omega)
        have d3 : decide ((N : Int) ≤ (j2 : Int)) = false := decide_eq_false (by omega)
        go_wp2_with fail
        go_quiet ((first | (go_at_call 22; refine Calls.quiet_of_same (C22.out _)) | (go_at_call 23; refine Calls.quiet_of_same (C23.out _))))
        go_wp2
        go_roundw
        case rel => exact ⟨q + 1, j2, by go_num, rfl, by omega, hj2, HJ3, HY2.out.drewN _⟩
        case measure => simp [intOf]; omega
      · have HBF : Hid (Below w2.heap.size w2 wr) := HYr.out.bel
        go_wp2
        go_ret
        exact ⟨rfl, HBF.out⟩
  · have d1 : decide ((65536 : Int) < (s.size : Int)) = true := decide_eq_true (by omega)
    go_wp2
    go_ret
    exact ⟨rfl, HB0.out⟩

end Go.Proofs.Qxb6600140a
