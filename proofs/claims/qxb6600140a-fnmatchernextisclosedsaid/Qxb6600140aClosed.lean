/-
  THE WALK of FnMatcherNextIsClosed (8).
-/
import Derived.Test.Qxb6600140aFinds
import Derived.WalkKit
import Derived.WalkSpells
import Derived.BigQuiet
import Derived.ProofKit
import Derived.WalkSmall
namespace Go.Proofs.Qxb6600140a
open Go.RowKit Go.WideShapes Go.Proofs.Qxb6600140a.Plain

/-- ZZNext at a byte that is a number below 256. -/
theorem zzNext_nat {b : Blk} {N : Nat} {T : Tab} {F : List Str} {ps : Nat → Str} {w : World} (H : Hid (Mt b N T F ps w)) (k : Nat) (hk : k < N) (c : Nat) (hc : c < 256) :
    Calls Try.prog 21 #[.pointer (some ⟨b.B, 0, none⟩), .int .i32 (k : Int), .int .u8 (c : Int)] w fun e w'' => ∃ j : Nat, e = .returned (.int .i32 (j : Int)) ∧ Hid (j < N ∧ ps j = ls F (ps k ++ [UInt8.ofNat c])) ∧ ∃ n, w'' = w.drewN n := by
  have h := zzNext_at H k hk (UInt8.ofNat c) w rfl
  have e : (UInt8.ofNat c).toNat = c := by simp; omega
  rw [e] at h
  exact h

/-- ZZLabel at a matcher that is made. -/
theorem label_at {b : Blk} {N : Nat} {T : Tab} {F : List Str} {ps : Nat → Str} {w : World} (H : Hid (Mt b N T F ps w)) (k j : Nat) (hj : j < N) (h0 : j ≠ 0) (c : Nat) (hc : c < 256) (hs : ps j = ls F (ps k ++ [UInt8.ofNat c])) :
    Calls Try.prog 28 #[.pointer (some ⟨b.B, 0, none⟩), .int .i32 (j : Int)] w fun e w'' => e = .returned (.int .u8 (c : Int)) ∧ w'' = w := by
  have h := zzLabel_any b.B b.g1 j N ((T.lab j).toNat : Int) w hj H.out.m.nx.s1 (H.out.m.nx.c1 j hj)
  obtain ⟨q, _, hq⟩ := H.out.b.par j (by omega) hj
  have e1 : T.lab j = UInt8.ofNat c := ls_last F (ps k) (UInt8.ofNat c) (ps q) (T.lab j) (by rw [← hs, hq])
  have e : (UInt8.ofNat c).toNat = c := by simp; omega
  rw [e1, e] at h
  exact h

set_option maxRecDepth 100000 in
set_option maxHeartbeats 4000000 in
theorem closed_any (ad : Option Addr) (n cap : Nat) (fs : Nat → ByteArray) (w : World) (hn : n ≤ maxLen) (HR : Hid (FRow w ad n fs)) (HM : Hid (∀ i, i < n → (fs i).size ≤ maxLen)) :
    Calls Try.prog 8 #[.slice ad n cap] w fun e w' => LawOk w e w' := by
  have HB0 : Hid (Below w.heap.size w w) := Below.refl _ _
  have C1 := zz27_any ad n cap fs w hn HR HM
  unfold maxLen at hn
  go_enter Try.func8, Try.ntmps8
  go_wp2_with fail
  refine C1.mono ?_
  rintro e w' ⟨b1, rfl, rfl, HZ⟩
  cases b1
  · go_wp2
    go_ret
    exact ⟨rfl, HB0.out⟩
  obtain ⟨hn1, HM1⟩ := HZ.out rfl
  have HM2 : Hid (∀ i, i < n → (fs i).size ≤ 1048576) := HM1
  clear HM1 HZ C1
  go_wp2_with fail
  refine (formsFit_any ad n cap 0 4096 fs _ hn1 (by omega) (by omega) HR HM2).mono ?_
  rintro e w2 ⟨b2, rfl, rfl, HF⟩
  cases b2
  · go_wp2
    go_ret
    exact ⟨rfl, HB0.out⟩
  have HT : Hid (tot (frm n fs) n ≤ 1048576) := by
    have := HF.out rfl
    show _ ≤ _
    omega
  clear HF
  go_wp2_with fail
  refine (formsSound_any ad n cap fs _ hn1 HR HM).mono ?_
  rintro e w3 ⟨b3, rfl, ⟨m, rfl⟩, HS⟩
  have HB1 : Hid (Below w2.heap.size w2 (w2.drewN m)) := below_drewN HB0.out m
  cases b3
  · go_wp2
    go_ret
    exact ⟨rfl, HB1.out⟩
  have HS1 : Hid (Sound (frm n fs)) := HS.out rfl
  clear HS
  go_wp2_with fail
  refine (copy_at ad n cap m fs w2 hn1 HR HS1).mono ?_
  rintro e wc ⟨rfl, HC⟩
  go_wp2_with fail
  refine (new_at w2 wc n fs hn1 HC HS1 HT).mono ?_
  rintro e wm ⟨b, N, T, ps, rfl, HY⟩
  clear HC
  have hN := HY.out.mt.le
  have x1 : wm.cell? ⟨b.B, 256, none⟩ = some (.slice (some ⟨b.g1, 0, none⟩) N N) := HY.out.mt.m.nx.s1
  have HR2 : Hid (FRow wm (some ⟨w2.heap.size, 0, none⟩) n fs) := HY.out.row
  go_wp2_with fail
  refine (zzNodes_any b.B b.g1 N _ x1).mono ?_
  rintro e wn ⟨rfl, rfl⟩
  go_wp2_with fail
  refine (longestForm_any (some ⟨w2.heap.size, 0, none⟩) n n fs _ hn1 HR2 HM2).mono ?_
  rintro e wl ⟨lg, rfl, rfl, HQ⟩
  have hlg : lg ≤ 1048576 := HQ.out.1
  have HMX : Hid (maxF (frm n fs) ≤ lg) := maxF_frm n fs lg HQ.out.2
  clear HQ
  go_wp2_with fail
  go_loopw [6] (fun i wr => ∃ k : Nat, k ≤ N ∧ i = .int .i64 (k : Int) ∧ Hid (Rdy w2 n fs b N T ps wr)) (fun i _ => N - (intOf i).toNat)
  case atStart => exact ⟨0, Nat.zero_le _, rfl, HY⟩
  case round =>
    obtain ⟨k, hk, rfl, HYk⟩ := hrel
    by_cases hlt : k < N
    · go_wp2_with fail
      go_loopw [7] (fun i wr => ∃ c : Nat, c ≤ 256 ∧ i = .int .i64 (c : Int) ∧ Hid (Rdy w2 n fs b N T ps wr)) (fun i _ => 256 - (intOf i).toNat)
      case atStart => exact ⟨0, Nat.zero_le _, rfl, HYk⟩
      case round =>
        obtain ⟨c, hc, rfl, HYc⟩ := hrel
        by_cases hclt : c < 256
        · have HMT : Hid (Mt b N T (frm n fs) ps wr) := HYc.out.mt
          go_wp2_with fail
          refine (zzNext_nat HMT k hlt c hclt).mono ?_
          rintro e w5 ⟨j2, rfl, HJ2, m2, e5⟩
          have hj2 : j2 < N := HJ2.out.1
          have HY2 : Hid (Rdy w2 n fs b N T ps w5) := by
            have h := HYc.out.drewN m2
            rw [← e5] at h
            exact h
          clear e5
          have HMT2 : Hid (Mt b N T (frm n fs) ps w5) := HY2.out.mt
          have hv : T.mt j2 ≤ lg := by
            rw [HMT2.out.b.mtc j2 hj2]
            exact Nat.le_trans (lf_maxF _ _) HMX.out
          have C22 : Hid (Calls Try.prog 22 #[.pointer (some ⟨b.B, 0, none⟩), .int .i32 (j2 : Int)] w5 fun e w'' => e = .returned (.int .i32 (T.mt j2 : Int)) ∧ w'' = w5) := matchLen_at HMT2 j2 hj2 _ rfl
          generalize T.mt j2 = v at hv C22
          have d2 : decide ((j2 : Int) < 0) = false := decide_eq_false (by omega)
          have d3 : decide ((N : Int) ≤ (j2 : Int)) = false := decide_eq_false (by omega)
          have d4 : decide ((v : Int) < 0) = false := decide_eq_false (by omega)
          have d5 : decide ((lg : Int) < (v : Int)) = false := decide_eq_false (by omega)
          have C28 : Hid (j2 ≠ 0 → Calls Try.prog 28 #[.pointer (some ⟨b.B, 0, none⟩), .int .i32 (j2 : Int)] w5 fun e w'' => e = .returned (.int .u8 (c : Int)) ∧ w'' = w5) := fun hz => label_at HMT2 k j2 hj2 hz c hclt HJ2.out.2
          have C22z : Hid (j2 = 0 → Calls Try.prog 22 #[.pointer (some ⟨b.B, 0, none⟩), .int .i32 0] w5 fun e w'' => e = .returned (.int .i32 (v : Int)) ∧ w'' = w5) := fun hz => by
            have h := C22.out
            rw [hz] at h
            exact h
          clear HJ2
          go_wp2_with fail
          · refine (C22z.out (by assumption)).mono ?_
            rintro e w6 ⟨rfl, rfl⟩
            go_wp2
            go_roundw
            case rel => exact ⟨c + 1, by omega, by go_num, HY2⟩
            case measure => simp [intOf]; omega
          · refine (C28.out (by assumption)).mono ?_
            rintro e w6 ⟨rfl, rfl⟩
            go_wp2_with fail
            refine C22.out.mono ?_
            rintro e w7 ⟨rfl, rfl⟩
            go_wp2
            go_roundw
            case rel => exact ⟨c + 1, by omega, by go_num, HY2⟩
            case measure => simp [intOf]; omega
        · go_wp2
          go_roundw
          case rel => exact ⟨k + 1, by omega, by go_num, HYc⟩
          case measure => simp [intOf]; omega
    · have HBF : Hid (Below w2.heap.size w2 wr) := HYk.out.bel
      go_wp2
      go_ret
      exact ⟨rfl, HBF.out⟩

end Go.Proofs.Qxb6600140a
