/-
  THE WALK of FnMatcherStateForgetsOlderText (7).
-/
import Derived.Test.Qxb6600140aHead
import Derived.WalkKit
import Derived.WalkSpells
import Derived.BigQuiet
import Derived.ProofKit
import Derived.WalkSmall
namespace Go.Proofs.Qxb6600140a
open Go.RowKit Go.WideShapes Go.Proofs.Qxb6600140a.Plain

set_option maxHeartbeats 2000000 in
theorem forgets_any (ad : Option Addr) (n cap : Nat) (fs : Nat → ByteArray) (u t : ByteArray) (w : World) (hn : n ≤ maxLen) (hu : u.size ≤ maxLen) (ht : t.size ≤ maxLen) (HR : Hid (FRow w ad n fs)) (HM : Hid (∀ i, i < n → (fs i).size ≤ maxLen)) :
    Calls Try.prog 7 #[.slice ad n cap, .string u, .string t] w fun e w' => LawOk w e w' := by
  have HU : Hid (u.size ≤ maxLen) := hu
  have HV : Hid (t.size ≤ maxLen) := ht
  have HB0 : Hid (Below w.heap.size w w) := Below.refl _ _
  have C1 := zz24_any ad n cap fs u t w hn hu ht HR HM
  unfold maxLen at hn hu ht
  go_enter Try.func7, Try.ntmps7
  go_wp2_with fail
  refine C1.mono ?_
  rintro e w' ⟨b1, rfl, rfl, HZ⟩
  cases b1
  · go_wp2
    go_ret
    exact ⟨rfl, HB0.out⟩
  obtain ⟨hn1, HM1⟩ := HZ.out rfl
  have HM2 : Hid (∀ i, i < n → (fs i).size ≤ 1048576) := HM1
  clear HM1 HZ
  by_cases h1 : u.size ≤ 1048576
  · have d1 : decide ((1048576 : Int) < (u.size : Int)) = false := decide_eq_false (by omega)
    by_cases h2 : t.size ≤ 1048576
    · have d2 : decide ((1048576 : Int) < (t.size : Int)) = false := decide_eq_false (by omega)
      have hx : u.size + t.size ≤ 4194304 := by omega
      go_wp2_with fail
      refine (formsFit_any ad n cap (u.size + t.size) 1048576 fs _ hn1 hx (by omega) HR HM2).mono ?_
      rintro e w2 ⟨b2, rfl, rfl, HF⟩
      cases b2
      · go_wp2
        go_ret
        exact ⟨rfl, HB0.out⟩
      have HT : Hid (tot (frm n fs) n ≤ 1048576) := by
        have := HF.out rfl
        show _ ≤ _
        omega
      clear HF
      go_wp2_with fail
      refine (formsSound_any ad n cap fs _ hn1 HR HM).mono ?_
      rintro e w3 ⟨b3, rfl, ⟨m, rfl⟩, HS⟩
      have HB1 : Hid (Below w2.heap.size w2 (w2.drewN m)) := below_drewN HB0.out m
      cases b3
      · go_wp2
        go_ret
        exact ⟨rfl, HB1.out⟩
      have HS1 : Hid (Sound (frm n fs)) := HS.out rfl
      have HR1 : Hid (FRow (w2.drewN m) ad n fs) := HR.out
      clear HS
      go_wp2_with fail
      refine (longestForm_any ad n cap fs (w2.drewN m) hn1 HR1 HM2).mono ?_
      rintro e w4 ⟨q, rfl, rfl, HQ⟩
      by_cases h3 : q ≤ t.size
      · have d3 : decide ((t.size : Int) < (q : Int)) = false := decide_eq_false (by omega)
        have HMX : Hid (maxF (frm n fs) ≤ t.data.toList.length) := by
          have := maxF_frm n fs q HQ.out.2
          show _ ≤ _
          simp
          omega
        clear HQ
        go_wp2_with fail
        refine (copy_at ad n cap m fs w2 hn1 HR HS1).mono ?_
        rintro e wc ⟨rfl, HC⟩
        go_wp2_with fail
        refine (new_at w2 wc n fs hn1 HC HS1 HT).mono ?_
        rintro e wm ⟨b, N, T, ps, rfl, HY⟩
        clear HC
        have HMT : Hid (Mt b N T (frm n fs) ps wm) := HY.out.mt
        have hN := HMT.out.le
        have h0 : 0 < N := HMT.out.b.pos
        go_wp2_with fail
        refine (runMatcher_any HMT 0 h0 u HU.out hN _ rfl).mono ?_
        rintro e w5 ⟨j1, rfl, HJ1, m1, rfl⟩
        have hj1 : j1 < N := HJ1.out.1
        have d4 : decide ((j1 : Int) < 0) = false := decide_eq_false (by omega)
        go_wp2_with fail
        refine (runMatcher_any HMT j1 hj1 t HV.out hN (wm.drewN m1) rfl).mono ?_
        rintro e w6 ⟨j2, rfl, HJ2, m2, rfl⟩
        have hj2 : j2 < N := HJ2.out.1
        have d5 : decide ((j2 : Int) < 0) = false := decide_eq_false (by omega)
        go_wp2_with fail
        refine (runMatcher_any HMT 0 h0 t HV.out hN (wm.drewN (m1 + m2)) rfl).mono ?_
        rintro e w7 ⟨j3, rfl, HJ3, m3, rfl⟩
        have hj3 : j3 < N := HJ3.out.1
        have d6 : decide ((j3 : Int) < 0) = false := decide_eq_false (by omega)
        have HE : Hid (j2 = j3) := by
          refine HMT.out.inj j2 j3 hj2 hj3 ?_
          have z := HMT.out.b.zero
          rw [HJ2.out.2, HJ1.out.2, HJ3.out.2, z, List.nil_append, List.nil_append, ← ls_append]
          exact ls_forget _ _ HMX.out _
        have HE2 : Hid (((j2 : Int) == (j3 : Int)) = true) := by
          show _ = _
          rw [HE.out]; simp
        clear HJ1 HJ2 HJ3 HE HMX
        go_wp2
        go_ret
        exact ⟨by rw [HE2.out]; rfl, below_drewN HY.out.bel _⟩
      · have d3 : decide ((t.size : Int) < (q : Int)) = true := decide_eq_true (by omega)
        go_wp2
        go_ret
        exact ⟨rfl, HB1.out⟩
    · have d2 : decide ((1048576 : Int) < (t.size : Int)) = true := decide_eq_true (by omega)
      go_wp2
      go_ret
      exact ⟨rfl, HB0.out⟩
  · have d1 : decide ((1048576 : Int) < (u.size : Int)) = true := decide_eq_true (by omega)
    go_wp2
    go_ret
    exact ⟨rfl, HB0.out⟩

end Go.Proofs.Qxb6600140a
