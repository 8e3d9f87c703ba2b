/-
  WALKS: ZZNewMatcher (19), runMatcher (26); the head that the three laws share.
-/
import Derived.Test.Qxb6600140aNew
import Derived.Test.Qxb6600140aLeaf3
import Derived.WalkKit
import Derived.WalkSpells
import Derived.BigQuiet
import Derived.ProofKit
import Derived.WalkSmall
namespace Go.Proofs.Qxb6600140a
open Go.RowKit Go.WideShapes Go.Proofs.Qxb6600140a.Plain

theorem zzNew_any (gf o n cf : Nat) (fs : Nat → ByteArray) (F : List Str) (w : World) (hF : Sound F) (hn : F.length = n) (hfm : ∀ t, t < n → fm F t = (fs t).data.toList)
    (htot : tot F n ≤ 1048576) (hcell : ∀ t, t < n → w.cell? ⟨gf, o + t, none⟩ = some (.string (fs t))) (hnb : n ≤ 1048576) (hgf : gf < w.heap.size) :
    Calls Try.prog 19 #[.slice (some ⟨gf, o, none⟩) n cf] w fun e w' => MPost w gf o n fs F e w' := by
  have HX : Hid (Calls Try.prog 31 #[.slice (some ⟨gf, o, none⟩) n cf] w fun e w' => MPost w gf o n fs F e w') := newMatcher_any gf o n cf fs F w hF hn hfm htot hcell hnb hgf
  clear hF hn hfm htot hcell hnb hgf
  go_enter Try.func19, Try.ntmps19
  go_wp2_with fail
  refine HX.out.mono ?_
  rintro e w' ⟨b, N, ps, T, hok, rfl, hM, hB, hN, hbel, hf⟩
  have HP : Hid (MPost w gf o n fs F (.returned (.pointer (some ⟨b.B, 0, none⟩))) w') := ⟨b, N, ps, T, hok, rfl, hM, hB, hN, hbel, hf⟩
  clear hok hM hB hN hbel hf
  go_wp2
  go_ret
  exact HP.out

/-- A matcher that is made, in memory. -/
structure Mt (b : Blk) (N : Nat) (T : Tab) (F : List Str) (ps : Nat → Str) (w : World) : Prop where
  m : MRep b N T w
  b : Bld F N N ps T.lab T.fst T.fl T.mt T.root
  le : N ≤ 1048577

theorem Mt.drewN {b : Blk} {N : Nat} {T : Tab} {F : List Str} {ps : Nat → Str} {w : World} (h : Mt b N T F ps w) (m : Nat) : Mt b N T F ps (w.drewN m) := ⟨h.m.drewN m, h.b, h.le⟩

/-- ZZNext at a matcher that is made. -/
theorem zzNext_at {b : Blk} {N : Nat} {T : Tab} {F : List Str} {ps : Nat → Str} {w : World} (H : Hid (Mt b N T F ps w)) (k : Nat) (hk : k < N) (c : UInt8) (w' : World) (hw : w'.heap = w.heap) :
    Calls Try.prog 21 #[.pointer (some ⟨b.B, 0, none⟩), .int .i32 (k : Int), .int .u8 (c.toNat : Int)] w' fun e w'' => ∃ j : Nat, e = .returned (.int .i32 (j : Int)) ∧ Hid (j < N ∧ ps j = ls F (ps k ++ [c])) ∧ ∃ n, w'' = w'.drewN n :=
  zzNext_any b.B b.g1 b.g2 b.g3 N F N N k ps T.lab T.fst T.fl T.root c w' (H.out.m.nx.of_heap hw) H.out.b.auto H.out.le (Nat.le_refl _) (.inl hk)

set_option maxHeartbeats 1000000 in
theorem runMatcher_any {b : Blk} {N : Nat} {T : Tab} {F : List Str} {ps : Nat → Str} {w : World} (H : Hid (Mt b N T F ps w)) (k : Nat) (hk : k < N) (s : ByteArray) (hs : s.size ≤ maxLen) (hN : N ≤ 1048577) (w0 : World) (hw : w0.heap = w.heap) :
    Calls Try.prog 26 #[.pointer (some ⟨b.B, 0, none⟩), .int .i32 (k : Int), .string s] w0 fun e w' => ∃ j : Nat, e = .returned (.int .i32 (j : Int)) ∧ Hid (j < N ∧ ps j = ls F (ps k ++ s.data.toList)) ∧ ∃ n, w' = w0.drewN n := by
  unfold maxLen at hs
  have hc : ∀ a, w0.cell? a = w.cell? a := fun a => by unfold World.cell?; rw [hw]
  have x1 : w0.cell? ⟨b.B, 256, none⟩ = some (.slice (some ⟨b.g1, 0, none⟩) N N) := by rw [hc]; exact H.out.m.nx.s1
  have HW : Hid (w0.heap = w.heap) := hw
  have H0 : Hid (ps k = ls F (ps k ++ s.data.toList.take 0)) := by
    show _ = _
    rw [List.take_zero, List.append_nil, ls_pre F _ (H.out.b.pre k hk)]
  clear hc hw
  go_enter Try.func26, Try.ntmps26
  go_wp2_with (go_at_call 20; refine (zzNodes_any b.B b.g1 N _ x1).mono ?_; rintro e w' ⟨rfl, rfl⟩)
  go_loopw [1, 8] (fun v i wr => ∃ q j : Nat, i = .int .i64 (q : Int) ∧ v = .int .i32 (j : Int) ∧ q ≤ s.size ∧ j < N ∧ Hid (ps j = ls F (ps k ++ s.data.toList.take q)) ∧ Hid (∃ m, wr = w'.drewN m)) (fun _ i _ => s.size - (intOf i).toNat)
  case atStart => exact ⟨0, k, rfl, rfl, Nat.zero_le _, hk, H0, 0, rfl⟩
  case round =>
    obtain ⟨q, j, rfl, rfl, hq, hj, HJ, m, rfl⟩ := hrel
    by_cases hlt : q < s.size
    · go_wp2_with fail
      refine (zzNext_at H j hj s[q] _ (by exact HW.out)).mono ?_
      rintro e w2 ⟨j2, rfl, HJ2, m2, rfl⟩
      have hj2 : j2 < N := HJ2.out.1
      have HJ3 : Hid (ps j2 = ls F (ps k ++ s.data.toList.take (q + 1))) := by
        show _ = _
        have e1 : s.data.toList.take (q + 1) = s.data.toList.take q ++ [s[q]] := by
          rw [List.take_succ_eq_append_getElem (by simpa using hlt)]; rfl
        rw [HJ2.out.2, HJ.out, e1, ← List.append_assoc]
        exact (ls_snoc F _ _).symm
      clear HJ2
      go_wp2
      go_roundw
      case rel => exact ⟨q + 1, j2, by go_num, rfl, by omega, hj2, HJ3, _, rfl⟩
      case measure => simp [intOf]; omega
    · have HZ : Hid (j < N ∧ ps j = ls F (ps k ++ s.data.toList)) := by
        refine ⟨hj, ?_⟩
        rw [HJ.out, List.take_of_length_le (by simp; omega)]
      go_wp2
      go_ret
      exact ⟨j, rfl, HZ, _, rfl⟩

end Go.Proofs.Qxb6600140a
