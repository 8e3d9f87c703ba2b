/-
  WALK: (*matcher).next (32), ZZNext (21), ZZMatchLen (22), ZZLabel (28), ZZNodes (20).
-/
import Derived.Test.Qxb6600140aRows
import Derived.Test.Qxb6600140aAuto
import Derived.WalkKit
import Derived.WalkSpells
import Derived.BigQuiet
import Derived.ProofKit
namespace Go.Proofs.Qxb6600140a
open Go.RowKit Go.Proofs.Qxb6600140a.Plain

/-- The matcher's memory, as 'next' reads it. -/
structure NRep (B g1 g2 g3 N : Nat) (lab : Nat → UInt8) (fst fl root : Nat → Nat) (w : World) : Prop where
  s1 : w.cell? ⟨B, 256, none⟩ = some (.slice (some ⟨g1, 0, none⟩) N N)
  s2 : w.cell? ⟨B, 257, none⟩ = some (.slice (some ⟨g2, 0, none⟩) (N + 1) (N + 1))
  s3 : w.cell? ⟨B, 258, none⟩ = some (.slice (some ⟨g3, 0, none⟩) N N)
  c1 : ∀ j, j < N → w.cell? ⟨g1, j, none⟩ = some (.int .u8 ((lab j).toNat : Int))
  c2 : ∀ j, j < N + 1 → w.cell? ⟨g2, j, none⟩ = some (.int .i32 (fst j : Int))
  c3 : ∀ j, j < N → w.cell? ⟨g3, j, none⟩ = some (.int .i32 (fl j : Int))
  c0 : ∀ j, j < 256 → w.cell? ⟨B, j, none⟩ = some (.int .i32 (root j : Int))

set_option maxHeartbeats 1000000 in
theorem next_any (B g1 g2 g3 N : Nat) (F : List Str) (made E k : Nat) (ps : Nat → Str) (lab : Nat → UInt8) (fst fl root : Nat → Nat) (c : UInt8) (w : World) (hR : NRep B g1 g2 g3 N lab fst fl root w)
    (hA : Auto F made E ps lab fst fl root) (hN : N ≤ 1048577) (hm : made ≤ N) (hk : k < E ∨ k = 0) :
    Calls Try.prog 32 #[.pointer (some ⟨B, 0, none⟩), .int .i32 (k : Int), .int .u8 (c.toNat : Int)] w fun e w' => ∃ j : Nat, e = .returned (.int .i32 (j : Int)) ∧ Hid (j < made ∧ ps j = ls F (ps k ++ [c])) ∧ ∃ n, w' = w.drewN n := by
  have HR : Hid (NRep B g1 g2 g3 N lab fst fl root w) := hR
  have HA : Hid (Auto F made E ps lab fst fl root) := hA
  have r1 := hR.s1
  have r2 := hR.s2
  have r3 := hR.s3
  clear hR hA
  have hcc : (c.toNat : Int) < 256 := by have := c.toNat_lt; omega
  go_enter Try.func32, Try.ntmps32
  go_wp2
  go_loopw [1] (fun i wr => ∃ q : Nat, i = .int .i32 (q : Int) ∧ (q < E ∨ q = 0) ∧ Hid (ls F (ps q ++ [c]) = ls F (ps k ++ [c])) ∧ Hid (∃ n, wr = w.drewN n)) (fun i _ => (intOf i).toNat)
  case atStart => exact ⟨k, rfl, hk, rfl, 0, rfl⟩
  case round =>
    obtain ⟨q, rfl, hq, HL, n, rfl⟩ := hrel
    by_cases h0 : q = 0
    · subst h0
      have e0 : (((0 : Nat) : Int) != 0) = false := by simp
      have x0 := HR.out.c0 c.toNat (by omega)
      go_wp2
      go_ret
      have hz := HA.out.atRoot c
      exact ⟨_, rfl, ⟨hz.1, by rw [hz.2]; exact HL⟩, _, rfl⟩
    · have e0 : ((q : Int) != 0) = true := by rw [bne_iff_ne]; omega
      have hqE : q < E := by omega
      have hEm := HA.out.le
      have hq0 : 0 < q := by omega
      have hqN : q < N := by omega
      have y1 := HR.out.c2 q (by omega)
      have y2 := HR.out.c2 (q + 1) (by omega)
      obtain ⟨k1, k2, _⟩ := HA.out.kids q hq0 hqE
      have k3 : fst (q + 1) ≤ N := by omega
      have y3 := HR.out.c3 q hqN
      have HF : Hid (fl q < q) := (HA.out.link q hq0 (by omega)).1
      have HC : Hid (∀ j, j < N → w.cell? ⟨g1, j, none⟩ = some (.int .u8 ((lab j).toNat : Int))) := HR.out.c1
      generalize hlo : fst q = lo at y1 k1
      generalize hhi : fst (q + 1) = hi at y2 k1 k2 k3
      generalize hfl : fl q = f at y3 HF
      have HLO : Hid (fst q = lo) := hlo
      have HHI : Hid (fst (q + 1) = hi) := hhi
      have HFL : Hid (fl q = f) := hfl
      clear hlo hhi hfl
      obtain ⟨d, rfl⟩ : ∃ d, hi = lo + d := ⟨hi - lo, by omega⟩
      have HM : Hid (∀ t, (∀ j, lo ≤ j → j < lo + t → (lab j).toNat < c.toNat) → (d ≤ t ∨ (t < d ∧ c.toNat < (lab (lo + t)).toNat)) → ls F (ps f ++ [c]) = ls F (ps k ++ [c])) := by
        intro t h1 h2
        have hl := HLO.out
        have hh := HHI.out
        have hf := HFL.out
        have := HA.out.miss hq0 hqE (t := t) (c := c) (by rw [hl]; exact h1) (by rw [hl, hh]; rcases h2 with h2 | h2; exact .inl (by omega); exact .inr ⟨by omega, h2.2⟩)
        rw [hf] at this
        rw [← this]
        exact HL
      have HH : Hid (∀ t, t < d → lab (lo + t) = c → lo + t < made ∧ ps (lo + t) = ls F (ps k ++ [c])) := by
        intro t h1 h2
        have hl := HLO.out
        have hh := HHI.out
        have := HA.out.hit hq0 hqE (j := lo + t) (c := c) (by rw [hl]; omega) (by rw [hh]; omega) h2
        exact ⟨this.1, this.2.trans HL.out⟩
      have hfE : f < E := by have := HF.out; omega
      have hfN : f < N := by omega
      by_cases hlN : lo < N
      · go_wp2
        go_quiet (fail)
        go_wp2
        go_loop [36] (fun i => ∃ t : Nat, i = .int .i64 (t : Int) ∧ t ≤ d ∧ Hid (∀ j, lo ≤ j → j < lo + t → (lab j).toNat < c.toNat)) (fun i => d - (intOf i).toNat)
        case atStart => exact ⟨0, rfl, Nat.zero_le _, fun j a b => by omega⟩
        case round =>
          obtain ⟨t, rfl, ht, HT⟩ := hrel
          by_cases htd : t < d
          · have z1 := HC.out (lo + t) (by omega)
            generalize hlt : lab (lo + t) = lt at z1
            have HLT : Hid (lab (lo + t) = lt) := hlt
            clear hlt
            by_cases e1 : lt = c
            · have b1 : ((lt.toNat : Int) == (c.toNat : Int)) = true := by rw [e1]; simp
              have hjm := HH.out t htd (HLT.out.trans e1)
              have HJ : Hid (lo + t < made ∧ ps (lo + t) = ls F (ps k ++ [c])) := hjm
              have hjm1 : lo + t < made := hjm.1
              clear hjm e1
              go_wp2
              go_ret
              exact ⟨lo + t, by go_num, HJ, _, rfl⟩
            · have e2 : lt.toNat ≠ c.toNat := fun z => e1 (UInt8.toNat_inj.1 z)
              have b1 : ((lt.toNat : Int) == (c.toNat : Int)) = false := beq_eq_false_iff_ne.2 (by omega)
              by_cases e3 : c.toNat < lt.toNat
              · have HG : Hid (ls F (ps f ++ [c]) = ls F (ps k ++ [c])) := HM.out t HT.out (.inr ⟨htd, by rw [HLT.out]; exact e3⟩)
                clear e1 e2
                go_wp2
                go_roundw
                case rel => exact ⟨f, by go_num, .inl hfE, HG, _, rfl⟩
                case measure => have := HF.out; simp [intOf]; omega
              · have HT' : Hid (∀ j, lo ≤ j → j < lo + (t + 1) → (lab j).toNat < c.toNat) := by
                  intro j a b
                  by_cases hj : j = lo + t
                  · rw [hj, HLT.out]; omega
                  · exact HT.out j a (by omega)
                clear e1
                go_wp2
                go_round
                case rel => exact ⟨t + 1, by go_num, by omega, HT'⟩
                case measure => simp [intOf]; omega
          · have HG : Hid (ls F (ps f ++ [c]) = ls F (ps k ++ [c])) := HM.out t HT.out (.inl (by omega))
            go_wp2
            go_roundw
            case rel => exact ⟨f, by go_num, .inl hfE, HG, _, rfl⟩
            case measure => have := HF.out; simp [intOf]; omega
      · have hd0 : d = 0 := by omega
        subst hd0
        have HG : Hid (ls F (ps f ++ [c]) = ls F (ps k ++ [c])) := HM.out 0 (fun j a b => by omega) (.inl (by omega))
        have hlN' : lo = N := by omega
        go_wp2
        go_quiet (fail)
        go_wp2
        refine wp_loop_rounds 1 ?_
        rw [rounds_succ]
        go_wp2
        go_roundw
        case rel => exact ⟨f, by go_num, .inl hfE, HG, _, rfl⟩
        case measure => have := HF.out; simp [intOf]; omega

theorem zzNext_any (B g1 g2 g3 N : Nat) (F : List Str) (made E k : Nat) (ps : Nat → Str) (lab : Nat → UInt8) (fst fl root : Nat → Nat) (c : UInt8) (w : World) (hR : NRep B g1 g2 g3 N lab fst fl root w)
    (hA : Auto F made E ps lab fst fl root) (hN : N ≤ 1048577) (hm : made ≤ N) (hk : k < E ∨ k = 0) :
    Calls Try.prog 21 #[.pointer (some ⟨B, 0, none⟩), .int .i32 (k : Int), .int .u8 (c.toNat : Int)] w fun e w' => ∃ j : Nat, e = .returned (.int .i32 (j : Int)) ∧ Hid (j < made ∧ ps j = ls F (ps k ++ [c])) ∧ ∃ n, w' = w.drewN n := by
  have HR : Hid (NRep B g1 g2 g3 N lab fst fl root w) := hR
  have HA : Hid (Auto F made E ps lab fst fl root) := hA
  clear hR hA
  go_enter Try.func21, Try.ntmps21
  go_wp2_with fail
  refine (next_any B g1 g2 g3 N F made E k ps lab fst fl root c _ HR HA hN hm hk).mono ?_
  rintro e w' ⟨j, rfl, HJ, n, rfl⟩
  go_wp2
  go_ret
  exact ⟨j, rfl, HJ, n, rfl⟩

theorem zzMatchLen_any (B g k N m : Nat) (w : World) (hk : k < N) (hB : w.cell? ⟨B, 259, none⟩ = some (.slice (some ⟨g, 0, none⟩) N N)) (hc : w.cell? ⟨g, k, none⟩ = some (.int .i32 (m : Int))) :
    Calls Try.prog 22 #[.pointer (some ⟨B, 0, none⟩), .int .i32 (k : Int)] w fun e w' => e = .returned (.int .i32 (m : Int)) ∧ w' = w := by
  go_enter Try.func22, Try.ntmps22
  go_wp2
  go_ret
  exact ⟨rfl, rfl⟩

theorem zzLabel_any (B g k N : Nat) (m : Int) (w : World) (hk : k < N) (hB : w.cell? ⟨B, 256, none⟩ = some (.slice (some ⟨g, 0, none⟩) N N)) (hc : w.cell? ⟨g, k, none⟩ = some (.int .u8 m)) :
    Calls Try.prog 28 #[.pointer (some ⟨B, 0, none⟩), .int .i32 (k : Int)] w fun e w' => e = .returned (.int .u8 m) ∧ w' = w := by
  go_enter Try.func28, Try.ntmps28
  go_wp2
  go_ret
  exact ⟨rfl, rfl⟩

theorem zzNodes_any (B g N : Nat) (w : World) (hB : w.cell? ⟨B, 256, none⟩ = some (.slice (some ⟨g, 0, none⟩) N N)) :
    Calls Try.prog 20 #[.pointer (some ⟨B, 0, none⟩)] w fun e w' => e = .returned (.int .i64 (N : Int)) ∧ w' = w := by
  go_enter Try.func20, Try.ntmps20
  go_wp2
  go_ret
  exact ⟨rfl, rfl⟩

end Go.Proofs.Qxb6600140a
