/-
  WALKS: copyForms (18), longestFormEnding (23).
-/
import Derived.Test.Qxb6600140aLeaf2
import Derived.Test.Qxb6600140aMade
import Derived.WalkKit
import Derived.WalkSpells
import Derived.BigQuiet
import Derived.ProofKit
import Derived.Deep.OwnRows
namespace Go.Proofs.Qxb6600140a
open Go.RowKit Go.WideShapes Go.Proofs.Qxb6600140a.Plain

theorem info9 : (Try.prog.info? 9).map (fun i => (i.zero, i.size, i.bytes)) = some (some (.string ByteArray.empty), 1, 16) := by kernel_rfl

/-- The copy: g its block; the first k strings are there. -/
structure Cop (w : World) (n : Nat) (fs : Nat → ByteArray) (k : Nat) (wr : World) : Prop where
  some : ∀ t, t < n → ∃ v, wr.cell? ⟨w.heap.size, t, none⟩ = .some v
  done : ∀ t, t < k → wr.cell? ⟨w.heap.size, t, none⟩ = .some (.string (fs t))
  free : ∀ t, wr.frozen? ⟨w.heap.size, t, none⟩ = false
  bel : Below w.heap.size w wr
  lt : w.heap.size < wr.heap.size

theorem Cop.start (w : World) (n : Nat) (fs : Nat → ByteArray) : Cop w n fs 0 (w.alloc (.cells (madeCells #[.string ByteArray.empty] n) 9)) where
  some := fun t ht => ⟨_, by rw [World.cell?_alloc_new]; exact made_at _ _ _ ht⟩
  done := fun t ht => by omega
  free := fun t => by simp only [World.frozen?, heap_alloc_new]; simp
  bel := (Below.refl _ _).alloc (Nat.le_refl _) _
  lt := by simp

theorem Cop.next {w wr : World} {n k : Nat} {fs : Nat → ByteArray} (h : Cop w n fs k wr) (hk : k < n) : Cop w n fs (k + 1) (wr.setCell ⟨w.heap.size, k, none⟩ (.string (fs k))) where
  some := fun t ht => by
    by_cases e : t = k
    · obtain ⟨v, hv⟩ := h.some k hk
      subst e
      exact ⟨_, cell_set_at _ _ _ _ _ hv⟩
    · rw [cell_set_ne _ _ _ _ _ (.inr e)]
      exact h.some t ht
  done := fun t ht => by
    by_cases e : t = k
    · obtain ⟨v, hv⟩ := h.some k hk
      subst e
      exact cell_set_at _ _ _ _ _ hv
    · rw [cell_set_ne _ _ _ _ _ (.inr e)]
      exact h.done t (by omega)
  free := fun t => by rw [World.frozen?_setCell]; exact h.free t
  bel := h.bel.setCell (Nat.le_refl _) _
  lt := by simpa using h.lt

set_option maxHeartbeats 1000000 in
theorem copyForms_any (gf o n cap : Nat) (fs : Nat → ByteArray) (w : World) (hn : n ≤ 1048576) (hgf : gf < w.heap.size) (HC : Hid (∀ t, t < n → w.cell? ⟨gf, o + t, none⟩ = some (.string (fs t)))) :
    Calls Try.prog 18 #[.slice (some ⟨gf, o, none⟩) n cap] w fun e w' => e = .returned (.slice (some ⟨w.heap.size, 0, none⟩) n n) ∧ Cop w n fs n w' := by
  have hnil := fun (w : World) => Lib.run_eql_slice_nil (P := Try.prog) w 26 9 (some ⟨gf, o, none⟩) n cap 0 0 Try.underlying26
  have mk : ∀ w, (Instr.makeSlice 26 (.int .i64 (n : Int)) (.int .i64 (n : Int))).run Try.prog w = .ok (.slice (some ⟨w.heap.size, 0, none⟩) n n) (w.alloc (.cells (madeCells #[.string ByteArray.empty] n) 9)) :=
    fun w => run_make_row' 26 9 (.string ByteArray.empty) 16 Try.underlying26 info9 rfl .i64 .i64 n (by omega) (by omega) w
  have HS : Hid (Cop w n fs 0 (w.alloc (.cells (madeCells #[.string ByteArray.empty] n) 9))) := Cop.start w n fs
  go_enter Try.func18, Try.ntmps18
  go_wp2
  go_loopw [4] (fun i wr => ∃ k : Nat, k ≤ n ∧ i = .int .i64 (k : Int) ∧ Hid (Cop w n fs k wr)) (fun i _ => n - (intOf i).toNat)
  case atStart => exact ⟨0, Nat.zero_le _, rfl, HS⟩
  case round =>
    obtain ⟨k, hk, rfl, HK⟩ := hrel
    by_cases hlt : k < n
    · obtain ⟨v, hv⟩ := HK.out.some k hlt
      have x1 : wr.cell? ⟨gf, o + k, none⟩ = some (.string (fs k)) := by rw [HK.out.bel.cell (by exact hgf)]; exact HC.out k hlt
      have x2 := HK.out.free k
      have HK' : Hid (Cop w n fs (k + 1) (wr.setCell ⟨w.heap.size, k, none⟩ (.string (fs k)))) := HK.out.next hlt
      go_wp2
      go_roundw
      case rel => exact ⟨k + 1, by omega, by go_num, HK'⟩
      case measure => simp [intOf]; omega
    · have e : k = n := by omega
      have HZ : Hid (Cop w n fs n wr) := by have h := HK.out; rw [e] at h; exact h
      clear e
      go_wp2
      go_ret
      exact ⟨rfl, HZ.out⟩

/-! ### longestFormEnding -/
/-- The longest of the first k forms that p ends with. -/
def be (F : List Str) (p : Str) : Nat → Nat
  | 0 => 0
  | k + 1 => if (fm F k <:+ p) ∧ be F p k < (fm F k).length then (fm F k).length else be F p k

theorem be_le (F : List Str) (p : Str) : ∀ k t, t < k → fm F t <:+ p → (fm F t).length ≤ be F p k
  | k + 1, t, ht, hs => by
    unfold be
    by_cases e : t = k
    · subst e
      split
      · exact Nat.le_refl _
      · rename_i h
        by_cases h2 : be F p t < (fm F t).length
        · exact absurd ⟨hs, h2⟩ h
        · omega
    · have := be_le F p k t (by omega) hs
      split
      · rename_i h; omega
      · exact this
theorem be_ex (F : List Str) (p : Str) : ∀ k, be F p k = 0 ∨ ∃ t, t < k ∧ fm F t <:+ p ∧ (fm F t).length = be F p k
  | 0 => .inl rfl
  | k + 1 => by
    unfold be
    split
    · rename_i h
      exact .inr ⟨k, by omega, h.1, rfl⟩
    · rcases be_ex F p k with e | ⟨t, h1, h2, h3⟩
      · exact .inl e
      · exact .inr ⟨t, by omega, h2, h3⟩
theorem be_lf (F : List Str) (p : Str) : be F p F.length = lf F p := by
  have h1 : be F p F.length ≤ lf F p := by
    rcases be_ex F p F.length with e | ⟨t, a, b, c⟩
    · omega
    · rw [← c]; exact lf_le F p _ (fm_mem F t a) b
  have h2 : lf F p ≤ be F p F.length := by
    rcases lf_ex F p with e | ⟨f, a, b, c⟩
    · omega
    · obtain ⟨t, ht, e⟩ := mem_fm F f a
      rw [← c, ← e]
      exact be_le F p _ t ht (by rw [e]; exact b)
  omega
theorem be_bound (F : List Str) (p : Str) (k : Nat) : be F p k ≤ p.length := by
  rcases be_ex F p k with e | ⟨t, _, b, c⟩
  · omega
  · rw [← c]; exact b.length_le

theorem suf_iff (f p : ByteArray) : f.data.toList <:+ p.data.toList ↔ ((p.extract (p.size - f.size) p.size).toList == f.toList) = true := by
  have lp : p.data.toList.length = p.size := by simp
  have lf' : f.data.toList.length = f.size := by simp
  rw [str_eq, ByteArray.toList_eq, decide_eq_true_eq, Lib.extract_data, List.suffix_iff_eq_drop, lp, lf']
  rw [List.take_of_length_le (by simp)]
  constructor
  · exact fun e => e.symm
  · exact fun e => e.symm

set_option maxHeartbeats 1000000 in
theorem lfe_any (ad : Option Addr) (n cap : Nat) (fs : Nat → ByteArray) (p : ByteArray) (w : World) (hn : n ≤ 1048576) (hp : p.size ≤ 1048576) (HR : Hid (FRow w ad n fs)) (HM : Hid (∀ t, t < n → (fs t).size ≤ 1048576)) :
    Calls Try.prog 23 #[.slice ad n cap, .string p] w fun e w' => e = .returned (.int .i64 ((lf (frm n fs) p.data.toList : Nat) : Int)) ∧ w' = w := by
  go_enter Try.func23, Try.ntmps23
  go_wp2
  go_loop [5, 6] (fun z i => ∃ k q : Nat, k ≤ n ∧ i = .int .i64 (k : Int) ∧ z = .int .i64 (q : Int) ∧ q ≤ 1048576 ∧ Hid (q = be (frm n fs) p.data.toList k)) (fun _ i => n - (intOf i).toNat)
  case atStart => exact ⟨0, 0, Nat.zero_le _, rfl, rfl, by omega, rfl⟩
  case round =>
    obtain ⟨k, q, hk, rfl, rfl, hq, HK⟩ := hrel
    by_cases hlt : k < n
    · obtain ⟨gf, o, rfl, _, hc⟩ := HR.out (by omega)
      have x1 := hc k hlt
      have hmx := HM.out k hlt
      clear hc
      have hfk : fm (frm n fs) k = (fs k).data.toList := frm_fm n fs k hlt
      have hlk : (fs k).data.toList.length = (fs k).size := by simp
      have HB : Hid (be (frm n fs) p.data.toList (k + 1) = if ((fs k).data.toList <:+ p.data.toList) ∧ q < (fs k).size then (fs k).size else q) := by
        show (if (fm (frm n fs) k <:+ p.data.toList) ∧ be (frm n fs) p.data.toList k < (fm (frm n fs) k).length then (fm (frm n fs) k).length else be (frm n fs) p.data.toList k) = _
        rw [← HK.out, hfk, hlk]
      clear hfk hlk
      by_cases h1 : (fs k).size ≤ p.size
      · have g1 : decide (((fs k).size : Int) ≤ (p.size : Int)) = true := decide_eq_true (by omega)
        by_cases h2 : q < (fs k).size
        · have g2 : decide ((q : Int) < ((fs k).size : Int)) = true := decide_eq_true (by omega)
          have hsi := suf_iff (fs k) p
          have hse : p.size - (fs k).size ≤ p.size := by omega
          cases e1 : ((p.extract (p.size - (fs k).size) p.size).toList == (fs k).toList)
          · have HK' : Hid (q = be (frm n fs) p.data.toList (k + 1)) := by
              show _ = _
              rw [HB.out, if_neg]
              rintro ⟨a, _⟩
              rw [hsi, e1] at a
              cases a
            clear hsi
            go_wp2
            go_round
            case rel => exact ⟨k + 1, q, by omega, by go_num, by go_num, by omega, HK'⟩
            case measure => simp [intOf]; omega
          · have HK' : Hid ((fs k).size = be (frm n fs) p.data.toList (k + 1)) := by
              show _ = _
              rw [HB.out, if_pos ⟨hsi.2 e1, h2⟩]
            clear hsi
            go_wp2
            go_round
            case rel => exact ⟨k + 1, (fs k).size, by omega, by go_num, by go_num, by omega, HK'⟩
            case measure => simp [intOf]; omega
        · have g2 : decide ((q : Int) < ((fs k).size : Int)) = false := decide_eq_false (by omega)
          have HK' : Hid (q = be (frm n fs) p.data.toList (k + 1)) := by
            show _ = _
            rw [HB.out, if_neg]
            exact fun a => h2 a.2
          go_wp2
          go_round
          case rel => exact ⟨k + 1, q, by omega, by go_num, by go_num, by omega, HK'⟩
          case measure => simp [intOf]; omega
      · have g1 : decide (((fs k).size : Int) ≤ (p.size : Int)) = false := decide_eq_false (by omega)
        have HK' : Hid (q = be (frm n fs) p.data.toList (k + 1)) := by
          show _ = _
          rw [HB.out, if_neg]
          rintro ⟨a, _⟩
          have := a.length_le
          simp at this
          omega
        go_wp2
        go_round
        case rel => exact ⟨k + 1, q, by omega, by go_num, by go_num, by omega, HK'⟩
        case measure => simp [intOf]; omega
    · have HZ : Hid (q = lf (frm n fs) p.data.toList) := by
        have e : k = n := by omega
        have := HK.out
        rw [e] at this
        have e2 := be_lf (frm n fs) p.data.toList
        rw [frm_len] at e2
        show _ = _
        rw [this, e2]
      go_wp2
      go_ret
      exact ⟨ret_int (by rw [← HZ.out]), rfl⟩

end Go.Proofs.Qxb6600140a
