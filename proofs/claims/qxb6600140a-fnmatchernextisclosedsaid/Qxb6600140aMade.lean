/-
  newMatcher (31): what its making of the struct and the four rows leaves; the world that its loops hold.
-/
import Derived.Test.Qxb6600140aMem
import Derived.Test.Qxb6600140aShared
import Derived.WalkKit
import Derived.WalkSpells
import Derived.BigQuiet
import Derived.BigRegion
import Derived.ProofKit
import Derived.Deep.OwnRows
import Derived.Deep.DeepCutAuto
import Derived.Deep.CutBlock
import Derived.Deep.RegionHeld3
import Derived.Deep.AppendLies
import Derived.Laws.Tables
namespace Go.Proofs.Qxb6600140a
open Go.RowKit Go.Proofs.Qxb6600140a.Plain

theorem info5 : (Try.prog.info? 5).map (fun i => (i.zero, i.size, i.bytes)) = some (some (.int .u8 0), 1, 1) := by kernel_rfl
theorem info21 : (Try.prog.info? 21).map (fun i => (i.zero, i.size, i.bytes)) = some (some (.int .i32 0), 1, 4) := by kernel_rfl
theorem info51 : (Try.prog.info? 51).map (fun i => (i.zero, i.size, i.bytes)) = some (some (.agg #[.int .i64 0, .int .i64 0]), 2, 16) := by kernel_rfl

def mcells (v1 v2 v3 v4 : Value) : Array Value := (List.replicate 256 (Value.int .i32 0) ++ [v1, v2, v3, v4]).toArray

def zTab : Tab := ⟨fun _ => 0, fun _ => 0, fun _ => 0, fun _ => 0, fun _ => 0⟩
/-- The matcher is made. -/
def Made (w : World) (N : Nat) (p : Value) (wx : World) : Prop :=
  ∃ b : Blk, b.Ok w.heap.size (w.heap.size + 5) ∧ p = .pointer (some ⟨b.B, 0, none⟩) ∧ MRep b N zTab wx ∧ Below w.heap.size w wx ∧ wx.heap.size = w.heap.size + 5

theorem made_at (z : Value) (n j : Nat) (h : j < n) : (madeCells #[z] n)[j]? = some z := by
  unfold madeCells
  rw [Array.getElem?_map, Array.getElem?_eq_getElem (by simpa using h)]
  simp [Nat.mod_one]

set_option maxRecDepth 100000 in
theorem mcells_lo (v1 v2 v3 v4 : Value) (j : Nat) (h : j < 256) : (mcells v1 v2 v3 v4)[j]? = some (Value.int .i32 0) := by
  unfold mcells
  rw [List.getElem?_toArray, List.getElem?_append_left (by rw [List.length_replicate]; exact h), List.getElem?_replicate, if_pos h]

theorem made_mk {w W : World} {N g1 g2 g3 g4 B : Nat}
    (hB : W.heap[B]? = some (.cells (mcells (.slice (some ⟨g1, 0, none⟩) N N) (.slice (some ⟨g2, 0, none⟩) (N + 1) (N + 1)) (.slice (some ⟨g3, 0, none⟩) N N) (.slice (some ⟨g4, 0, none⟩) N N)) 46 (0, 0)))
    (h1 : W.heap[g1]? = some (.cells (madeCells #[.int .u8 0] N) 5 (0, 0))) (h2 : W.heap[g2]? = some (.cells (madeCells #[.int .i32 0] (N + 1)) 21 (0, 0)))
    (h3 : W.heap[g3]? = some (.cells (madeCells #[.int .i32 0] N) 21 (0, 0))) (h4 : W.heap[g4]? = some (.cells (madeCells #[.int .i32 0] N) 21 (0, 0)))
    (hbel : Below w.heap.size w W) (hsz : W.heap.size = w.heap.size + 5) (hok : Blk.Ok ⟨B, g1, g2, g3, g4⟩ w.heap.size (w.heap.size + 5)) : Made w N (.pointer (some ⟨B, 0, none⟩)) W := by
  refine ⟨⟨B, g1, g2, g3, g4⟩, hok, rfl, ?_, hbel, hsz⟩
  exact {
    nx := {
      s1 := by rw [cell_of_row W B 256 _ 46 (0, 0) hB]; rfl
      s2 := by rw [cell_of_row W B 257 _ 46 (0, 0) hB]; rfl
      s3 := by rw [cell_of_row W B 258 _ 46 (0, 0) hB]; rfl
      c1 := fun j hj => by rw [cell_of_row W g1 j _ 5 (0, 0) h1]; exact made_at _ _ _ hj
      c2 := fun j hj => by rw [cell_of_row W g2 j _ 21 (0, 0) h2]; exact made_at _ _ _ hj
      c3 := fun j hj => by rw [cell_of_row W g3 j _ 21 (0, 0) h3]; exact made_at _ _ _ hj
      c0 := fun j hj => by rw [cell_of_row W B j _ 46 (0, 0) hB]; exact mcells_lo _ _ _ _ j hj }
    s4 := by rw [cell_of_row W B 259 _ 46 (0, 0) hB]; rfl
    c4 := fun j hj => by rw [cell_of_row W g4 j _ 21 (0, 0) h4]; exact made_at _ _ _ hj
    f0 := fun j => by simp [World.frozen?, hB]
    f1 := fun j => by simp [World.frozen?, h1]
    f2 := fun j => by simp [World.frozen?, h2]
    f3 := fun j => by simp [World.frozen?, h3]
    f4 := fun j => by simp [World.frozen?, h4] }

theorem ok_of {B g1 g2 g3 g4 h : Nat} (n01 : B ≠ g1) (n02 : B ≠ g2) (n03 : B ≠ g3) (n04 : B ≠ g4) (n12 : g1 ≠ g2) (n13 : g1 ≠ g3) (n14 : g1 ≠ g4) (n23 : g2 ≠ g3) (n24 : g2 ≠ g4) (n34 : g3 ≠ g4)
    (l0 : h ≤ B ∧ B < h + 5) (l1 : h ≤ g1 ∧ g1 < h + 5) (l2 : h ≤ g2 ∧ g2 < h + 5) (l3 : h ≤ g3 ∧ g3 < h + 5) (l4 : h ≤ g4 ∧ g4 < h + 5) : Blk.Ok ⟨B, g1, g2, g3, g4⟩ h (h + 5) :=
  ⟨n01, n02, n03, n04, n12, n13, n14, n23, n24, n34, l0, l1, l2, l3, l4⟩

section
variable (w : World) (m : Nat) (o0 o1 o2 o3 o4 : Obj)
/-- Five new blocks. -/
abbrev five : World := (((((w.drewN m).alloc o0).alloc o1).alloc o2).alloc o3).alloc o4
theorem five_eq : (five w m o0 o1 o2 o3 o4).heap = ((((w.heap.push o0).push o1).push o2).push o3).push o4 := rfl
theorem pget (a : Array Obj) (x : Obj) (i : Nat) (h : i < a.size) : (a.push x)[i]? = a[i]? := by rw [Array.getElem?_push, if_neg (by omega)]
theorem plast (a : Array Obj) (x : Obj) (i : Nat) (h : i = a.size) : (a.push x)[i]? = some x := by rw [Array.getElem?_push, if_pos h]
theorem five0 : (five w m o0 o1 o2 o3 o4).heap[w.heap.size]? = some o0 := by
  rw [five_eq, pget _ _ _ (by simp only [Array.size_push]; omega), pget _ _ _ (by simp only [Array.size_push]; omega), pget _ _ _ (by simp only [Array.size_push]; omega), pget _ _ _ (by simp only [Array.size_push]; omega), plast _ _ _ rfl]
theorem five1 : (five w m o0 o1 o2 o3 o4).heap[w.heap.size + 1]? = some o1 := by
  rw [five_eq, pget _ _ _ (by simp only [Array.size_push]; omega), pget _ _ _ (by simp only [Array.size_push]; omega), pget _ _ _ (by simp only [Array.size_push]; omega), plast _ _ _ (by simp only [Array.size_push])]
theorem five2 : (five w m o0 o1 o2 o3 o4).heap[w.heap.size + 1 + 1]? = some o2 := by
  rw [five_eq, pget _ _ _ (by simp only [Array.size_push]; omega), pget _ _ _ (by simp only [Array.size_push]; omega), plast _ _ _ (by simp only [Array.size_push])]
theorem five3 : (five w m o0 o1 o2 o3 o4).heap[w.heap.size + 1 + 1 + 1]? = some o3 := by
  rw [five_eq, pget _ _ _ (by simp only [Array.size_push]; omega), plast _ _ _ (by simp only [Array.size_push])]
theorem five4 : (five w m o0 o1 o2 o3 o4).heap[w.heap.size + 1 + 1 + 1 + 1]? = some o4 := by
  rw [five_eq, plast _ _ _ (by simp only [Array.size_push])]
theorem five_size : (five w m o0 o1 o2 o3 o4).heap.size = w.heap.size + 5 := by rw [five_eq]; simp
theorem five_below : Below w.heap.size w (five w m o0 o1 o2 o3 o4) := by
  have h0 : Below w.heap.size w (w.drewN m) := ⟨rfl, rfl, rfl, Nat.le_refl _, fun _ _ => rfl⟩
  exact ((((h0.alloc (Nat.le_refl _) o0).alloc (by simp) o1).alloc (by simp; omega) o2).alloc (by simp; omega) o3).alloc (by simp; omega) o4
end

/-! ### The world of the loops -/
def items (l : List (Nat × Nat)) : List Value := l.flatMap (fun x => [.int .i64 (x.1 : Int), .int .i64 (x.2 : Int)])

theorem items_len (l : List (Nat × Nat)) : (items l).length = l.length * 2 := by
  unfold items
  induction l with
  | nil => rfl
  | cons x l ih => simp [ih]; omega

theorem items_snoc (l : List (Nat × Nat)) (x : Nat × Nat) : items (l ++ [x]) = items l ++ [.int .i64 (x.1 : Int), .int .i64 (x.2 : Int)] := by simp [items]

theorem items_at (l : List (Nat × Nat)) (t : Nat) (h : t < l.length) : (items l)[2 * t]? = some (.int .i64 ((l.getD t (0, 0)).1 : Int)) ∧ (items l)[2 * t + 1]? = some (.int .i64 ((l.getD t (0, 0)).2 : Int)) := by
  induction l generalizing t with
  | nil => simp at h
  | cons x l ih =>
    cases t with
    | zero => simp [items]
    | succ t =>
      have := ih t (by simpa using h)
      have e : items (x :: l) = [Value.int .i64 (x.1 : Int), .int .i64 (x.2 : Int)] ++ items l := rfl
      rw [e, show 2 * (t + 1) = 2 + 2 * t from by omega, show 2 + 2 * t + 1 = 2 + (2 * t + 1) from by omega]
      rw [List.getElem?_append_right (by simp), List.getElem?_append_right (by simp)]
      simp only [List.length_cons, List.length_nil]
      rw [show 2 + 2 * t - (0 + 1 + 1) = 2 * t from by omega, show 2 + (2 * t + 1) - (0 + 1 + 1) = 2 * t + 1 from by omega]
      simpa using this

structure WR (w0 : World) (gf o n : Nat) (fs : Nat → ByteArray) (b : Blk) (N : Nat) (T : Tab) (vl vb : Value) (lv bw : List (Nat × Nat)) (wr : World) : Prop where
  m : MRep b N T wr
  f : ∀ t, t < n → wr.cell? ⟨gf, o + t, none⟩ = some (.string (fs t))
  l : wr.ownsRow (w0.heap.size + 5) 51 2 vl lv.length (items lv)
  bb : wr.ownsRow (w0.heap.size + 5) 51 2 vb bw.length (items bw)
  ne : vl.ownBlock = none ∨ vl.ownBlock ≠ vb.ownBlock
  bel : Below w0.heap.size w0 wr
  sz : w0.heap.size + 5 ≤ wr.heap.size

variable {w0 wr w' : World} {gf o n : Nat} {fs : Nat → ByteArray} {b : Blk} {N : Nat} {T T' : Tab} {vl vb : Value} {lv bw : List (Nat × Nat)}

theorem WR.drewN (h : WR w0 gf o n fs b N T vl vb lv bw wr) (m : Nat) : WR w0 gf o n fs b N T vl vb lv bw (wr.drewN m) :=
  ⟨h.m.drewN m, h.f, h.l, h.bb, h.ne, ⟨h.bel.os, h.bel.tape, h.bel.output, h.bel.size, h.bel.block⟩, h.sz⟩

theorem frozen_of_block {w w' : World} {k j : Nat} (h : w'.heap[k]? = w.heap[k]?) : w'.frozen? ⟨k, j, none⟩ = w.frozen? ⟨k, j, none⟩ := World.frozen?_of_block (a := ⟨k, j, none⟩) h
theorem cell_of_block {w w' : World} {k j : Nat} (h : w'.heap[k]? = w.heap[k]?) : w'.cell? ⟨k, j, none⟩ = w.cell? ⟨k, j, none⟩ := World.cell?_of_block (a := ⟨k, j, none⟩) h

/-- A step that leaves alone all blocks below base, and the two rows. -/
theorem WR.kept (h : WR w0 gf o n fs b N T vl vb lv bw wr) (hok : b.Ok w0.heap.size (w0.heap.size + 5)) (hgf : gf < w0.heap.size) {row : Option Nat} (hg : wr.grownBy w' row) (hr : ∀ k, row = some k → w0.heap.size + 5 ≤ k)
    (hl : vl.ownBlock = none ∨ vl.ownBlock ≠ row) (hb : vb.ownBlock = none ∨ vb.ownBlock ≠ row) : WR w0 gf o n fs b N T vl vb lv bw w' where
  m := h.m.same hok (fun k j _ h2 => cell_of_block (hg.block k (by have := h.sz; omega) (fun e => by have := hr k e.symm; omega)))
    (fun k j _ h2 => frozen_of_block (hg.block k (by have := h.sz; omega) (fun e => by have := hr k e.symm; omega)))
  f := fun t ht => by
    rw [cell_of_block (hg.block gf (by have := h.sz; omega) (fun e => by have := hr gf e.symm; omega))]
    exact h.f t ht
  l := h.l.kept hg hl
  bb := h.bb.kept hg hb
  ne := h.ne
  bel := h.bel.grown hg (by have := h.sz; omega) (fun k hk => by have := hr k hk; omega)
  sz := by have := h.sz; have := hg.size; omega

theorem WR.alloc (h : WR w0 gf o n fs b N T vl vb lv bw wr) (hok : b.Ok w0.heap.size (w0.heap.size + 5)) (hgf : gf < w0.heap.size) (ob : Obj) : WR w0 gf o n fs b N T vl vb lv bw (wr.alloc ob) :=
  h.kept hok hgf (World.grownBy_alloc wr ob none) (fun k hk => by cases hk) (by cases vl.ownBlock <;> simp) (by cases vb.ownBlock <;> simp)

theorem grown_setCell (w : World) (a : Addr) (v : Value) : w.grownBy (w.setCell a v) (some a.block) :=
  ⟨rfl, rfl, rfl, by simp, fun k _ hk => Below.heap_setCell w a v k (fun e => hk (by rw [e]))⟩

/-- A store into a block of the call's own that is neither row. -/
theorem WR.setOwn (h : WR w0 gf o n fs b N T vl vb lv bw wr) (hok : b.Ok w0.heap.size (w0.heap.size + 5)) (hgf : gf < w0.heap.size) {a : Addr} (ha : w0.heap.size + 5 ≤ a.block) (hl : vl.ownBlock ≠ some a.block) (hb : vb.ownBlock ≠ some a.block) (v : Value) :
    WR w0 gf o n fs b N T vl vb lv bw (wr.setCell a v) :=
  h.kept hok hgf (grown_setCell wr a v) (fun k hk => by cases hk; exact ha) (.inr hl) (.inr hb)

/-- A store into the matcher. -/
theorem WR.setM (h : WR w0 gf o n fs b N T vl vb lv bw wr) (hgf : gf < w0.heap.size) {a : Addr} (ha : w0.heap.size ≤ a.block ∧ a.block < w0.heap.size + 5) {v : Value} (hm : MRep b N T' (wr.setCell a v)) :
    WR w0 gf o n fs b N T' vl vb lv bw (wr.setCell a v) where
  m := hm
  f := fun t ht => by
    rw [cell_set_ne _ _ _ _ _ (.inl (by omega))]
    exact h.f t ht
  l := h.l.kept (grown_setCell wr a v) (by
    cases e : vl.ownBlock with
    | none => exact .inl rfl
    | some k => right; intro z; have := (h.l.lt k e).1; simp at z; omega)
  bb := h.bb.kept (grown_setCell wr a v) (by
    cases e : vb.ownBlock with
    | none => exact .inl rfl
    | some k => right; intro z; have := (h.bb.lt k e).1; simp at z; omega)
  ne := h.ne
  bel := h.bel.setCell ha.1 v
  sz := by have := h.sz; simp; omega

theorem WR.set0 (h : WR w0 gf o n fs b N T vl vb lv bw wr) (hok : b.Ok w0.heap.size (w0.heap.size + 5)) (hgf : gf < w0.heap.size) {i : Nat} (hi : i < 256) (x : Nat) : WR w0 gf o n fs b N { T with root := upd T.root i x } vl vb lv bw (wr.setCell ⟨b.B, i, none⟩ (.int .i32 (x : Int))) :=
  h.setM hgf hok.l0 (h.m.set0 hok hi x)
theorem WR.set1 (h : WR w0 gf o n fs b N T vl vb lv bw wr) (hok : b.Ok w0.heap.size (w0.heap.size + 5)) (hgf : gf < w0.heap.size) {i : Nat} (hi : i < N) (c : UInt8) : WR w0 gf o n fs b N { T with lab := upd T.lab i c } vl vb lv bw (wr.setCell ⟨b.g1, i, none⟩ (.int .u8 (c.toNat : Int))) :=
  h.setM hgf hok.l1 (h.m.set1 hok hi c)
theorem WR.set2 (h : WR w0 gf o n fs b N T vl vb lv bw wr) (hok : b.Ok w0.heap.size (w0.heap.size + 5)) (hgf : gf < w0.heap.size) {i : Nat} (hi : i < N + 1) (x : Nat) : WR w0 gf o n fs b N { T with fst := upd T.fst i x } vl vb lv bw (wr.setCell ⟨b.g2, i, none⟩ (.int .i32 (x : Int))) :=
  h.setM hgf hok.l2 (h.m.set2 hok hi x)
theorem WR.set3 (h : WR w0 gf o n fs b N T vl vb lv bw wr) (hok : b.Ok w0.heap.size (w0.heap.size + 5)) (hgf : gf < w0.heap.size) {i : Nat} (hi : i < N) (x : Nat) : WR w0 gf o n fs b N { T with fl := upd T.fl i x } vl vb lv bw (wr.setCell ⟨b.g3, i, none⟩ (.int .i32 (x : Int))) :=
  h.setM hgf hok.l3 (h.m.set3 hok hi x)
theorem WR.set4 (h : WR w0 gf o n fs b N T vl vb lv bw wr) (hok : b.Ok w0.heap.size (w0.heap.size + 5)) (hgf : gf < w0.heap.size) {i : Nat} (hi : i < N) (x : Nat) : WR w0 gf o n fs b N { T with mt := upd T.mt i x } vl vb lv bw (wr.setCell ⟨b.g4, i, none⟩ (.int .i32 (x : Int))) :=
  h.setM hgf hok.l4 (h.m.set4 hok hi x)

/-- An item of the level. -/
theorem WR.item {g l c : Nat} (h : WR w0 gf o n fs b N T (.slice (some ⟨g, 0, none⟩) l c) vb lv bw wr) {t : Nat} (ht : t < lv.length) :
    wr.cell? ⟨g, t * 2, none⟩ = some (.int .i64 ((lv.getD t (0, 0)).1 : Int)) ∧ wr.cell? ⟨g, t * 2 + 1, none⟩ = some (.int .i64 ((lv.getD t (0, 0)).2 : Int)) := by
  obtain ⟨a1, a2⟩ := items_at lv t ht
  have e1 := h.l.cells (g := g) rfl (2 * t) _ a1
  have e2 := h.l.cells (g := g) rfl (2 * t + 1) _ a2
  have ad : ∀ j, (⟨g, 0, none⟩ : Addr).add j = ⟨g, j, none⟩ := fun j => by unfold Addr.add; split <;> simp_all
  rw [ad, Nat.mul_comm] at e1 e2
  exact ⟨e1, e2⟩

end Go.Proofs.Qxb6600140a
