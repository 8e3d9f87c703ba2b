/-
  newMatcher (31): the relations of its loops.
-/
import Derived.Test.Qxb6600140aMade
import Derived.WalkKit
import Derived.WalkSpells
import Derived.BigQuiet
import Derived.BigRegion
import Derived.ProofKit
import Derived.Deep.OwnRows
import Derived.Deep.DeepCutAuto
import Derived.Deep.CutBlock
import Derived.Deep.RegionHeld3
import Derived.Deep.AppendLies
import Derived.Laws.Tables
namespace Go.Proofs.Qxb6600140a
open Go.RowKit Go.Proofs.Qxb6600140a.Plain

def LvOk (F : List Str) (ps : Nat → Str) (d s : Nat) (l : List (Nat × Nat)) : Prop := ∀ t, t < l.length → Iv F (ps (s + t)) (l.getD t (0, 0)).1 (l.getD t (0, 0)).2 ∧ (ps (s + t)).length = d

/-- The loop over the depths. -/
def R2 (w0 : World) (gf o n : Nat) (fs : Nat → ByteArray) (b : Blk) (N : Nat) (F : List Str) (v7 v8 v9 v10 v11 : Value) (wr : World) : Prop :=
  ∃ (lv : List (Nat × Nat)) (k made d cl : Nat) (al : Option Addr) (ps : Nat → Str) (T : Tab), v9 = .int .i32 (k : Int) ∧ v10 = .int .i32 (made : Int) ∧ v11 = .int .i64 (d : Int) ∧ v7 = .slice al lv.length cl ∧
    WR w0 gf o n fs b N T v7 v8 lv [] wr ∧ Bld F k made ps T.lab (upd T.fst k made) T.fl T.mt T.root ∧ LvOk F ps d k lv ∧ k + lv.length = made

/-- The loop over the nodes of one depth. -/
def R3 (w0 : World) (gf o n : Nat) (fs : Nat → ByteArray) (b : Blk) (N : Nat) (F : List Str) (lv : List (Nat × Nat)) (v7 : Value) (s d : Nat) (v62 v8 v9 v10 : Value) (wr : World) : Prop :=
  ∃ (t made cb : Nat) (ab : Option Addr) (bw : List (Nat × Nat)) (ps : Nat → Str) (T : Tab), v62 = .int .i64 (t : Int) ∧ t ≤ lv.length ∧ v8 = .slice ab bw.length cb ∧ v9 = .int .i32 ((s + t : Nat) : Int) ∧ v10 = .int .i32 (made : Int) ∧
    WR w0 gf o n fs b N T v7 v8 lv bw wr ∧ Bld F (s + t) made ps T.lab (upd T.fst (s + t) made) T.fl T.mt T.root ∧ LvOk F ps d s lv ∧ LvOk F ps (d + 1) (s + lv.length) bw ∧ made = s + lv.length + bw.length

/-- The loop over the children of node k, whose text is p. -/
def R4 (w0 : World) (gf o n : Nat) (fs : Nat → ByteArray) (b : Blk) (N : Nat) (F : List Str) (lv : List (Nat × Nat)) (v7 : Value) (s d k m0 st whi bk : Nat) (p : Str) (v8 v10 v14 : Value) (wr : World) : Prop :=
  ∃ (lo made cb : Nat) (ab : Option Addr) (bw : List (Nat × Nat)) (ps : Nat → Str) (T : Tab), v14 = .int .i64 (lo : Int) ∧ v10 = .int .i32 (made : Int) ∧ v8 = .slice ab bw.length cb ∧ st ≤ lo ∧ lo ≤ whi ∧
    WR w0 gf o n fs b N T v7 v8 lv bw wr ∧ Exp F k m0 made lo whi d ps T.lab T.fst T.fl T.mt T.root ∧ ps k = p ∧ (∀ t u, st ≤ t → t < lo → lo ≤ u → u < whi → (byt F t d).toNat < (byt F u d).toNat) ∧
    wr.cell? ⟨bk, 1, none⟩ = some (.int .i64 (whi : Int)) ∧ v8.ownBlock ≠ some bk ∧ bk < wr.heap.size ∧ LvOk F ps d s lv ∧ LvOk F ps (d + 1) (s + lv.length) bw ∧ made = s + lv.length + bw.length

def MPost (w0 : World) (gf o n : Nat) (fs : Nat → ByteArray) (F : List Str) (e : Ending) (w' : World) : Prop :=
  ∃ (b : Blk) (N : Nat) (ps : Nat → Str) (T : Tab), b.Ok w0.heap.size (w0.heap.size + 5) ∧ e = .returned (.pointer (some ⟨b.B, 0, none⟩)) ∧ MRep b N T w' ∧ Bld F N N ps T.lab T.fst T.fl T.mt T.root ∧
    N ≤ 1048577 ∧ Below w0.heap.size w0 w' ∧ (∀ t, t < n → w'.cell? ⟨gf, o + t, none⟩ = some (.string (fs t)))

theorem lv_row {w0 wr : World} {gf o n : Nat} {fs : Nat → ByteArray} {b : Blk} {N : Nat} {T : Tab} {al : Option Addr} {len cl : Nat} {vb : Value} {lv bw : List (Nat × Nat)} (h : WR w0 gf o n fs b N T (.slice al len cl) vb lv bw wr) (hl : 0 < lv.length) :
    ∃ g, al = some ⟨g, 0, none⟩ ∧ len = lv.length ∧ lv.length ≤ cl ∧ cl ≤ maxLen ∧ w0.heap.size + 5 ≤ g ∧ g < wr.heap.size := by
  rcases h.l.2 with ⟨_, e⟩ | ⟨g, cap, cur, e, hb, hg, h1, h2, _⟩
  · omega
  · injection e with e1 e2 e3
    exact ⟨g, e1, e2, by omega, by omega, hb, (Array.getElem?_eq_some_iff.1 hg).1⟩

theorem row_form {w wr : World} {v : Value} {xs : List Value} {m : Nat} (h : wr.ownsRow (w.heap.size + 5) 51 2 v m xs) : ∃ a c, v = .slice a m c := by
  rcases h.2 with ⟨e, e2⟩ | ⟨g, cap, cur, e, _⟩
  · exact ⟨none, 0, by rw [e, e2]⟩
  · exact ⟨_, _, e⟩

theorem r2_start {w0 wc : World} {gf o n N : Nat} {fs : Nat → ByteArray} {F : List Str} {b : Blk} (hF : Sound F) (hn : F.length = n) (hok : b.Ok w0.heap.size (w0.heap.size + 5)) (hgf : gf < w0.heap.size) (hM : MRep b N zTab wc) (hB : Below w0.heap.size w0 wc) (hz : wc.heap.size = w0.heap.size + 5)
    (hc : ∀ t, t < n → w0.cell? ⟨gf, o + t, none⟩ = some (.string (fs t))) :
    R2 w0 gf o n fs b N F (.slice (some ⟨wc.heap.size, 0, none⟩) 1 1) (.slice none 0 0) (.int .i32 0) (.int .i32 1) (.int .i64 0) (wc.alloc (.cells #[.int .i64 0, .int .i64 (n : Int)] 51)) := by
  have hb1 : (wc.alloc (.cells #[.int .i64 0, .int .i64 (n : Int)] 51)).heap[wc.heap.size]? = some (.cells #[.int .i64 0, .int .i64 (n : Int)] 51 (0, 0)) := heap_alloc_new wc _
  refine ⟨[(0, n)], 0, 1, 0, 1, _, fun _ => [], zTab, rfl, rfl, rfl, rfl, ?_, Bld.start hF _ _, ?_, rfl⟩
  · exact {
      m := hM.same hok (fun k j _ h2 => World.cell?_alloc_lt _ _ _ (by show k < _; omega)) (fun k j _ h2 => World.frozen?_alloc_old _ _ _ (by show k ≠ _; omega))
      f := fun t ht => by
        rw [World.cell?_alloc_lt _ _ _ (by show gf < _; omega), hB.cell (by show gf < _; omega)]
        exact hc t ht
      l := ⟨by simp [items], .inr ⟨wc.heap.size, 1, _, rfl, by omega, hb1, Nat.le_refl _, by unfold maxLen; omega, rfl, rfl⟩⟩
      bb := World.ownsRow_nil _ _ _ _
      ne := .inr (by simp [Value.ownBlock])
      bel := hB.alloc (by omega) _
      sz := by simp; omega }
  · intro t ht
    have : t = 0 := by simpa using ht
    subst this
    refine ⟨⟨by have := hF.some; simp; omega, by simp; omega, fun t ht => ?_⟩, rfl⟩
    simp
    omega

/-- Where the level is empty all is done. -/
theorem r2_end {w0 wr : World} {gf o n N k made : Nat} {fs : Nat → ByteArray} {F : List Str} {b : Blk} {T : Tab} {ps : Nat → Str} {v7 v8 : Value} {lv : List (Nat × Nat)} (hF : Sound F) (hn : F.length = n) (hNc : nc F n = N) (hN : N ≤ 1048577) (hok : b.Ok w0.heap.size (w0.heap.size + 5)) (hgf : gf < w0.heap.size)
    (hW : WR w0 gf o n fs b N T v7 v8 lv [] wr) (hB : Bld F k made ps T.lab (upd T.fst k made) T.fl T.mt T.root) (hk : k = made) :
    made = N ∧ MPost w0 gf o n fs F (.returned (.pointer (some ⟨b.B, 0, none⟩))) (wr.setCell ⟨b.g2, made, none⟩ (.int .i32 (made : Int))) := by
  subst hk
  have e : k = N := by rw [hB.made_eq hF, hn, hNc]
  subst e
  have h2 := hW.set2 hok hgf (i := k) (by omega) k
  exact ⟨rfl, b, k, ps, _, hok, rfl, h2.m, hB, hN, h2.bel, h2.f⟩

theorem WR.swap {w0 wr : World} {gf o n : Nat} {fs : Nat → ByteArray} {b : Blk} {N : Nat} {T : Tab} {g l cl : Nat} {v8 : Value} {lv bw : List (Nat × Nat)} (h : WR w0 gf o n fs b N T (.slice (some ⟨g, 0, none⟩) l cl) v8 lv bw wr) :
    WR w0 gf o n fs b N T v8 (.slice (some ⟨g, 0, none⟩) 0 cl) bw [] wr where
  m := h.m
  f := h.f
  l := h.bb
  bb := by
    rcases h.l.2 with ⟨e, _⟩ | ⟨g', cap, cur, e, hb, hg, h1, h2, h3, _⟩
    · cases e
    · injection e with e1 e2 e3
      injection e1 with e1
      injection e1 with e1
      subst e1
      subst e3
      exact ⟨by simp [items], .inr ⟨g, cl, cur, rfl, hb, hg, Nat.zero_le _, h2, h3, by simp [items]⟩⟩
  ne := by
    right
    rcases h.ne with e | e
    · cases e
    · exact fun z => e z.symm
  bel := h.bel
  sz := h.sz

theorem depth_le {F : List Str} {ps : Nat → Str} {d s n : Nat} {lv : List (Nat × Nat)} (hn : F.length = n) (ht : tot F n ≤ 1048576) (h : LvOk F ps d s lv) (hl : 0 < lv.length) : d ≤ 1048576 := by
  obtain ⟨⟨a, b, c⟩, e⟩ := h 0 hl
  have hp := (c _ (Nat.lt_of_lt_of_le a b)).2 ⟨Nat.le_refl _, a⟩
  have := hp.length_le
  have := len_tot F _ n (by omega : (lv.getD 0 (0, 0)).1 < n)
  omega

/-- Node k's turn begins: its own variable lies in block bk. -/
structure Turn (w0 : World) (gf o n : Nat) (fs : Nat → ByteArray) (b : Blk) (N : Nat) (F : List Str) (lv bw : List (Nat × Nat)) (v7 v8 : Value) (k made lo whi bk : Nat) (ps : Nat → Str) (T : Tab) (wx : World) : Prop where
  w : WR w0 gf o n fs b N T v7 v8 lv bw wx
  b : Bld F k made ps T.lab T.fst T.fl T.mt T.root
  c0 : wx.cell? ⟨bk, 0, none⟩ = some (.int .i64 (lo : Int))
  c1 : wx.cell? ⟨bk, 1, none⟩ = some (.int .i64 (whi : Int))
  f0 : wx.frozen? ⟨bk, 0, none⟩ = false
  lt : bk < wx.heap.size
  base : w0.heap.size + 5 ≤ bk
  n7 : v7.ownBlock ≠ some bk
  n8 : v8.ownBlock ≠ some bk

theorem turn_begin {w0 wr : World} {gf o n : Nat} {fs : Nat → ByteArray} {b : Blk} {N : Nat} {F : List Str} {lv bw : List (Nat × Nat)} {v7 v8 : Value} {k made lo whi : Nat} {ps : Nat → Str} {T : Tab} (hok : b.Ok w0.heap.size (w0.heap.size + 5)) (hgf : gf < w0.heap.size) (hk : k < N + 1)
    (hW : WR w0 gf o n fs b N T v7 v8 lv bw wr) (hB : Bld F k made ps T.lab (upd T.fst k made) T.fl T.mt T.root) :
    Turn w0 gf o n fs b N F lv bw v7 v8 k made lo whi wr.heap.size ps { T with fst := upd T.fst k made } ((wr.setCell ⟨b.g2, k, none⟩ (.int .i32 (made : Int))).alloc (.cells #[.int .i64 (lo : Int), .int .i64 (whi : Int)] 51)) := by
  have hs := hW.sz
  have hA := hW.set2 hok hgf hk made
  have hz : (wr.setCell ⟨b.g2, k, none⟩ (.int .i32 (made : Int))).heap.size = wr.heap.size := by simp
  exact {
    w := hA.alloc hok hgf _
    b := hB
    c0 := by
      rw [← hz, World.cell?_alloc_new]
      rfl
    c1 := by
      rw [← hz, World.cell?_alloc_new]
      rfl
    f0 := by
      rw [← hz]
      simp only [World.frozen?, heap_alloc_new]
      rfl
    lt := by simp
    base := hs
    n7 := fun e => by have := (hW.l.lt _ e).2; omega
    n8 := fun e => by have := (hW.bb.lt _ e).2; omega }

/-- 'w.lo++'. -/
theorem Turn.step {w0 wx : World} {gf o n : Nat} {fs : Nat → ByteArray} {b : Blk} {N : Nat} {F : List Str} {lv bw : List (Nat × Nat)} {v7 v8 : Value} {k made lo whi bk : Nat} {ps : Nat → Str} {T : Tab} (hok : b.Ok w0.heap.size (w0.heap.size + 5)) (hgf : gf < w0.heap.size)
    (h : Turn w0 gf o n fs b N F lv bw v7 v8 k made lo whi bk ps T wx) : Turn w0 gf o n fs b N F lv bw v7 v8 k made (lo + 1) whi bk ps T (wx.setCell ⟨bk, 0, none⟩ (.int .i64 ((lo : Int) + 1))) where
  w := h.w.setOwn hok hgf h.base h.n7 h.n8 _
  b := h.b
  c0 := by
    rw [cell_set_at _ _ _ _ _ h.c0]
    rfl
  c1 := by rw [cell_set_ne _ _ _ _ _ (.inr (by show 1 ≠ 0; decide))]; exact h.c1
  f0 := by rw [World.frozen?_setCell]; exact h.f0
  lt := by simpa using h.lt
  base := h.base
  n7 := h.n7
  n8 := h.n8

/-- Behind the 'if': where the forms that go on begin. -/
def CutA (w0 : World) (gf o n : Nat) (fs : Nat → ByteArray) (b : Blk) (N : Nat) (F : List Str) (lv bw : List (Nat × Nat)) (v7 v8 : Value) (k made whi bk d : Nat) (ps : Nat → Str) (T : Tab) (wy : World) : Prop :=
  ∃ st, Turn w0 gf o n fs b N F lv bw v7 v8 k made st whi bk ps T wy ∧ Span F (ps k) st whi d ∧ st ≤ whi

/-- The scan for the end of the forms that share the byte at d. -/
def CutH (F : List Str) (lo whi d : Nat) (wr : World) (v : Value) (wy : World) : Prop :=
  ∃ hi : Nat, v = .int .i64 (hi : Int) ∧ lo < hi ∧ hi ≤ whi ∧ (∀ t, lo ≤ t → t < hi → byt F t d = byt F lo d) ∧ (hi = whi ∨ (hi < whi ∧ byt F hi d ≠ byt F lo d)) ∧ wy = wr

/-- The failing link, or the root's child, is laid. -/
def CutB (w0 : World) (gf o n : Nat) (fs : Nat → ByteArray) (b : Blk) (N : Nat) (F : List Str) (lv bw : List (Nat × Nat)) (v7 v8 : Value) (k made whi bk : Nat) (p : Str) (c : UInt8) (ps : Nat → Str) (T : Tab) (wy : World) : Prop :=
  ∃ (f : Nat) (root' : Nat → Nat), f < made ∧ ps f = ls F (p ++ [c]).tail ∧ ((k = 0 ∧ root' = upd T.root c.toNat made) ∨ (0 < k ∧ root' = T.root)) ∧
    WR w0 gf o n fs b N ⟨upd T.lab made c, T.fst, upd T.fl made f, T.mt, root'⟩ v7 v8 lv bw wy ∧ wy.cell? ⟨bk, 1, none⟩ = some (.int .i64 (whi : Int)) ∧ bk < wy.heap.size

/-- The match's length is laid. -/
def CutC (w0 : World) (gf o n : Nat) (fs : Nat → ByteArray) (b : Blk) (N : Nat) (F : List Str) (lv bw : List (Nat × Nat)) (v7 v8 : Value) (k made whi bk : Nat) (p : Str) (c : UInt8) (ps : Nat → Str) (T : Tab) (wy : World) : Prop :=
  ∃ (f : Nat) (root' : Nat → Nat), f < made ∧ ps f = ls F (p ++ [c]).tail ∧ ((k = 0 ∧ root' = upd T.root c.toNat made) ∨ (0 < k ∧ root' = T.root)) ∧
    WR w0 gf o n fs b N ⟨upd T.lab made c, T.fst, upd T.fl made f, upd T.mt made (lf F (p ++ [c])), root'⟩ v7 v8 lv bw wy ∧ wy.cell? ⟨bk, 1, none⟩ = some (.int .i64 (whi : Int)) ∧ bk < wy.heap.size

end Go.Proofs.Qxb6600140a
