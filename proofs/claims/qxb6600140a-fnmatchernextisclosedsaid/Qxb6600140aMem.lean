/-
  THE MATCHER's MEMORY: what a store, a new block, a draw, an append elsewhere leave of it.
-/
import Derived.Test.Qxb6600140aNext
import Derived.Test.Qxb6600140aInv
import Derived.WalkKit
namespace Go.Proofs.Qxb6600140a
open Go.RowKit Go.Proofs.Qxb6600140a.Plain

/-- The five blocks of a matcher: the struct and its four rows. -/
structure Blk where
  B : Nat
  g1 : Nat
  g2 : Nat
  g3 : Nat
  g4 : Nat

/-- They are five, and lie in [lo, hi). -/
structure Blk.Ok (b : Blk) (lo hi : Nat) : Prop where
  n01 : b.B ≠ b.g1
  n02 : b.B ≠ b.g2
  n03 : b.B ≠ b.g3
  n04 : b.B ≠ b.g4
  n12 : b.g1 ≠ b.g2
  n13 : b.g1 ≠ b.g3
  n14 : b.g1 ≠ b.g4
  n23 : b.g2 ≠ b.g3
  n24 : b.g2 ≠ b.g4
  n34 : b.g3 ≠ b.g4
  l0 : lo ≤ b.B ∧ b.B < hi
  l1 : lo ≤ b.g1 ∧ b.g1 < hi
  l2 : lo ≤ b.g2 ∧ b.g2 < hi
  l3 : lo ≤ b.g3 ∧ b.g3 < hi
  l4 : lo ≤ b.g4 ∧ b.g4 < hi

/-- The tables. -/
structure Tab where
  lab : Nat → UInt8
  fst : Nat → Nat
  fl : Nat → Nat
  mt : Nat → Nat
  root : Nat → Nat

structure MRep (b : Blk) (N : Nat) (T : Tab) (w : World) : Prop where
  nx : NRep b.B b.g1 b.g2 b.g3 N T.lab T.fst T.fl T.root w
  s4 : w.cell? ⟨b.B, 259, none⟩ = some (.slice (some ⟨b.g4, 0, none⟩) N N)
  c4 : ∀ j, j < N → w.cell? ⟨b.g4, j, none⟩ = some (.int .i32 (T.mt j : Int))
  f0 : ∀ j, w.frozen? ⟨b.B, j, none⟩ = false
  f1 : ∀ j, w.frozen? ⟨b.g1, j, none⟩ = false
  f2 : ∀ j, w.frozen? ⟨b.g2, j, none⟩ = false
  f3 : ∀ j, w.frozen? ⟨b.g3, j, none⟩ = false
  f4 : ∀ j, w.frozen? ⟨b.g4, j, none⟩ = false

variable {b : Blk} {N : Nat} {T : Tab} {w w' : World} {lo hi : Nat}

/-- The five blocks read as they did: so does the matcher. -/
theorem MRep.same (h : MRep b N T w) (hok : b.Ok lo hi) (hc : ∀ k j, lo ≤ k → k < hi → w'.cell? ⟨k, j, none⟩ = w.cell? ⟨k, j, none⟩) (hf : ∀ k j, lo ≤ k → k < hi → w'.frozen? ⟨k, j, none⟩ = w.frozen? ⟨k, j, none⟩) : MRep b N T w' where
  nx := {
    s1 := by rw [hc _ _ hok.l0.1 hok.l0.2]; exact h.nx.s1
    s2 := by rw [hc _ _ hok.l0.1 hok.l0.2]; exact h.nx.s2
    s3 := by rw [hc _ _ hok.l0.1 hok.l0.2]; exact h.nx.s3
    c1 := fun j hj => by rw [hc _ _ hok.l1.1 hok.l1.2]; exact h.nx.c1 j hj
    c2 := fun j hj => by rw [hc _ _ hok.l2.1 hok.l2.2]; exact h.nx.c2 j hj
    c3 := fun j hj => by rw [hc _ _ hok.l3.1 hok.l3.2]; exact h.nx.c3 j hj
    c0 := fun j hj => by rw [hc _ _ hok.l0.1 hok.l0.2]; exact h.nx.c0 j hj }
  s4 := by rw [hc _ _ hok.l0.1 hok.l0.2]; exact h.s4
  c4 := fun j hj => by rw [hc _ _ hok.l4.1 hok.l4.2]; exact h.c4 j hj
  f0 := fun j => by rw [hf _ _ hok.l0.1 hok.l0.2]; exact h.f0 j
  f1 := fun j => by rw [hf _ _ hok.l1.1 hok.l1.2]; exact h.f1 j
  f2 := fun j => by rw [hf _ _ hok.l2.1 hok.l2.2]; exact h.f2 j
  f3 := fun j => by rw [hf _ _ hok.l3.1 hok.l3.2]; exact h.f3 j
  f4 := fun j => by rw [hf _ _ hok.l4.1 hok.l4.2]; exact h.f4 j

theorem cell_set_ne (w : World) (a : Addr) (v : Value) (k j : Nat) (h : k ≠ a.block ∨ j ≠ a.off) : (w.setCell a v).cell? ⟨k, j, none⟩ = w.cell? ⟨k, j, none⟩ := by
  refine World.cell?_setCell_other _ _ _ _ ?_
  intro e
  rcases h with h | h
  · exact h (by rw [e])
  · exact h (by rw [e])

theorem cell_set_at (w : World) (k j : Nat) (v u : Value) (h : w.cell? ⟨k, j, none⟩ = some u) : (w.setCell ⟨k, j, none⟩ v).cell? ⟨k, j, none⟩ = some v := World.cell?_setCell_same _ _ _ h

theorem MRep.drewN (h : MRep b N T w) (n : Nat) : MRep b N T (w.drewN n) := ⟨⟨h.nx.s1, h.nx.s2, h.nx.s3, h.nx.c1, h.nx.c2, h.nx.c3, h.nx.c0⟩, h.s4, h.c4, h.f0, h.f1, h.f2, h.f3, h.f4⟩

/-- label[i] = c. -/
theorem MRep.set1 (h : MRep b N T w) (hok : b.Ok lo hi) {i : Nat} (hi' : i < N) (c : UInt8) : MRep b N { T with lab := upd T.lab i c } (w.setCell ⟨b.g1, i, none⟩ (.int .u8 (c.toNat : Int))) where
  nx := {
    s1 := by rw [cell_set_ne _ _ _ _ _ (.inl hok.n01)]; exact h.nx.s1
    s2 := by rw [cell_set_ne _ _ _ _ _ (.inl hok.n01)]; exact h.nx.s2
    s3 := by rw [cell_set_ne _ _ _ _ _ (.inl hok.n01)]; exact h.nx.s3
    c1 := fun j hj => by
      by_cases e : j = i
      · subst e
        show _ = some (Value.int .u8 ((upd T.lab j c j).toNat : Int))
        rw [upd_at]
        exact cell_set_at _ _ _ _ _ (h.nx.c1 j hj)
      · show _ = some (Value.int .u8 ((upd T.lab i c j).toNat : Int))
        rw [upd_ne _ _ e, cell_set_ne _ _ _ _ _ (.inr e)]
        exact h.nx.c1 j hj
    c2 := fun j hj => by rw [cell_set_ne _ _ _ _ _ (.inl hok.n12.symm)]; exact h.nx.c2 j hj
    c3 := fun j hj => by rw [cell_set_ne _ _ _ _ _ (.inl hok.n13.symm)]; exact h.nx.c3 j hj
    c0 := fun j hj => by rw [cell_set_ne _ _ _ _ _ (.inl hok.n01)]; exact h.nx.c0 j hj }
  s4 := by rw [cell_set_ne _ _ _ _ _ (.inl hok.n01)]; exact h.s4
  c4 := fun j hj => by rw [cell_set_ne _ _ _ _ _ (.inl hok.n14.symm)]; exact h.c4 j hj
  f0 := fun j => by rw [World.frozen?_setCell]; exact h.f0 j
  f1 := fun j => by rw [World.frozen?_setCell]; exact h.f1 j
  f2 := fun j => by rw [World.frozen?_setCell]; exact h.f2 j
  f3 := fun j => by rw [World.frozen?_setCell]; exact h.f3 j
  f4 := fun j => by rw [World.frozen?_setCell]; exact h.f4 j

/-- first[i] = x. -/
theorem MRep.set2 (h : MRep b N T w) (hok : b.Ok lo hi) {i : Nat} (hi' : i < N + 1) (x : Nat) : MRep b N { T with fst := upd T.fst i x } (w.setCell ⟨b.g2, i, none⟩ (.int .i32 (x : Int))) where
  nx := {
    s1 := by rw [cell_set_ne _ _ _ _ _ (.inl hok.n02)]; exact h.nx.s1
    s2 := by rw [cell_set_ne _ _ _ _ _ (.inl hok.n02)]; exact h.nx.s2
    s3 := by rw [cell_set_ne _ _ _ _ _ (.inl hok.n02)]; exact h.nx.s3
    c1 := fun j hj => by rw [cell_set_ne _ _ _ _ _ (.inl hok.n12)]; exact h.nx.c1 j hj
    c2 := fun j hj => by
      by_cases e : j = i
      · subst e
        show _ = some (Value.int .i32 ((upd T.fst j x j : Nat) : Int))
        rw [upd_at]
        exact cell_set_at _ _ _ _ _ (h.nx.c2 j hj)
      · show _ = some (Value.int .i32 ((upd T.fst i x j : Nat) : Int))
        rw [upd_ne _ _ e, cell_set_ne _ _ _ _ _ (.inr e)]
        exact h.nx.c2 j hj
    c3 := fun j hj => by rw [cell_set_ne _ _ _ _ _ (.inl hok.n23.symm)]; exact h.nx.c3 j hj
    c0 := fun j hj => by rw [cell_set_ne _ _ _ _ _ (.inl hok.n02)]; exact h.nx.c0 j hj }
  s4 := by rw [cell_set_ne _ _ _ _ _ (.inl hok.n02)]; exact h.s4
  c4 := fun j hj => by rw [cell_set_ne _ _ _ _ _ (.inl hok.n24.symm)]; exact h.c4 j hj
  f0 := fun j => by rw [World.frozen?_setCell]; exact h.f0 j
  f1 := fun j => by rw [World.frozen?_setCell]; exact h.f1 j
  f2 := fun j => by rw [World.frozen?_setCell]; exact h.f2 j
  f3 := fun j => by rw [World.frozen?_setCell]; exact h.f3 j
  f4 := fun j => by rw [World.frozen?_setCell]; exact h.f4 j

/-- fail[i] = x. -/
theorem MRep.set3 (h : MRep b N T w) (hok : b.Ok lo hi) {i : Nat} (hi' : i < N) (x : Nat) : MRep b N { T with fl := upd T.fl i x } (w.setCell ⟨b.g3, i, none⟩ (.int .i32 (x : Int))) where
  nx := {
    s1 := by rw [cell_set_ne _ _ _ _ _ (.inl hok.n03)]; exact h.nx.s1
    s2 := by rw [cell_set_ne _ _ _ _ _ (.inl hok.n03)]; exact h.nx.s2
    s3 := by rw [cell_set_ne _ _ _ _ _ (.inl hok.n03)]; exact h.nx.s3
    c1 := fun j hj => by rw [cell_set_ne _ _ _ _ _ (.inl hok.n13)]; exact h.nx.c1 j hj
    c2 := fun j hj => by rw [cell_set_ne _ _ _ _ _ (.inl hok.n23)]; exact h.nx.c2 j hj
    c3 := fun j hj => by
      by_cases e : j = i
      · subst e
        show _ = some (Value.int .i32 ((upd T.fl j x j : Nat) : Int))
        rw [upd_at]
        exact cell_set_at _ _ _ _ _ (h.nx.c3 j hj)
      · show _ = some (Value.int .i32 ((upd T.fl i x j : Nat) : Int))
        rw [upd_ne _ _ e, cell_set_ne _ _ _ _ _ (.inr e)]
        exact h.nx.c3 j hj
    c0 := fun j hj => by rw [cell_set_ne _ _ _ _ _ (.inl hok.n03)]; exact h.nx.c0 j hj }
  s4 := by rw [cell_set_ne _ _ _ _ _ (.inl hok.n03)]; exact h.s4
  c4 := fun j hj => by rw [cell_set_ne _ _ _ _ _ (.inl hok.n34.symm)]; exact h.c4 j hj
  f0 := fun j => by rw [World.frozen?_setCell]; exact h.f0 j
  f1 := fun j => by rw [World.frozen?_setCell]; exact h.f1 j
  f2 := fun j => by rw [World.frozen?_setCell]; exact h.f2 j
  f3 := fun j => by rw [World.frozen?_setCell]; exact h.f3 j
  f4 := fun j => by rw [World.frozen?_setCell]; exact h.f4 j

/-- match[i] = x. -/
theorem MRep.set4 (h : MRep b N T w) (hok : b.Ok lo hi) {i : Nat} (hi' : i < N) (x : Nat) : MRep b N { T with mt := upd T.mt i x } (w.setCell ⟨b.g4, i, none⟩ (.int .i32 (x : Int))) where
  nx := {
    s1 := by rw [cell_set_ne _ _ _ _ _ (.inl hok.n04)]; exact h.nx.s1
    s2 := by rw [cell_set_ne _ _ _ _ _ (.inl hok.n04)]; exact h.nx.s2
    s3 := by rw [cell_set_ne _ _ _ _ _ (.inl hok.n04)]; exact h.nx.s3
    c1 := fun j hj => by rw [cell_set_ne _ _ _ _ _ (.inl hok.n14)]; exact h.nx.c1 j hj
    c2 := fun j hj => by rw [cell_set_ne _ _ _ _ _ (.inl hok.n24)]; exact h.nx.c2 j hj
    c3 := fun j hj => by rw [cell_set_ne _ _ _ _ _ (.inl hok.n34)]; exact h.nx.c3 j hj
    c0 := fun j hj => by rw [cell_set_ne _ _ _ _ _ (.inl hok.n04)]; exact h.nx.c0 j hj }
  s4 := by rw [cell_set_ne _ _ _ _ _ (.inl hok.n04)]; exact h.s4
  c4 := fun j hj => by
    by_cases e : j = i
    · subst e
      show _ = some (Value.int .i32 ((upd T.mt j x j : Nat) : Int))
      rw [upd_at]
      exact cell_set_at _ _ _ _ _ (h.c4 j hj)
    · show _ = some (Value.int .i32 ((upd T.mt i x j : Nat) : Int))
      rw [upd_ne _ _ e, cell_set_ne _ _ _ _ _ (.inr e)]
      exact h.c4 j hj
  f0 := fun j => by rw [World.frozen?_setCell]; exact h.f0 j
  f1 := fun j => by rw [World.frozen?_setCell]; exact h.f1 j
  f2 := fun j => by rw [World.frozen?_setCell]; exact h.f2 j
  f3 := fun j => by rw [World.frozen?_setCell]; exact h.f3 j
  f4 := fun j => by rw [World.frozen?_setCell]; exact h.f4 j

/-- root[i] = x. -/
theorem MRep.set0 (h : MRep b N T w) (hok : b.Ok lo hi) {i : Nat} (hi' : i < 256) (x : Nat) : MRep b N { T with root := upd T.root i x } (w.setCell ⟨b.B, i, none⟩ (.int .i32 (x : Int))) where
  nx := {
    s1 := by rw [cell_set_ne _ _ _ _ _ (.inr (by show 256 ≠ i; omega))]; exact h.nx.s1
    s2 := by rw [cell_set_ne _ _ _ _ _ (.inr (by show 257 ≠ i; omega))]; exact h.nx.s2
    s3 := by rw [cell_set_ne _ _ _ _ _ (.inr (by show 258 ≠ i; omega))]; exact h.nx.s3
    c1 := fun j hj => by rw [cell_set_ne _ _ _ _ _ (.inl hok.n01.symm)]; exact h.nx.c1 j hj
    c2 := fun j hj => by rw [cell_set_ne _ _ _ _ _ (.inl hok.n02.symm)]; exact h.nx.c2 j hj
    c3 := fun j hj => by rw [cell_set_ne _ _ _ _ _ (.inl hok.n03.symm)]; exact h.nx.c3 j hj
    c0 := fun j hj => by
      by_cases e : j = i
      · subst e
        show _ = some (Value.int .i32 ((upd T.root j x j : Nat) : Int))
        rw [upd_at]
        exact cell_set_at _ _ _ _ _ (h.nx.c0 j hj)
      · show _ = some (Value.int .i32 ((upd T.root i x j : Nat) : Int))
        rw [upd_ne _ _ e, cell_set_ne _ _ _ _ _ (.inr e)]
        exact h.nx.c0 j hj }
  s4 := by rw [cell_set_ne _ _ _ _ _ (.inr (by show 259 ≠ i; omega))]; exact h.s4
  c4 := fun j hj => by rw [cell_set_ne _ _ _ _ _ (.inl hok.n04.symm)]; exact h.c4 j hj
  f0 := fun j => by rw [World.frozen?_setCell]; exact h.f0 j
  f1 := fun j => by rw [World.frozen?_setCell]; exact h.f1 j
  f2 := fun j => by rw [World.frozen?_setCell]; exact h.f2 j
  f3 := fun j => by rw [World.frozen?_setCell]; exact h.f3 j
  f4 := fun j => by rw [World.frozen?_setCell]; exact h.f4 j

end Go.Proofs.Qxb6600140a
