/-
  The argument 'forms []string', opened: what the walks are told of it.
-/
import Derived.Test.Qxb6600140aRows
import Derived.Test.Qxb6600140aLeaf
import Derived.WalkKit
import Derived.ProofKit
import Derived.OpenShut
import Derived.SliceStrings
import Derived.ChangeOld
import Derived.Below
namespace Go.Proofs.Qxb6600140a
open Go.ChangeShapes Go.WideShapes Go.ChangeAt Go.RowKit

theorem laidOut : laidOutB Try.prog = true := by kernel_rfl

theorem cells9 : Try.prog.cellsOf 9 = 1 := by kernel_rfl

theorem open_forms {H : Type} {enc : TypeId × Value → H} {W : World} {ad : Option Addr} {n cap : Nat} {d : DataW H} {p : List MemPlace} (h : DataW.Trod enc Try.prog W 0 (fun _ => true) true 26 (.slice ad n cap) d p) :
    ∃ fs : Nat → ByteArray, n ≤ maxLen ∧ FRow W ad n fs ∧ ∀ t, t < n → (fs t).size ≤ maxLen := by
  obtain ⟨fuel, hf⟩ := h
  rcases open_strings Try.underlying26 Try.underlying9 cells9 hf with ⟨hcs, _⟩ | ⟨a, l, c, ss, hcs, _, hl, hm, hz, _, hcell, hws⟩
  · simp [Value.cells] at hcs
    obtain ⟨rfl, rfl, rfl⟩ := hcs
    exact ⟨fun _ => ByteArray.empty, Nat.zero_le _, fun h => absurd h (Nat.lt_irrefl _), fun t ht => absurd ht (Nat.not_lt_zero _)⟩
  · simp [Value.cells] at hcs
    obtain ⟨rfl, rfl, rfl⟩ := hcs
    have hz' : ss.length = cap := by simpa using hz
    refine ⟨fun t => ss.getD t ByteArray.empty, Nat.le_trans hl hm, ?_, ?_⟩
    · intro h0
      obtain ⟨b, off, spot⟩ := a
      have hc := hcell 0 (by omega)
      have hspot : spot = none := by simpa [Addr.add] using World.cell?_spot hc
      subst hspot
      refine ⟨b, off, rfl, ?_, ?_⟩
      · simpa [Addr.add] using World.block_lt_of_cell? W _ hc
      · intro t ht
        have hx := hcell t (by omega)
        have e : (⟨b, off, none⟩ : Addr).add t = ⟨b, off + t, none⟩ := by
          by_cases e0 : t = 0
          · subst e0; rfl
          · simp [Addr.add, e0]
        rw [e] at hx
        exact hx
    · intro t ht
      have ht' : t < ss.length := by omega
      refine hws _ ?_
      show ss.getD t ByteArray.empty ∈ ss
      rw [List.getD_eq_getElem?_getD, List.getElem?_eq_getElem ht']
      exact List.getElem_mem ht'

end Go.Proofs.Qxb6600140a
