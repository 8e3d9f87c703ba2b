/-
  What the three laws share: the copy of the forms and the matcher made from it.
-/
import Derived.Test.Qxb6600140aRun
import Derived.WalkKit
import Derived.WalkSpells
import Derived.BigQuiet
import Derived.ProofKit
import Derived.WalkSmall
namespace Go.Proofs.Qxb6600140a
open Go.RowKit Go.WideShapes Go.Proofs.Qxb6600140a.Plain

/-- The world of a law whose matcher is made: w the law's first world. -/
structure Rdy (w : World) (n : Nat) (fs : Nat → ByteArray) (b : Blk) (N : Nat) (T : Tab) (ps : Nat → Str) (wm : World) : Prop where
  mt : Mt b N T (frm n fs) ps wm
  bel : Below w.heap.size w wm
  row : FRow wm (some ⟨w.heap.size, 0, none⟩) n fs

/-- What the law asks. -/
def LawOk (w : World) (e : Ending) (w' : World) : Prop := e = .returned (.bool true) ∧ Below w.heap.size w w'

theorem below_drewN {B : Nat} {a w : World} (h : Below B a w) (m : Nat) : Below B a (w.drewN m) := ⟨h.os, h.tape, h.output, h.size, h.block⟩

theorem Rdy.drewN {w : World} {n : Nat} {fs : Nat → ByteArray} {b : Blk} {N : Nat} {T : Tab} {ps : Nat → Str} {wm : World} (h : Rdy w n fs b N T ps wm) (m : Nat) : Rdy w n fs b N T ps (wm.drewN m) :=
  ⟨h.mt.drewN m, below_drewN h.bel m, h.row⟩

/-- copyForms, at forms that are sound. -/
theorem copy_at (ad : Option Addr) (n cap m : Nat) (fs : Nat → ByteArray) (w : World) (hn : n ≤ 1048576) (HR : Hid (FRow w ad n fs)) (HS : Hid (Sound (frm n fs))) :
    Calls Try.prog 18 #[.slice ad n cap] (w.drewN m) fun e w' => e = .returned (.slice (some ⟨w.heap.size, 0, none⟩) n n) ∧ Hid (Cop w n fs n w') := by
  have h0 : 0 < n := by have := HS.out.some; rwa [frm_len] at this
  obtain ⟨gf, o, rfl, hg, hc⟩ := HR.out h0
  refine (copyForms_any gf o n cap fs (w.drewN m) hn (by exact hg) (by exact hc)).mono ?_
  rintro e w' ⟨he, hC⟩
  refine ⟨he, ?_⟩
  have hb : Below w.heap.size w (w.drewN m) := below_drewN (Below.refl _ _) m
  exact ⟨hC.some, hC.done, hC.free, hb.trans hC.bel, hC.lt⟩

/-- ZZNewMatcher at the copy. -/
theorem new_at (w wc : World) (n : Nat) (fs : Nat → ByteArray) (hn : n ≤ 1048576) (HC : Hid (Cop w n fs n wc)) (HS : Hid (Sound (frm n fs))) (HT : Hid (tot (frm n fs) n ≤ 1048576)) :
    Calls Try.prog 19 #[.slice (some ⟨w.heap.size, 0, none⟩) n n] wc fun e w' => ∃ (b : Blk) (N : Nat) (T : Tab) (ps : Nat → Str), e = .returned (.pointer (some ⟨b.B, 0, none⟩)) ∧ Hid (Rdy w n fs b N T ps w') := by
  refine (zzNew_any w.heap.size 0 n n fs (frm n fs) wc HS.out (frm_len n fs) (frm_fm n fs) HT.out (fun t ht => by rw [Nat.zero_add]; exact HC.out.done t ht) hn HC.out.lt).mono ?_
  rintro e w' ⟨b, N, ps, T, _, he, hM, hB, hN, hbel, hf⟩
  have hb2 : Below w.heap.size wc w' := hbel.mono (Nat.le_of_lt HC.out.lt)
  exact ⟨b, N, T, ps, he, ⟨hM, hB, hN⟩, HC.out.bel.trans hb2, fun _ => ⟨_, _, rfl, Nat.lt_of_lt_of_le HC.out.lt hbel.size, hf⟩⟩

/-- ps is one to one. -/
theorem Mt.inj {b : Blk} {N : Nat} {T : Tab} {F : List Str} {ps : Nat → Str} {w : World} (H : Mt b N T F ps w) (i j : Nat) (hi : i < N) (hj : j < N) (h : ps i = ps j) : i = j := by
  exact H.b.nodup i j hi hj h

theorem maxF_frm (n : Nat) (fs : Nat → ByteArray) (q : Nat) (h : ∀ t, t < n → (fs t).size ≤ q) : maxF (frm n fs) ≤ q := by
  have H : ∀ L : List Str, (∀ f, f ∈ L → f.length ≤ q) → maxF L ≤ q := by
    intro L
    induction L with
    | nil => intro _; unfold maxF; omega
    | cons g L ih =>
      intro hL
      unfold maxF
      have h1 := hL g (by simp)
      have h2 := ih (fun f hf => hL f (by simp [hf]))
      omega
  refine H _ ?_
  intro f hf
  unfold frm at hf
  obtain ⟨t, ht, rfl⟩ := List.mem_map.1 hf
  have := h t (List.mem_range.1 ht)
  simpa using this

end Go.Proofs.Qxb6600140a
