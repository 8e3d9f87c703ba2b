/-
  WALK: newMatcher (31), the loop over a node's children, as a declaration of its own.
-/
import Derived.Test.Qxb6600140aRel
import Derived.WalkKit
import Derived.WalkSpells
import Derived.BigQuiet
import Derived.BigRegion
import Derived.ProofKit
import Derived.Deep.OwnRows
import Derived.Deep.DeepCutAuto
import Derived.Deep.CutBlock
import Derived.Deep.RegionHeld3
import Derived.Deep.AppendLies
import Derived.Laws.Tables
namespace Go.Proofs.Qxb6600140a
open Go.RowKit Go.Proofs.Qxb6600140a.Plain

/-- What lies in block n of a text. -/
def blk (n : Nat) : Code → Option Code
  | .block m c => if m = n then some c else blk n c
  | .seq a b => match blk n a with
    | some c => some c
    | none => blk n b
  | .loop c => blk n c
  | .scope c => blk n c
  | .cond _ a b => match blk n a with
    | some c => some c
    | none => blk n b
  | _ => none

/-- The end of the loop over the children. -/
def R4End (w0 : World) (gf o n : Nat) (fs : Nat → ByteArray) (b : Blk) (N : Nat) (F : List Str) (lv : List (Nat × Nat)) (v7 : Value) (s d k : Nat) (v8 v10 : Value) (wr : World) : Prop :=
  ∃ (made cb : Nat) (ab : Option Addr) (bw : List (Nat × Nat)) (ps : Nat → Str) (T : Tab), v10 = .int .i32 (made : Int) ∧ v8 = .slice ab bw.length cb ∧
    WR w0 gf o n fs b N T v7 v8 lv bw wr ∧ Bld F (k + 1) made ps T.lab (upd T.fst (k + 1) made) T.fl T.mt T.root ∧ LvOk F ps d s lv ∧ LvOk F ps (d + 1) (s + lv.length) bw ∧ made = s + lv.length + bw.length

theorem NRep.of_heap {B g1 g2 g3 N : Nat} {lab : Nat → UInt8} {fst fl root : Nat → Nat} {w w' : World} (h : NRep B g1 g2 g3 N lab fst fl root w) (e : w'.heap = w.heap) : NRep B g1 g2 g3 N lab fst fl root w' := by
  have hc : ∀ a, w'.cell? a = w.cell? a := fun a => by unfold World.cell?; rw [e]
  exact ⟨by rw [hc]; exact h.s1, by rw [hc]; exact h.s2, by rw [hc]; exact h.s3, fun j hj => by rw [hc]; exact h.c1 j hj, fun j hj => by rw [hc]; exact h.c2 j hj, fun j hj => by rw [hc]; exact h.c3 j hj, fun j hj => by rw [hc]; exact h.c0 j hj⟩

/-- The new child's text is new: there is room for it. -/
theorem Exp_room {F : List Str} {k m0 made lo whi d st hi : Nat} {ps : Nat → Str} {lab : Nat → UInt8} {fst fl mt root : Nat → Nat} (hF : Sound F) (h : Exp F k m0 made lo whi d ps lab fst fl mt root) (hs : Span F (ps k) st whi d) (h1 : st ≤ lo) (h2 : lo < hi) (h3 : hi ≤ whi)
    (hsep : ∀ t u, st ≤ t → t < lo → lo ≤ u → u < whi → (byt F t d).toNat < (byt F u d).toNat)
    (hc : ∀ t, lo ≤ t → t < hi → byt F t d = byt F lo d) (hend : hi = whi ∨ (hi < whi ∧ byt F hi d ≠ byt F lo d)) : made < nc F F.length ∧ Iv F (ps k ++ [byt F lo d]) lo hi := by
  have hkm : k < made := by have := h.klt; have := h.mle; omega
  have hv := hs.child hF h1 h2 h3 hsep hc hend
  refine ⟨?_, hv⟩
  have hpre : isPre F (ps k ++ [byt F lo d]) = true := (isPre_fm F _).2 ⟨lo, by have := hv.2.1; omega, (hv.2.2 lo (by have := hv.2.1; omega)).2 ⟨Nat.le_refl _, h2⟩⟩
  have hnew : ∀ i, i < made → ps i ≠ ps k ++ [byt F lo d] := by
    intro i hi' e
    by_cases i0 : i = 0
    · rw [i0, h.zero] at e; simp at e
    · rcases h.par i (by omega) hi' with ⟨q, hq, e2⟩ | ⟨hq, e2⟩
      · rw [e] at e2
        have := (List.append_inj' e2 rfl).1
        have := h.nodup k q hkm (by omega) this
        omega
      · rw [e] at e2
        have e3 := (List.append_inj' e2 rfl).2
        have e4 : lab i = byt F lo d := by simpa using e3.symm
        have := h.low i hq hi' lo (Nat.le_refl _) (by omega)
        rw [e4] at this
        omega
  refine made_le (upd ps made (ps k ++ [byt F lo d])) (made + 1) (fun i j hi' hj e => ?_) (fun i hi' => ?_)
  · by_cases ei : i = made
    · by_cases ej : j = made
      · omega
      · rw [ei, upd_at, upd_ne _ _ ej] at e
        exact absurd e.symm (hnew j (by omega))
    · by_cases ej : j = made
      · rw [ej, upd_at, upd_ne _ _ ei] at e
        exact absurd e (hnew i (by omega))
      · rw [upd_ne _ _ ei, upd_ne _ _ ej] at e
        exact h.nodup i j (by omega) (by omega) e
  · by_cases e : i = made
    · rw [e, upd_at]; exact hpre
    · rw [upd_ne _ _ e]; exact h.pre i (by omega)

/-- A label beyond the nodes does not matter to 'next'. -/
theorem Auto_lab_upd {F : List Str} {made E : Nat} {ps : Nat → Str} {lab : Nat → UInt8} {fst fl root : Nat → Nat} (h : Auto F made E ps lab fst fl root) (c : UInt8) : Auto F made E ps (upd lab made c) fst fl root where
  zero := h.zero
  pos := h.pos
  le := h.le
  pre := h.pre
  ne := h.ne
  kids := fun i i0 hi => by
    obtain ⟨a, b, e, s, g⟩ := h.kids i i0 hi
    have hne : ∀ j, j < fst (i + 1) → j ≠ made := fun j hj => by omega
    refine ⟨a, b, fun j j1 j2 => ?_, fun j j' j1 j2 j3 => ?_, fun c' hc' => ?_⟩
    · rw [upd_ne _ _ (hne j j2)]; exact e j j1 j2
    · rw [upd_ne _ _ (hne j (by omega)), upd_ne _ _ (hne j' j3)]; exact s j j' j1 j2 j3
    · obtain ⟨j, j1, j2, j3⟩ := g c' hc'
      exact ⟨j, j1, j2, by rw [upd_ne _ _ (hne j j2)]; exact j3⟩
  link := h.link
  root := h.root

theorem fail_eq (F : List Str) (p : Str) (c : UInt8) (hp : p ≠ []) : ls F (ls F p.tail ++ [c]) = ls F (p ++ [c]).tail := by
  cases p with
  | nil => exact absurd rfl hp
  | cons a t => exact (ls_snoc F c t).symm

theorem lf_yes {F : List Str} (hF : Sound F) {p : Str} {c : UInt8} {lo hi d : Nat} (hp : p.length = d) (hv : Iv F (p ++ [c]) lo hi) (h : (fm F lo).length = d + 1) : lf F (p ++ [c]) = d + 1 := by
  rw [lf_mem F _ ((child_form hF hv (by simp; exact hp)).2 h)]
  simp
  exact hp
theorem lf_no {F : List Str} (hF : Sound F) {p : Str} {c : UInt8} {lo hi d : Nat} (hp : p.length = d) (hv : Iv F (p ++ [c]) lo hi) (h : (fm F lo).length ≠ d + 1) : lf F (p ++ [c]) = lf F (ls F (p ++ [c]).tail) := by
  have hn : p ++ [c] ∉ F := fun z => h ((child_form hF hv (by simp; exact hp)).1 z)
  rw [lf_ls]
  cases p with
  | nil => exact lf_not F c [] hn
  | cons a t => exact lf_not F a (t ++ [c]) hn

theorem grown_alloc_drop {w w' : World} {o : Obj} {row : Option Nat} (h : (w.alloc o).grownBy w' row) : w.grownBy w' row :=
  ⟨h.os, h.tape, h.output, Nat.le_trans (by simp) h.size, fun k hk hr => (h.block k (by simp; omega) hr).trans (Below.heap_alloc w o k hk)⟩

/-- 'below = append(below, waiting{lo, hi})'. -/
theorem WR.push {w0 wy w1 : World} {gf o n : Nat} {fs : Nat → ByteArray} {b : Blk} {N : Nat} {T : Tab} {v7 v8 : Value} {lv bw : List (Nat × Nat)} {lo hi g' cap : Nat} {ob : Obj} (h : WR w0 gf o n fs b N T v7 v8 lv bw wy) (hok : b.Ok w0.heap.size (w0.heap.size + 5)) (hgf : gf < w0.heap.size)
    (hown : w1.ownsRow (w0.heap.size + 5) 51 2 (.slice (some ⟨g', 0, none⟩) (bw.length + 1) cap) (bw.length + 1) (items bw ++ [.int .i64 (lo : Int), .int .i64 (hi : Int)]))
    (hgrow : (wy.alloc ob).grownBy w1 v8.ownBlock) (hat : v8.ownBlock = some g' ∨ g' = wy.heap.size + 1) :
    WR w0 gf o n fs b N T v7 (.slice (some ⟨g', 0, none⟩) (bw ++ [(lo, hi)]).length cap) lv (bw ++ [(lo, hi)]) w1 where
  m := h.m.same hok (fun k j _ h2 => cell_of_block ((grown_alloc_drop hgrow).block k (by have := h.sz; omega) (fun e => by have := (h.bb.lt k e.symm).1; omega)))
    (fun k j _ h2 => frozen_of_block ((grown_alloc_drop hgrow).block k (by have := h.sz; omega) (fun e => by have := (h.bb.lt k e.symm).1; omega)))
  f := fun t ht => by
    rw [cell_of_block ((grown_alloc_drop hgrow).block gf (by have := h.sz; omega) (fun e => by have := (h.bb.lt gf e.symm).1; omega))]
    exact h.f t ht
  l := h.l.kept (grown_alloc_drop hgrow) h.ne
  bb := by
    rw [items_snoc, List.length_append]
    exact hown
  ne := by
    cases e : v7.ownBlock with
    | none => exact .inl rfl
    | some q =>
      right
      intro z
      have z' : q = g' := by simpa [Value.ownBlock] using z
      rcases hat with e2 | e2
      · rcases h.ne with e3 | e3
        · rw [e] at e3; cases e3
        · exact e3 (by rw [e, e2, z'])
      · have := (h.l.lt q e).2
        omega
  bel := h.bel.grown (grown_alloc_drop hgrow) (by have := h.sz; omega) (fun k hk => by have := (h.bb.lt k hk).1; omega)
  sz := by have := h.sz; have := (grown_alloc_drop hgrow).size; omega

theorem LvOk_upd {F : List Str} {ps : Nat → Str} {d s made : Nat} {l : List (Nat × Nat)} (h : LvOk F ps d s l) (hm : s + l.length ≤ made) (q : Str) : LvOk F (upd ps made q) d s l := by
  intro t ht
  rw [upd_ne _ _ (by omega)]
  exact h t ht
theorem LvOk_push {F : List Str} {ps : Nat → Str} {d s made : Nat} {l : List (Nat × Nat)} (h : LvOk F ps d s l) (hm : s + l.length = made) (q : Str) (hq : q.length = d) {lo hi : Nat} (hv : Iv F q lo hi) : LvOk F (upd ps made q) d s (l ++ [(lo, hi)]) := by
  intro t ht
  simp at ht
  by_cases e : t = l.length
  · subst e
    rw [hm, upd_at]
    simp
    exact ⟨hv, hq⟩
  · rw [upd_ne _ _ (by omega), List.getD_eq_getElem?_getD, List.getElem?_append_left (by omega), ← List.getD_eq_getElem?_getD]
    exact h t (by omega)

set_option maxRecDepth 1000000 in
set_option maxHeartbeats 8000000 in
theorem loop4 (w0 : World) (gf o n cf : Nat) (fs : Nat → ByteArray) (b : Blk) (N : Nat) (F : List Str) (lv : List (Nat × Nat)) (v7 : Value) (s d k m0 st whi bk : Nat) (p : Str) (Q0 : Exit → Act → World → Prop)
    (HS : Hid (Sound F)) (HN : Hid (F.length = n)) (HF : Hid (∀ t, t < n → fm F t = (fs t).data.toList)) (HNc : Hid (nc F n = N)) (hN : N ≤ 1048577) (hnb : n ≤ 1048576) (OK : Hid (b.Ok w0.heap.size (w0.heap.size + 5))) (hgf : gf < w0.heap.size)
    (HSp : Hid (Span F p st whi d)) (hd : d ≤ 1048576) (hwn : whi ≤ n) (hbk : w0.heap.size + 5 ≤ bk)
    (u1 u2 u3 u4 u5 u7 u12 u17 u18 u19 u20 u21 u22 u23 u24 u25 u26 u27 u28 u29 u30 u31 u32 u33 u34 u35 u36 u37 u38 u39 u40 u41 u42 u43 u44 u45 u46 u47 u48 u49 u50 u51 u52 u53 u54 u55 u56 u57 u58 u59 u60 u61 u62 u63 u64 u65 u66 u67 u68 u69 u70 u71 u72 u73 u74 u75 u76 u77 u78 u79 u80 u81 u82 u83 u84 u85 u86 u191 u192 u193 u194 u195 u196 u197 u198 u199 u200 u201 u202 u203 u204 : Value) (y8 y10 y14 y15 y16 y87 y88 y89 y90 y91 y92 y93 y94 y95 y96 y97 y98 y99 y100 y101 y102 y103 y104 y105 y106 y107 y108 y109 y110 y111 y112 y113 y114 y115 y116 y117 y118 y119 y120 y121 y122 y123 y124 y125 y126 y127 y128 y129 y130 y131 y132 y133 y134 y135 y136 y137 y138 y139 y140 y141 y142 y143 y144 y145 y146 y147 y148 y149 y150 y151 y152 y153 y154 y155 y156 y157 y158 y159 y160 y161 y162 y163 y164 y165 y166 y167 y168 y169 y170 y171 y172 y173 y174 y175 y176 y177 y178 y179 y180 y181 y182 y183 y184 y185 y186 y187 y188 y189 y190 : Value) (wr : World)
    (hR : R4 w0 gf o n fs b N F lv v7 s d k m0 st whi bk p y8 y10 y14 wr)
    (hexit : ∀ (x8 x10 x14 x15 x16 x87 x88 x89 x90 x91 x92 x93 x94 x95 x96 x97 x98 x99 x100 x101 x102 x103 x104 x105 x106 x107 x108 x109 x110 x111 x112 x113 x114 x115 x116 x117 x118 x119 x120 x121 x122 x123 x124 x125 x126 x127 x128 x129 x130 x131 x132 x133 x134 x135 x136 x137 x138 x139 x140 x141 x142 x143 x144 x145 x146 x147 x148 x149 x150 x151 x152 x153 x154 x155 x156 x157 x158 x159 x160 x161 x162 x163 x164 x165 x166 x167 x168 x169 x170 x171 x172 x173 x174 x175 x176 x177 x178 x179 x180 x181 x182 x183 x184 x185 x186 x187 x188 x189 x190 : Value) (wx : World), R4End w0 gf o n fs b N F lv v7 s d k x8 x10 wx → Q0 (.exit 6) ⟨#[.slice (some ⟨gf, o, none⟩) n cf, u1, u2, u3, u4, u5, .pointer (some ⟨b.B, 0, none⟩), u7, x8, .int .i32 (k : Int), x10, .int .i64 (d : Int), u12, .pointer (some ⟨bk, 0, none⟩), x14, x15, x16, u17, u18, u19, u20, u21, u22, u23, u24, u25, u26, u27, u28, u29, u30, u31, u32, u33, u34, u35, u36, u37, u38, u39, u40, u41, u42, u43, u44, u45, u46, u47, u48, u49, u50, u51, u52, u53, u54, u55, u56, u57, u58, u59, u60, u61, u62, u63, u64, u65, u66, u67, u68, u69, u70, u71, u72, u73, u74, u75, u76, u77, u78, u79, u80, u81, u82, u83, u84, u85, u86, x87, x88, x89, x90, x91, x92, x93, x94, x95, x96, x97, x98, x99, x100, x101, x102, x103, x104, x105, x106, x107, x108, x109, x110, x111, x112, x113, x114, x115, x116, x117, x118, x119, x120, x121, x122, x123, x124, x125, x126, x127, x128, x129, x130, x131, x132, x133, x134, x135, x136, x137, x138, x139, x140, x141, x142, x143, x144, x145, x146, x147, x148, x149, x150, x151, x152, x153, x154, x155, x156, x157, x158, x159, x160, x161, x162, x163, x164, x165, x166, x167, x168, x169, x170, x171, x172, x173, x174, x175, x176, x177, x178, x179, x180, x181, x182, x183, x184, x185, x186, x187, x188, x189, x190, u191, u192, u193, u194, u195, u196, u197, u198, u199, u200, u201, u202, u203, u204], []⟩ wx) :
    Code.wp Try.prog ((Try.f31.body.bind (blk 6)).getD .skip) Q0 ⟨#[.slice (some ⟨gf, o, none⟩) n cf, u1, u2, u3, u4, u5, .pointer (some ⟨b.B, 0, none⟩), u7, y8, .int .i32 (k : Int), y10, .int .i64 (d : Int), u12, .pointer (some ⟨bk, 0, none⟩), y14, y15, y16, u17, u18, u19, u20, u21, u22, u23, u24, u25, u26, u27, u28, u29, u30, u31, u32, u33, u34, u35, u36, u37, u38, u39, u40, u41, u42, u43, u44, u45, u46, u47, u48, u49, u50, u51, u52, u53, u54, u55, u56, u57, u58, u59, u60, u61, u62, u63, u64, u65, u66, u67, u68, u69, u70, u71, u72, u73, u74, u75, u76, u77, u78, u79, u80, u81, u82, u83, u84, u85, u86, y87, y88, y89, y90, y91, y92, y93, y94, y95, y96, y97, y98, y99, y100, y101, y102, y103, y104, y105, y106, y107, y108, y109, y110, y111, y112, y113, y114, y115, y116, y117, y118, y119, y120, y121, y122, y123, y124, y125, y126, y127, y128, y129, y130, y131, y132, y133, y134, y135, y136, y137, y138, y139, y140, y141, y142, y143, y144, y145, y146, y147, y148, y149, y150, y151, y152, y153, y154, y155, y156, y157, y158, y159, y160, y161, y162, y163, y164, y165, y166, y167, y168, y169, y170, y171, y172, y173, y174, y175, y176, y177, y178, y179, y180, y181, y182, y183, y184, y185, y186, y187, y188, y189, y190, u191, u192, u193, u194, u195, u196, u197, u198, u199, u200, u201, u202, u203, u204], []⟩ wr := by
  conv => arg 2; whnf
  dsimp only
  go_loopw [8, 10, 14] (fun v8 v10 v14 wr => R4 w0 gf o n fs b N F lv v7 s d k m0 st whi bk p v8 v10 v14 wr) (fun _ _ lo _ => whi - (intOf lo).toNat)
  case atStart => exact hR
  case round =>
    clear hR
    obtain ⟨lo, made, cb, ab, bw, ps, T, rfl, rfl, rfl, h1, h2, hW, hE, hpk, hsep, hc1, hn8, hbl, hLv, hLb, hmade⟩ := hrel
    have HW : Hid (WR w0 gf o n fs b N T v7 (.slice ab bw.length cb) lv bw wr) := hW
    have HE : Hid (Exp F k m0 made lo whi d ps T.lab T.fst T.fl T.mt T.root) := hE
    have HP : Hid (ps k = p) := hpk
    have HSep : Hid (∀ t u, st ≤ t → t < lo → lo ≤ u → u < whi → (byt F t d).toNat < (byt F u d).toNat) := hsep
    have HLv : Hid (LvOk F ps d s lv) := hLv
    have HLb : Hid (LvOk F ps (d + 1) (s + lv.length) bw) := hLb
    have HMa : Hid (made = s + lv.length + bw.length) := hmade
    have H8 : Hid ((Value.slice ab bw.length cb).ownBlock ≠ some bk) := hn8
    have hmN : made ≤ N := by have := made_le ps made hE.nodup hE.pre; rw [HN.out, HNc.out] at this; exact this
    clear hW hE hpk hsep hLv hLb hmade hn8
    by_cases hlw : lo < whi
    · obtain ⟨hpre, hlen⟩ := HSp.out.on lo h1 hlw
      have hln : lo < n := by omega
      have y1 := HW.out.f lo hln
      have hdl : d < (fs lo).size := by rw [HF.out lo hln] at hlen; simpa using hlen
      have hcb : (fs lo)[d] = byt F lo d := by
        unfold byt
        rw [HF.out lo hln, List.getD_eq_getElem?_getD, List.getElem?_eq_getElem (by simpa using hdl)]
        rfl
      generalize hc : byt F lo d = c at hcb
      have HCc : Hid (byt F lo d = c) := hc
      clear hpre hlen hc
      go_upto_block 8 with fail
      go_cut [16] from 87 to 190 (fun v wy => CutH F lo whi d wr v wy)
      case first =>
        go_wp2_with fail
        go_loop [16] (fun v => ∃ hi : Nat, v = .int .i64 (hi : Int) ∧ lo < hi ∧ hi ≤ whi ∧ Hid (∀ t, lo ≤ t → t < hi → byt F t d = byt F lo d)) (fun v => whi - (intOf v).toNat)
        case atStart => exact ⟨lo + 1, by go_num, by omega, by omega, fun t a b => by rw [show t = lo from by omega]⟩
        case round =>
          obtain ⟨hi, rfl, hi1, hi2, HH⟩ := hrel
          by_cases hhw : hi < whi
          · obtain ⟨hpre, hlen⟩ := HSp.out.on hi (by omega) hhw
            have hhn : hi < n := by omega
            have z1 := HW.out.f hi hhn
            have hdh : d < (fs hi).size := by rw [HF.out hi hhn] at hlen; simpa using hlen
            have hch : (fs hi)[d] = byt F hi d := by
              unfold byt
              rw [HF.out hi hhn, List.getD_eq_getElem?_getD, List.getElem?_eq_getElem (by simpa using hdh)]
              rfl
            have g1 : decide ((hi : Int) < (whi : Int)) = true := decide_eq_true (by omega)
            clear hpre hlen
            generalize hcx : byt F hi d = c2 at hch
            have HC2 : Hid (byt F hi d = c2) := hcx
            clear hcx
            by_cases e : c2 = c
            · have e1 : ((c2.toNat : Int) == (c.toNat : Int)) = true := by rw [e]; simp
              have HH' : Hid (∀ t, lo ≤ t → t < hi + 1 → byt F t d = byt F lo d) := by
                intro t a b
                by_cases et : t = hi
                · rw [et, HC2.out, HCc.out]; exact e
                · exact HH.out t a (by omega)
              clear e
              go_wp2
              go_round
              case rel => exact ⟨hi + 1, by go_num, by omega, by omega, HH'⟩
              case measure => simp [intOf]; omega
            · have e2 : c2.toNat ≠ c.toNat := fun z => e (UInt8.toNat_inj.1 z)
              have e1 : ((c2.toNat : Int) == (c.toNat : Int)) = false := beq_eq_false_iff_ne.2 (by omega)
              have HD : Hid (byt F hi d ≠ byt F lo d) := by show _ ≠ _; rw [HC2.out, HCc.out]; exact e
              clear e e2
              go_wp2
              go_meet
              case rel => exact ⟨hi, rfl, hi1, hi2, HH.out, .inr ⟨hhw, HD.out⟩, rfl⟩
          · have g1 : decide ((hi : Int) < (whi : Int)) = false := decide_eq_false (by omega)
            go_wp2
            go_meet
            case rel => exact ⟨hi, rfl, hi1, hi2, HH.out, .inl (by omega), rfl⟩
      case rest =>
        obtain ⟨hi, rfl, hi1, hi2, hH1, hH2, rfl⟩ := hcut
        have HH1 : Hid (∀ t, lo ≤ t → t < hi → byt F t d = byt F lo d) := hH1
        have HH2 : Hid (hi = whi ∨ (hi < whi ∧ byt F hi d ≠ byt F lo d)) := hH2
        clear hH1 hH2 y1 hdl hcb
        have hRoom := Exp_room HS.out HE.out (by rw [HP.out]; exact HSp.out) h1 hi1 hi2 HSep.out HH1.out HH2.out
        rw [HP.out, HN.out, HNc.out, HCc.out] at hRoom
        have hmade : made < N := hRoom.1
        have HIv : Hid (Iv F (p ++ [c]) lo hi) := hRoom.2
        clear hRoom
        have x1 := HW.out.m.nx.s1
        have x2 := HW.out.m.nx.c1 made hmade
        have x3 := HW.out.m.f1 made
        go_upto_if 123 with fail
        have hW1 := HW.out.set1 OK.out hgf hmade c
        have hc1' : (wc.setCell ⟨b.g1, made, none⟩ (.int .u8 (c.toNat : Int))).cell? ⟨bk, 1, none⟩ = some (.int .i64 (whi : Int)) := by
          rw [cell_set_ne _ _ _ _ _ (.inl (by have := OK.out.l1; show bk ≠ b.g1; omega))]; exact hc1
        have hbl' : bk < (wc.setCell ⟨b.g1, made, none⟩ (.int .u8 (c.toNat : Int))).heap.size := by simpa using hbl
        generalize hw1 : wc.setCell ⟨b.g1, made, none⟩ (.int .u8 (c.toNat : Int)) = w1 at hW1 hc1' hbl' ⊢
        have HW1 : Hid (WR w0 gf o n fs b N { T with lab := upd T.lab made c } v7 (.slice ab bw.length cb) lv bw w1) := hW1
        have HC1 : Hid (w1.cell? ⟨bk, 1, none⟩ = some (.int .i64 (whi : Int)) ∧ bk < w1.heap.size) := ⟨hc1', hbl'⟩
        clear x1 x2 x3 hW1 hw1 hc1' hbl' HW hc1 hbl
        have hcN : c.toNat < 256 := c.toNat_lt
        go_cut [] from 87 to 190 (fun wy => CutB w0 gf o n fs b N F lv bw v7 (.slice ab bw.length cb) k made whi bk p c ps T wy)
        case first =>
          have hkm : k < made := by have := HE.out.klt; have := HE.out.mle; omega
          by_cases hk0 : k = 0
          · have e1 : ((k : Int) == 0) = true := beq_iff_eq.2 (by omega)
            have x1 := HW1.out.m.nx.c0 c.toNat hcN
            have x2 := HW1.out.m.f0 c.toNat
            have HB : Hid (CutB w0 gf o n fs b N F lv bw v7 (.slice ab bw.length cb) k made whi bk p c ps T (w1.setCell ⟨b.B, c.toNat, none⟩ (.int .i32 (made : Int)))) := by
              have hz : T.fl made = 0 := HE.out.flz made (Nat.le_refl _)
              have hpn : p = [] := by rw [← HP.out, hk0]; exact HE.out.zero
              refine ⟨0, _, by omega, ?_, .inl ⟨hk0, rfl⟩, ?_, ?_, ?_⟩
              · rw [HE.out.zero, hpn]; rfl
              · have := HW1.out.set0 OK.out hgf hcN made
                rw [show upd T.fl made 0 = T.fl from by rw [← hz]; exact upd_same _ _]
                exact this
              · rw [cell_set_ne _ _ _ _ _ (.inl (by have := OK.out.l0; show bk ≠ b.B; omega))]; exact HC1.out.1
              · simpa using HC1.out.2
            clear hk0
            go_wp2
            go_meet
            case rel => exact HB.out
          · have e1 : ((k : Int) == 0) = false := beq_eq_false_iff_ne.2 (by omega)
            have hk1 : 0 < k := by omega
            obtain ⟨hf1, hf2⟩ := HE.out.link k hk1 hkm
            have x1 := HW1.out.m.nx.s3
            have x2 := HW1.out.m.nx.c3 k (by omega)
            have x3 := HW1.out.m.nx.c3 made hmade
            have x4 := HW1.out.m.f3 made
            have x2' : w1.cell? ⟨b.g3, k, none⟩ = some (.int .i32 (T.fl k : Int)) := x2
            clear x2
            generalize hflk : T.fl k = fk at x2' hf1 hf2
            have HFK : Hid (fk < k ∧ ps fk = ls F (ps k).tail ∧ T.fl k = fk) := ⟨hf1, hf2, hflk⟩
            clear hf1 hf2 hflk
            have i1 : (k : Int) < (N : Int) := by omega
            have i2 : (made : Int) < (N : Int) := by omega
            have i3 : (0 : Int) ≤ (k : Int) := by omega
            have i4 : (0 : Int) ≤ (made : Int) := by omega
            have i5 : ¬ b.B = b.g3 := OK.out.n03
            have i6 : ¬ b.g3 = b.B := fun z => OK.out.n03 z.symm
            go_wp2
            go_region_held3 (fun w' => w'.cell? ⟨b.B, 258, none⟩ = some (.slice (some ⟨b.g3, 0, none⟩) N N) ∧ w'.cell? ⟨b.g3, k, none⟩ = some (.int .i32 (fk : Int))) (simp [go_sem, *])
              ((go_at_call 32; refine (next_any b.B b.g1 b.g2 b.g3 N F made k fk ps (upd T.lab made c) T.fst T.fl T.root c _ (HW1.out.m.nx.of_heap (by rfl)) (Auto_lab_upd (HE.out.auto hk1) c) hN hmN (.inl HFK.out.1)).mono ?_; rintro e w' ⟨j, rfl, HJ, m, rfl⟩))
            have HB : Hid (∀ q, CutB w0 gf o n fs b N F lv bw v7 (.slice ab bw.length cb) k made whi bk p c ps T ((w1.drewN q).setCell ⟨b.g3, made, none⟩ (.int .i32 (j : Int)))) := by
              intro q
              have hpn : p ≠ [] := by rw [← HP.out]; exact HE.out.ne k hk1 hkm
              refine ⟨j, T.root, HJ.out.1, ?_, .inr ⟨hk1, rfl⟩, (HW1.out.drewN q).set3 OK.out hgf hmade j, ?_, ?_⟩
              · rw [HJ.out.2, HFK.out.2.1, HP.out]; exact fail_eq F p c hpn
              · rw [cell_set_ne _ _ _ _ _ (.inl (by have := OK.out.l3; show bk ≠ b.g3; omega))]; exact HC1.out.1
              · simpa using HC1.out.2
            go_wp2_with fail
            go_meet
            case rel => exact HB.out _
        case rest =>
          clear HW1 HC1
          obtain ⟨f, root', hf, hfp, hroot, hW2, hc2, hb2⟩ := hcut
          have HFP : Hid (ps f = ls F (p ++ [c]).tail) := hfp
          have HRo : Hid ((k = 0 ∧ root' = upd T.root c.toNat made) ∨ (0 < k ∧ root' = T.root)) := hroot
          have HW2 : Hid (WR w0 gf o n fs b N ⟨upd T.lab made c, T.fst, upd T.fl made f, T.mt, root'⟩ v7 (.slice ab bw.length cb) lv bw wc) := hW2
          have HC2 : Hid (wc.cell? ⟨bk, 1, none⟩ = some (.int .i64 (whi : Int)) ∧ bk < wc.heap.size) := ⟨hc2, hb2⟩
          have x1 := hW2.m.nx.s3
          have x2 := hW2.m.s4
          have x3 : wc.cell? ⟨b.g3, made, none⟩ = some (.int .i32 (f : Int)) := by have := hW2.m.nx.c3 made hmade; simp only [upd_at] at this; exact this
          have x4 : wc.cell? ⟨b.g4, f, none⟩ = some (.int .i32 (T.mt f : Int)) := hW2.m.c4 f (by omega)
          have x5 := hW2.m.c4 made hmade
          have x6 := hW2.m.f4 made
          clear hfp hroot hW2 hc2 hb2
          have i1 : (f : Int) < (N : Int) := by omega
          have i2 : (made : Int) < (N : Int) := by omega
          have i3 : (0 : Int) ≤ (f : Int) := by omega
          have i4 : (0 : Int) ≤ (made : Int) := by omega
          have i5 : ¬ b.B = b.g4 := OK.out.n04
          have i6 : ¬ b.g4 = b.B := fun z => OK.out.n04 z.symm
          have i7 : ¬ b.g3 = b.g4 := OK.out.n34
          have i8 : ¬ b.g4 = b.g3 := fun z => OK.out.n34 z.symm
          have i9 : ¬ made = f := by omega
          have i10 : ¬ f = made := by omega
          generalize hmf : T.mt f = mf at x4
          have HMF : Hid (T.mt f = mf) := hmf
          clear hmf
          go_upto_region 32 with fail
          go_region_held3 (fun w' => w'.cell? ⟨b.B, 258, none⟩ = some (.slice (some ⟨b.g3, 0, none⟩) N N) ∧ w'.cell? ⟨b.B, 259, none⟩ = some (.slice (some ⟨b.g4, 0, none⟩) N N) ∧ w'.cell? ⟨b.g3, made, none⟩ = some (.int .i32 (f : Int)) ∧ w'.cell? ⟨b.g4, f, none⟩ = some (.int .i32 (mf : Int))) (simp [go_sem, *]) (fail)
          go_upto_region 33 with fail
          have hW3 : WR w0 gf o n fs b N ⟨upd T.lab made c, T.fst, upd T.fl made f, upd T.mt made mf, root'⟩ v7 (.slice ab bw.length cb) lv bw (wc.setCell ⟨b.g4, made, none⟩ (.int .i32 (mf : Int))).drew :=
            (HW2.out.set4 OK.out hgf hmade mf).drewN 1
          have hc3 : (wc.setCell ⟨b.g4, made, none⟩ (.int .i32 (mf : Int))).drew.cell? ⟨bk, 1, none⟩ = some (.int .i64 (whi : Int)) ∧ bk < (wc.setCell ⟨b.g4, made, none⟩ (.int .i32 (mf : Int))).drew.heap.size := by
            refine ⟨?_, by simpa using HC2.out.2⟩
            show (wc.setCell ⟨b.g4, made, none⟩ (.int .i32 (mf : Int))).cell? ⟨bk, 1, none⟩ = _
            rw [cell_set_ne _ _ _ _ _ (.inl (by have := OK.out.l4; show bk ≠ b.g4; omega))]; exact HC2.out.1
          generalize hw3 : (wc.setCell ⟨b.g4, made, none⟩ (.int .i32 (mf : Int))).drew = w3 at hW3 hc3 ⊢
          have HW3 : Hid (WR w0 gf o n fs b N ⟨upd T.lab made c, T.fst, upd T.fl made f, upd T.mt made mf, root'⟩ v7 (.slice ab bw.length cb) lv bw w3) := hW3
          have HC3 : Hid (w3.cell? ⟨bk, 1, none⟩ = some (.int .i64 (whi : Int)) ∧ bk < w3.heap.size) := hc3
          clear x1 x2 x3 x4 x5 x6 i1 i2 i3 i4 i5 i6 i7 i8 i9 i10 hW3 hc3 hw3 HW2 HC2
          have hln : lo < n := by omega
          have z1 := HW3.out.f lo hln
          have hsz : (fm F lo).length = (fs lo).size := by rw [HF.out lo hln]; simp
          have HSZ : Hid ((fm F lo).length = (fs lo).size) := hsz
          clear hsz
          have x1 := HW3.out.m.s4
          have x2 := HW3.out.m.c4 made hmade
          have x3 := HW3.out.m.f4 made
          go_upto_if 172 with fail
          go_cut [] from 87 to 190 (fun wy => CutC w0 gf o n fs b N F lv bw v7 (.slice ab bw.length cb) k made whi bk p c ps T wy)
          case first =>
            by_cases hde : (fs lo).size = d + 1
            · have e1 : (((fs lo).size : Int) == (d : Int) + 1) = true := beq_iff_eq.2 (by omega)
              have HB : Hid (CutC w0 gf o n fs b N F lv bw v7 (.slice ab bw.length cb) k made whi bk p c ps T (w3.setCell ⟨b.g4, made, none⟩ (.int .i32 ((d : Int) + 1)))) := by
                have hl := lf_yes HS.out HSp.out.len HIv.out (by rw [HSZ.out]; exact hde)
                refine ⟨f, root', hf, HFP.out, HRo.out, ?_, ?_, ?_⟩
                · have := HW3.out.set4 OK.out hgf hmade (d + 1)
                  rw [hl]
                  simp only [upd_twice] at this
                  exact this
                · rw [cell_set_ne _ _ _ _ _ (.inl (by have := OK.out.l4; show bk ≠ b.g4; omega))]; exact HC3.out.1
                · simpa using HC3.out.2
              clear hde
              go_wp2
              go_meet
              case rel => exact HB.out
            · have e1 : (((fs lo).size : Int) == (d : Int) + 1) = false := beq_eq_false_iff_ne.2 (by omega)
              have HB : Hid (CutC w0 gf o n fs b N F lv bw v7 (.slice ab bw.length cb) k made whi bk p c ps T w3) := by
                have hl := lf_no HS.out HSp.out.len HIv.out (by rw [HSZ.out]; exact hde)
                refine ⟨f, root', hf, HFP.out, HRo.out, ?_, HC3.out.1, HC3.out.2⟩
                rw [hl, ← HFP.out, ← HE.out.mtc f hf, HMF.out]
                exact HW3.out
              clear hde
              go_wp2
              go_meet
              case rel => exact HB.out
          case rest =>
            clear HW3 HC3 z1 x1 x2 x3 HSZ HMF HFP HRo hf
            obtain ⟨f, root', hf, hfp, hroot, hW4, hc4, hb4⟩ := hcut
            have HX : Hid (Exp F k m0 (made + 1) hi whi d (upd ps made (p ++ [c])) (upd T.lab made c) T.fst (upd T.fl made f) (upd T.mt made (lf F (p ++ [c]))) root') := by
              have := HE.out.step HS.out (by rw [HP.out]; exact HSp.out) h1 hi1 hi2 HSep.out HH1.out HH2.out hf (by rw [HP.out, HCc.out]; exact hfp) rfl (by rw [HCc.out]; exact hroot)
              rw [HP.out, HCc.out] at this
              exact this
            have HSep' : Hid (∀ t u, st ≤ t → t < hi → hi ≤ u → u < whi → (byt F t d).toNat < (byt F u d).toNat) := HSp.out.sep HS.out h1 hi1 hi2 HSep.out HH1.out HH2.out
            have HW4 : Hid (WR w0 gf o n fs b N ⟨upd T.lab made c, T.fst, upd T.fl made f, upd T.mt made (lf F (p ++ [c])), root'⟩ v7 (.slice ab bw.length cb) lv bw wc) := hW4
            have HC4 : Hid (wc.cell? ⟨bk, 1, none⟩ = some (.int .i64 (whi : Int)) ∧ bk < wc.heap.size) := ⟨hc4, hb4⟩
            have hbw : bw.length ≤ 1048577 := by have := HMa.out; omega
            have hs5 := hW4.sz
            have hown := hW4.bb
            obtain ⟨i0, hii, hz0, hz1, hz2⟩ := info_parts info51
            clear hfp hroot hW4 hc4 hb4 hf
            go_wp2_with (at_builtin; go_must (refine wpList_append_lies _ (by rfl) _ _ 52 (by rfl) (w0.heap.size + 5) 51 i0 (.agg #[.int .i64 0, .int .i64 0]) 2 16 Try.underlying52 hii hz0 hz1 hz2 (by rfl) (by decide) (.slice ab bw.length cb) bw.length (items bw) (by rfl) (hown.alloc _) ⟨wc.heap.size, 0, none⟩ 1 1 [.int .i64 (lo : Int), .int .i64 (hi : Int)] (by rfl) (by rfl) ?c1 ?c2 (by decide) (by unfold maxLen; omega) (by omega) (by simp; omega) (wc.heap.size + 1) (by simp) ?_))
            case c2 => exact ⟨rfl, rfl⟩
            intro g' cap w5 hown5 hgrow5 hat5 hlt5
            have HR : Hid (R4 w0 gf o n fs b N F lv v7 s d k m0 st whi bk p (.slice (some ⟨g', 0, none⟩) (bw.length + 1) cap) (.int .i32 ((made + 1 : Nat) : Int)) (.int .i64 (hi : Int)) w5) := by
              have hpush := HW4.out.push OK.out hgf hown5 hgrow5 hat5
              have hg := grown_alloc_drop hgrow5
              have hpl : (p ++ [c]).length = d + 1 := by have := HSp.out.len; simp; exact this
              have hkm : k < made := by have := HE.out.klt; have := HE.out.mle; omega
              refine ⟨hi, made + 1, cap, some ⟨g', 0, none⟩, bw ++ [(lo, hi)], upd ps made (p ++ [c]), ⟨upd T.lab made c, T.fst, upd T.fl made f, upd T.mt made (lf F (p ++ [c])), root'⟩, rfl, rfl, by rw [List.length_append]; rfl, by omega, hi2, ?_, HX.out, ?_, HSep'.out, ?_, ?_, ?_, ?_, ?_, ?_⟩
              · have e2 : (bw ++ [(lo, hi)]).length = bw.length + 1 := by simp
                rw [e2] at hpush
                exact hpush
              · rw [upd_ne _ _ (by omega)]; exact HP.out
              · rw [World.cell?_of_block (w := wc) (hg.block bk HC4.out.2 (fun z => H8.out z.symm))]
                exact HC4.out.1
              · intro z
                have z' : g' = bk := by simpa [Value.ownBlock] using z
                rcases hat5 with e2 | e2
                · exact H8.out (by rw [e2, z'])
                · have := HC4.out.2
                  omega
              · have := HC4.out.2
                have := hg.size
                omega
              · exact LvOk_upd HLv.out (by have := HMa.out; omega) _
              · exact LvOk_push HLb.out HMa.out.symm _ hpl HIv.out
              · have := HMa.out
                simp
                omega
            clear hown5 hgrow5 hat5 hlt5 hown HW4 HC4 HX HSep'
            go_wp2
            go_roundw
            case rel => exact HR.out
            case measure => simp [intOf]; omega
    · have hle : lo = whi := by omega
      have HEnd : Hid (R4End w0 gf o n fs b N F lv v7 s d k (.slice ab bw.length cb) (.int .i32 (made : Int)) wr) :=
        ⟨made, cb, ab, bw, ps, T, rfl, rfl, HW.out, HE.out.close (by omega), HLv.out, HLb.out, HMa.out⟩
      go_wp2
      exact HEnd.out

end Go.Proofs.Qxb6600140a
