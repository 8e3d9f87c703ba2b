/-
  WALK: newMatcher (31).
-/
import Derived.Test.Qxb6600140aKids
import Derived.Test.Qxb6600140aNine
import Derived.WalkKit
import Derived.WalkSpells
import Derived.BigQuiet
import Derived.BigRegion
import Derived.ProofKit
import Derived.Deep.OwnRows
import Derived.Deep.DeepCutAuto
import Derived.Deep.CutBlock
import Derived.Deep.RegionHeld3
import Derived.Deep.AppendLies
import Derived.Laws.Tables
namespace Go.Proofs.Qxb6600140a
open Go.RowKit Go.Proofs.Qxb6600140a.Plain

set_option maxRecDepth 100000 in
set_option maxHeartbeats 4000000 in
theorem newMatcher_any (gf o n cf : Nat) (fs : Nat → ByteArray) (F : List Str) (w : World) (hF : Sound F) (hn : F.length = n) (hfm : ∀ t, t < n → fm F t = (fs t).data.toList)
    (htot : tot F n ≤ 1048576) (hcell : ∀ t, t < n → w.cell? ⟨gf, o + t, none⟩ = some (.string (fs t))) (hnb : n ≤ 1048576) (hgf : gf < w.heap.size) :
    Calls Try.prog 31 #[.slice (some ⟨gf, o, none⟩) n cf] w fun e w' => MPost w gf o n fs F e w' := by
  have HS : Hid (Sound F) := hF
  have HN : Hid (F.length = n) := hn
  have HF : Hid (∀ t, t < n → fm F t = (fs t).data.toList) := hfm
  have HT : Hid (tot F n ≤ 1048576) := htot
  have HC : Hid (∀ t, t < n → w.cell? ⟨gf, o + t, none⟩ = some (.string (fs t))) := hcell
  clear hF hn hfm htot hcell
  go_enter Try.func31, Try.ntmps31
  go_wp2
  go_loopw [3, 19] (fun v i wr => ∃ k : Nat, k ≤ n ∧ i = .int .i64 (k : Int) ∧ v = .int .i64 (nc F k : Int) ∧ Hid (∃ m, wr = w.drewN m)) (fun _ i _ => n - (intOf i).toNat)
  case atStart => exact ⟨0, Nat.zero_le _, rfl, rfl, 0, rfl⟩
  case round =>
    obtain ⟨k, hk, rfl, rfl, m, rfl⟩ := hrel
    have b1 : nc F k ≤ 1048577 := by have := nc_le F k; have := tot_le F k n hk; have := HT.out; omega
    by_cases hlt : k < n
    · have hx := HC.out k hlt
      have hl : (fm F k).length = (fs k).size := by rw [HF.out k hlt]; simp
      have b2 : (fs k).size ≤ 1048576 := by have := len_tot F k n hlt; have := HT.out; omega
      have HL : Hid ((fm F k).length = (fs k).size) := hl
      clear hl
      by_cases h0 : 0 < k
      · have hx1 := HC.out (k - 1) (by omega)
        have hy : o + (k - 1) = o + k - 1 := by omega
        have b3 : (fs (k - 1)).size ≤ maxLen := by
          have h1 := len_tot F (k - 1) n (by omega); have h2 := HT.out
          have h3 : (fm F (k - 1)).length = (fs (k - 1)).size := by rw [HF.out (k - 1) (by omega)]; simp
          unfold maxLen; omega
        have hbk : back F k = lcp (fs (k - 1)).data.toList (fs k).data.toList := by
          unfold back; rw [if_pos h0, HF.out (k - 1) (by omega), HF.out k hlt]
        have b4 := back_le F k
        have HB : Hid (back F k = lcp (fs (k - 1)).data.toList (fs k).data.toList ∧ back F k ≤ (fm F k).length) := ⟨hbk, b4⟩
        clear hbk b4 hy
        go_wp2_with fail
        refine (sharedPrefix_any (fs (k - 1)) (fs k) _ b3).mono ?_
        rintro e w' ⟨rfl, m2, rfl⟩
        have HE : Hid ((nc F (k + 1) : Int) = (nc F k : Int) + ((fs k).size : Int) - ((lcp (fs (k - 1)).data.toList (fs k).data.toList : Nat) : Int)) := by
          have e1 : nc F (k + 1) = nc F k + ((fm F k).length - back F k) := rfl
          have e2 := HB.out.1
          have e3 := HB.out.2
          have e4 := HL.out
          show _ = _
          rw [← e2]
          omega
        have b5 : lcp (fs (k - 1)).data.toList (fs k).data.toList ≤ 1048576 := by
          have e2 := HB.out.1
          have e3 := HB.out.2
          have e4 := HL.out
          omega
        generalize lcp (fs (k - 1)).data.toList (fs k).data.toList = lc at HE b5
        go_wp2
        go_roundw
        case rel => exact ⟨k + 1, by omega, by go_num, congrArg (Value.int IntKind.i64) HE.out.symm, _, rfl⟩
        case measure => simp [intOf]; omega
      · have HE : Hid ((nc F (k + 1) : Int) = (nc F k : Int) + ((fs k).size : Int)) := by
          have e1 : nc F (k + 1) = nc F k + ((fm F k).length - back F k) := rfl
          have e2 : back F k = 0 := by unfold back; rw [if_neg h0]
          have e4 := HL.out
          show _ = _
          omega
        go_wp2
        go_roundw
        case rel => exact ⟨k + 1, by omega, by go_num, congrArg (Value.int IntKind.i64) HE.out.symm, _, rfl⟩
        case measure => simp [intOf]; omega
    · have hke : n = k := by omega
      subst hke
      generalize hN : nc F n = N at b1
      have HNc : Hid (nc F n = N) := hN
      clear hN hlt hk
      go_upto_region 9 with fail
      go_cut [6] (fun p wx => Made w N p wx)
      case first =>
        refine region9 w m N b1 _ _ _ _ _ _ _ _ _ _ _ _ _ _ _ _ _ _ _ _ _ _ _ _ _ _ _ _ _ _ _ _ _ _ _ _ _ _ _ _ _ _ _ _ _ _ _ _ _ _ _ _ _ _ _ _ _ _ _ _ _ _ _ _ _ _ _ _ _ _ _ _ _ _ _ _ _ _ _ _ _ _ _ _ _ _ _ _ _ _ _ _ _ _ _ _ _ _ _ _ _ _ _ _ _ _ _ _ _ _ _ _ _ _ _ _ _ _ _ _ _ _ _ _ _ _ _ _ _ _ _ _ _ _ _ _ _ _ _ _ _ _ _ _ _ _ _ _ _ _ _ _ _ _ _ _ _ _ _ _ _ _ _ _ _ _ _ _ _ _ _ _ _ _ _ _ _ _ _ _ _ _ _ _ _ _ _ _ _ _ _ _ _ _ _ _ _ _ _ _ _ _ _ _ _ ?hx
        case hx =>
          intro x6 x40 x41 x42 x43 x44 x45 x46 x47 x48 x49 x50 wx hMd
          have HMd : Hid (Made w N x6 wx) := hMd
          clear hMd
          go_wp2_with fail
          go_meet
          case rel => exact HMd.out
      case rest =>
        obtain ⟨b, hok, hp, hM, hB, hS⟩ := hcut
        have OK : Hid (b.Ok w.heap.size (w.heap.size + 5)) := hok
        have HM : Hid (MRep b N zTab wc) := hM
        have HB : Hid (Below w.heap.size w wc) := hB
        have HZ : Hid (wc.heap.size = w.heap.size + 5) := hS
        clear hok hM hB hS
        subst hp
        go_wp2_with fail
        go_loopw [7, 8, 9, 10, 11] (fun v7 v8 v9 v10 v11 wr => R2 w gf o n fs b N F v7 v8 v9 v10 v11 wr) (fun _ _ k _ _ _ => N - (intOf k).toNat)
        case atStart => exact r2_start HS.out HN.out OK.out hgf HM.out HB.out HZ.out HC.out
        case round =>
          clear HM HB HZ
          obtain ⟨lv, k, made, d, cl, al, ps, T, rfl, rfl, rfl, rfl, hW, hBl, hLv, hkm⟩ := hrel
          have HW : Hid (WR w gf o n fs b N T (.slice al lv.length cl) u8 lv [] wr) := hW
          have HBl : Hid (Bld F k made ps T.lab (upd T.fst k made) T.fl T.mt T.root) := hBl
          have HLv : Hid (LvOk F ps d k lv) := hLv
          have hmN : made ≤ N := by have := made_le ps made hBl.nodup hBl.pre; rw [HN.out, HNc.out] at this; exact this
          by_cases hl0 : lv.length = 0
          · have hE := r2_end HS.out HN.out HNc.out b1 OK.out hgf hW hBl (by omega)
            have HE : Hid (made = N ∧ MPost w gf o n fs F (.returned (.pointer (some ⟨b.B, 0, none⟩))) (wr.setCell ⟨b.g2, made, none⟩ (.int .i32 (made : Int)))) := hE
            have x1 := hW.m.nx.s2
            have x2 := hW.m.nx.c2 made (by omega)
            have x3 := hW.m.f2 made
            clear hE hW hBl hLv
            go_wp2
            go_ret
            exact HE.out.2
          · obtain ⟨g, rfl, _, hcl, hcm, hg5, hgw⟩ := lv_row hW (by omega)
            clear hW hBl hLv
            have hd : d ≤ 1048576 := depth_le HN.out HT.out HLv.out (by omega)
            obtain ⟨ab0, cb0, rfl⟩ := row_form HW.out.bb
            go_wp2
            go_loopw [62, 8, 9, 10] (fun v62 v8 v9 v10 wr => R3 w gf o n fs b N F lv (.slice (some ⟨g, 0, none⟩) lv.length cl) k d v62 v8 v9 v10 wr) (fun i _ _ _ _ => lv.length - (intOf i).toNat)
            case atStart =>
              exact ⟨0, made, cb0, ab0, [], ps, T, rfl, Nat.zero_le _, rfl, rfl, rfl, HW.out, HBl.out, HLv.out, fun t ht => (by simp at ht), hkm.symm⟩
            case round =>
              clear HW HBl HLv hmN hkm
              obtain ⟨t, made, cb, ab, bw, ps, T, rfl, ht, rfl, rfl, rfl, hW, hBl, hLv, hLb, hmade⟩ := hrel
              have HW : Hid (WR w gf o n fs b N T (.slice (some ⟨g, 0, none⟩) lv.length cl) (.slice ab bw.length cb) lv bw wr) := hW
              have HBl : Hid (Bld F (k + t) made ps T.lab (upd T.fst (k + t) made) T.fl T.mt T.root) := hBl
              have HLv : Hid (LvOk F ps d k lv) := hLv
              have HLb : Hid (LvOk F ps (d + 1) (k + lv.length) bw) := hLb
              have HMa : Hid (made = k + lv.length + bw.length) := hmade
              have hmN : made ≤ N := by have := made_le ps made hBl.nodup hBl.pre; rw [HN.out, HNc.out] at this; exact this
              by_cases htl : t < lv.length
              · have y1 := (hW.item htl).1
                have y2 := (hW.item htl).2
                have hkt : k + t < made := by omega
                have y3 := hW.m.nx.s2
                have y4 := hW.m.nx.c2 (k + t) (by omega)
                have y5 := hW.m.f2 (k + t)
                obtain ⟨hIv, hlen⟩ := hLv t htl
                generalize hlo : (lv.getD t (0, 0)).1 = lo0 at y1 hIv
                generalize hhi : (lv.getD t (0, 0)).2 = whi at y2 hIv
                have HIv : Hid (Iv F (ps (k + t)) lo0 whi) := hIv
                have HLn : Hid ((ps (k + t)).length = d) := hlen
                have h1 : lo0 < whi := hIv.1
                have h2 : whi ≤ n := by have := hIv.2.1; rw [HN.out] at this; exact this
                have y6 := hW.f lo0 (by omega)
                have hs5 := hW.sz
                have hl0' := OK.out.l0
                have hl2' := OK.out.l2
                have zB : b.B < wr.heap.size := by omega
                have z2 : b.g2 < wr.heap.size := by omega
                clear hW hBl hLv hLb hmade hIv hlen hlo hhi
                go_upto_region 20 with fail
                have hT := turn_begin (lo := lo0) (whi := whi) OK.out hgf (by omega : k + t < N + 1) HW.out HBl.out
                generalize hwx : ((wr.setCell ⟨b.g2, k + t, none⟩ (.int .i32 (made : Int))).alloc (.cells #[.int .i64 (lo0 : Int), .int .i64 (whi : Int)] 51)) = wx at hT ⊢
                generalize hbk : wr.heap.size = bk at hT ⊢
                generalize hT1 : ({ T with fst := upd T.fst (k + t) made } : Tab) = T1 at hT
                clear y1 y2 y3 y4 y5 y6 zB z2 hs5 hwx hbk HW HBl hT1
                have HTn : Hid (Turn w gf o n fs b N F lv bw (.slice (some ⟨g, 0, none⟩) lv.length cl) (.slice ab bw.length cb) (k + t) made lo0 whi bk ps T1 wx) := hT
                have y1 := hT.c0
                have y2 := hT.w.f lo0 (by omega)
                have y3 := hT.f0
                clear hT
                have hsz : (fm F lo0).length = (fs lo0).size := by rw [HF.out lo0 (by omega)]; simp
                have HSZ : Hid ((fm F lo0).length = (fs lo0).size) := hsz
                clear hsz
                go_upto_if 80 with fail
                go_cut [] (fun wy => CutA w gf o n fs b N F lv bw (.slice (some ⟨g, 0, none⟩) lv.length cl) (.slice ab bw.length cb) (k + t) made whi bk d ps T1 wy)
                case first =>
                  by_cases hde : (fs lo0).size = d
                  · have e1 : (((fs lo0).size : Int) == (d : Int)) = true := beq_iff_eq.2 (by omega)
                    have HSp : Hid (Span F (ps (k + t)) (lo0 + 1) whi d) := HIv.out.spanEq HS.out HLn.out (by rw [HSZ.out]; exact hde)
                    clear hde
                    go_wp2
                    go_meet
                    case rel => exact ⟨lo0 + 1, HTn.out.step OK.out hgf, HSp.out, by omega⟩
                  · have e1 : (((fs lo0).size : Int) == (d : Int)) = false := beq_eq_false_iff_ne.2 (by omega)
                    have HSp : Hid (Span F (ps (k + t)) lo0 whi d) := HIv.out.spanNe HS.out HLn.out (by rw [HSZ.out]; exact hde)
                    clear hde
                    go_wp2
                    go_meet
                    case rel => exact ⟨lo0, HTn.out, HSp.out, by omega⟩
                case rest =>
                  clear HTn y1 y2 y3 HSZ
                  obtain ⟨st, hT, hSp, hst⟩ := hcut
                  have HSp : Hid (Span F (ps (k + t)) st whi d) := hSp
                  have HTn : Hid (Turn w gf o n fs b N F lv bw (.slice (some ⟨g, 0, none⟩) lv.length cl) (.slice ab bw.length cb) (k + t) made st whi bk ps T1 wc) := hT
                  have y1 := hT.c0
                  clear hT hSp
                  go_wp2
                  refine loop4 w gf o n cf fs b N F lv (.slice (some ⟨g, 0, none⟩) lv.length cl) k d (k + t) made st whi bk (ps (k + t)) _ HS HN HF HNc b1 hnb OK hgf HSp hd h2 HTn.out.base _ _ _ _ _ _ _ _ _ _ _ _ _ _ _ _ _ _ _ _ _ _ _ _ _ _ _ _ _ _ _ _ _ _ _ _ _ _ _ _ _ _ _ _ _ _ _ _ _ _ _ _ _ _ _ _ _ _ _ _ _ _ _ _ _ _ _ _ _ _ _ _ _ _ _ _ _ _ _ _ _ _ _ _ _ _ _ _ _ _ _ _ _ _ _ _ _ _ _ _ _ _ _ _ _ _ _ _ _ _ _ _ _ _ _ _ _ _ _ _ _ _ _ _ _ _ _ _ _ _ _ _ _ _ _ _ _ _ _ _ _ _ _ _ _ _ _ _ _ _ _ _ _ _ _ _ _ _ _ _ _ _ _ _ _ _ _ _ _ _ _ _ _ _ _ _ _ _ _ _ _ _ _ _ _ _ _ _ _ _ _ _ _ _ _ _ _ _ _ _ wc ?hR ?hx
                  case hR =>
                    exact ⟨st, made, cb, ab, bw, ps, T1, rfl, rfl, rfl, Nat.le_refl _, hst, HTn.out.w, HTn.out.b.open_ hkt HSp.out, rfl, fun t u a b => (by omega), HTn.out.c1, HTn.out.n8, HTn.out.lt, HLv.out, HLb.out, HMa.out⟩
                  case hx =>
                    intro x8 x10 x14 x15 x16 x87 x88 x89 x90 x91 x92 x93 x94 x95 x96 x97 x98 x99 x100 x101 x102 x103 x104 x105 x106 x107 x108 x109 x110 x111 x112 x113 x114 x115 x116 x117 x118 x119 x120 x121 x122 x123 x124 x125 x126 x127 x128 x129 x130 x131 x132 x133 x134 x135 x136 x137 x138 x139 x140 x141 x142 x143 x144 x145 x146 x147 x148 x149 x150 x151 x152 x153 x154 x155 x156 x157 x158 x159 x160 x161 x162 x163 x164 x165 x166 x167 x168 x169 x170 x171 x172 x173 x174 x175 x176 x177 x178 x179 x180 x181 x182 x183 x184 x185 x186 x187 x188 x189 x190 wx hEnd
                    clear y1 HTn HSp HLb HMa HIv HLn
                    obtain ⟨made', cb', ab', bw', ps', T', rfl, rfl, hW', hB', hLv', hLb', hMa'⟩ := hEnd
                    have HR : Hid (R3 w gf o n fs b N F lv (.slice (some ⟨g, 0, none⟩) lv.length cl) k d (.int .i64 ((t + 1 : Nat) : Int)) (.slice ab' bw'.length cb') (.int .i32 ((k + t + 1 : Nat) : Int)) (.int .i32 (made' : Int)) wx) :=
                      ⟨t + 1, made', cb', ab', bw', ps', T', rfl, by omega, rfl, rfl, rfl, hW', hB', hLv', hLb', hMa'⟩
                    clear hW' hB' hLv' hLb' hMa'
                    go_wp2
                    go_roundw
                    case rel => exact HR.out
                    case measure => simp [intOf]; omega
              · have hte : t = lv.length := by omega
                have HR : Hid (∀ m, R2 w gf o n fs b N F (.slice ab bw.length cb) (.slice (some ⟨g, 0, none⟩) 0 cl) (.int .i32 ((k + t : Nat) : Int)) (.int .i32 (made : Int)) (.int .i64 ((d + 1 : Nat) : Int)) (wr.drewN m)) := by
                  intro m
                  refine ⟨bw, k + t, made, d + 1, cb, ab, ps, T, rfl, rfl, rfl, rfl, hW.swap.drewN m, hBl, ?_, by omega⟩
                  rw [hte]
                  exact hLb
                clear hW hBl hLv hLb HBl HLv HLb HMa
                have hkt2 : k + t ≤ made := by omega
                go_wp2
                go_quiet (fail)
                go_wp2
                go_roundw
                case rel => exact HR.out _
                case measure => simp [intOf]; omega

end Go.Proofs.Qxb6600140a
